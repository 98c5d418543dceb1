/-
  'Rows.FnColumnAroundMatchesBalancedScanSaid': the frame after the kit's shell for a law over slices ('post' limb by limb, 'Below.trod' for the slice read again); the slice of tokens opened here by hand; the walk: Qxb6602187aLaw.
-/
import Derived.Test.Qxb6602187aLaw
import Derived.ProofKit
import Derived.OpenShut
import Derived.ShutString
import Derived.ChangeOld
import Derived.Below
import Derived.Deep.Slices
namespace Go.Proofs.Qxb6602187a.fnColumnAroundMatchesBalancedScan
open Go.ChangeShapes Go.WideShapes Go.ChangeAt Go.RowKit
open Go.ChangeMaps (open_string shut_string)
set_option linter.unusedVariables false

theorem own : ownKnob Try.prog.godebug = none := by kernel_rfl
theorem laidOut : laidOutB Try.prog = true := by kernel_rfl
theorem cells36 : Try.prog.cellsOf 36 = 5 := by kernel_rfl
theorem cells5 : Try.prog.cellsOf 5 = 1 := by kernel_rfl
theorem cells4 : Try.prog.cellsOf 4 = 1 := by kernel_rfl
theorem cells9 : Try.prog.cellsOf 9 = 1 := by kernel_rfl
theorem cells3 : Try.prog.cellsOf 3 = 1 := by kernel_rfl

/-- what the walk is told of the slice of tokens that came in -/
theorem open_toks {H : Type} {enc : TypeId × Value → H} {W : World} {base fuel : Nat} {spare : Nat → Bool} {held : Bool} {a : Option Addr} {len cap : Nat} {x : DataW H × List MemPlace}
    (h : DataW.trod enc Try.prog W base spare held fuel 22 [.slice a len cap] = some x) :
    len = 0 ∨ ∃ (b off : Nat) (K : Nat → Int) (Q : Nat → Bool) (X : Nat → ByteArray) (A E : Nat → Int), a = some ⟨b, off, none⟩ ∧ len ≤ 9223372036854775807 ∧ tk.Toks W b off len K Q X A E := by
  rcases Deep.open_slice Try.underlying22 h with ⟨hcs, _⟩ | ⟨ad, len', cap', m, n, D, Pl, hcs, hb, hl, hm, hmm, _, hx⟩
  · simp at hcs; exact .inl hcs.2.1
  · simp at hcs
    obtain ⟨rfl, rfl, rfl⟩ := hcs
    by_cases h0 : len = 0
    · exact .inl h0
    right
    have hlm : len ≤ m := by rw [hmm]; split <;> omega
    have each : ∀ i, i < len → ∃ q : Int × Bool × ByteArray × Int × Int, W.cell? (ad.add (i * 5)) = some (.int .u8 q.1) ∧ W.cell? (ad.add (i * 5 + 1)) = some (.bool q.2.1) ∧ W.cell? (ad.add (i * 5 + 2)) = some (.string q.2.2.1) ∧
        W.cell? (ad.add (i * 5 + 3)) = some (.int .i64 q.2.2.2.1) ∧ W.cell? (ad.add (i * 5 + 4)) = some (.int .i64 q.2.2.2.2) ∧ q.2.2.1.size ≤ maxLen := by
      intro i hi
      obtain ⟨cs', h1, h2⟩ := hx i (by omega)
      rw [cells36] at h1
      obtain ⟨_, hlen, hcell⟩ := World.cells?_some h1
      obtain ⟨xs, k, hk, hxy, _, hxl, hf⟩ := DataW.trod_struct Try.underlying36 h2
      match xs, hxl, cs', hlen with
      | [y0, y1, y2, y3, y4], _, [v0, v1, v2, v3, v4], _ =>
        have g0 := hf 0 _ rfl
        have g1 := hf 1 _ rfl
        have g2 := hf 2 _ rfl
        have g3 := hf 3 _ rfl
        have g4 := hf 4 _ rfl
        simp [cells5, cells4, cells9, cells3] at g0 g1 g2 g3 g4
        have e0 := hcell 0 (by omega)
        have e1 := hcell 1 (by omega)
        have e2 := hcell 2 (by omega)
        have e3 := hcell 3 (by omega)
        have e4 := hcell 4 (by omega)
        rw [Deep.add_add] at e0 e1 e2 e3 e4
        obtain ⟨k0, r0, _, _⟩ := DataW.trod_int Try.underlying5 g0
        obtain ⟨k1, r1, _⟩ := DataW.trod_bool Try.underlying4 g1
        obtain ⟨k2, r2, _, hz2⟩ := DataW.trod_string Try.underlying9 g2
        obtain ⟨k3, r3, _, _⟩ := DataW.trod_int Try.underlying3 g3
        obtain ⟨k4, r4, _, _⟩ := DataW.trod_int Try.underlying3 g4
        simp at r0 r1 r2 r3 r4
        subst r0 r1 r2 r3 r4
        exact ⟨(k0, k1, k2, k3, k4), e0, e1, e2, e3, e4, hz2⟩
    obtain ⟨q, hq⟩ := Deep.choose_lt each
    have hc0 := (hq 0 (by omega)).1
    obtain ⟨b, off, spot⟩ := ad
    have hspot : spot = none := by simpa [Addr.add] using World.cell?_spot hc0
    subst hspot
    have hlt := block_lt_of_cell hc0
    have pl : ∀ j, (⟨b, off, none⟩ : Addr).add j = ⟨b, off + j, none⟩ := by
      intro j
      unfold Addr.add
      by_cases h : j = 0 <;> simp [h]
    rw [pl] at hlt
    refine ⟨b, off, fun i => (q i).1, fun i => (q i).2.1, fun i => (q i).2.2.1, fun i => (q i).2.2.2.1, fun i => (q i).2.2.2.2, rfl, by unfold maxLen at hm; omega, hlt, fun i hi => ?_, fun i hi => ?_, fun i hi => ?_, fun i hi => ?_, fun i hi => ?_, fun i hi => ?_⟩
    · have := (hq i hi).1; rwa [pl] at this
    · have := (hq i hi).2.1; rwa [pl] at this
    · have := (hq i hi).2.2.1; rwa [pl] at this
    · have := (hq i hi).2.2.2.1; rwa [pl] at this
    · have := (hq i hi).2.2.2.2.1; rwa [pl] at this
    · have := (hq i hi).2.2.2.2.2; unfold maxLen at this; omega

theorem walk (a0 : Option Addr) (len0 cap0 : Nat) (a1 a2 a3 a4 : Int) (w : World) (w4 : (Lit.int .i64 a4).wf = true)
    (h : len0 = 0 ∨ ∃ (b off : Nat) (K : Nat → Int) (Q : Nat → Bool) (X : Nat → ByteArray) (A E : Nat → Int), a0 = some ⟨b, off, none⟩ ∧ len0 ≤ 9223372036854775807 ∧ tk.Toks w b off len0 K Q X A E) :
    Calls Try.prog 3 #[.slice a0 len0 cap0, .int .i64 a1, .int .i64 a2, .int .i64 a3, .int .i64 a4] w fun e w' => e = .returned (.bool true) ∧ Below w.heap.size w w' := by
  rcases h with rfl | ⟨b, off, K, Q, X, A, E, rfl, hl, ht⟩
  · exact la.law_empty w a0 cap0 a1 a2 a3 a4
  · obtain ⟨d0, d1⟩ := bounds_i64 w4
    exact la.law_full w b off len0 cap0 K Q X A E ht hl a1 a2 a3 a4 d0 d1

set_option maxRecDepth 100000 in
theorem lifted (os : Os) (started : os.Started) (H : Type) (enc : TypeId × Value → H) :
    ReturnsInHanded {} Try.checked os 3 .any (Rows.fnColumnAroundMatchesBalancedScanSpec.pre6 enc Try.prog Try.f3 Rows.fnColumnAroundMatchesBalancedScanRow.domain false) (Rows.fnColumnAroundMatchesBalancedScanSpec.post enc Try.prog Try.f3 false true false false) := by
  refine returnsInHanded_of_change (C := Try.checked) own started (by kernel_rfl) Try.func3
    (ChangeSpec.witness6 (enc := enc) (C := Try.checked) false ⟨#[], #[.slice none 0 0, .int .i64 0, .int .i64 0, .int .i64 0, .int .i64 0], []⟩ 8 (by kernel_rfl) (by kernel_rfl) (by kernel_rfl) (by kernel_rfl)) ?_
  intro W base args ds gs before hval0 hW hcnd _
  have hval : ∀ (j : Nat) t v, Try.f3.params[j]? = some t → args[j]? = some v → Value.okWide Try.prog W .any base t v := hval0
  have hW' := hW
  obtain ⟨p, q, hA0, hV, rfl, hfz, hnd⟩ := hW
  have hA : DataW.TrodAll enc Try.prog W 0 (fun _ => true) true Try.f3.params.toList args.toList ds p := hA0
  rw [Try.params3] at hA hval
  obtain ⟨v0, vs0, d0, ds0, p0, q0, hargs, rfl, rfl, h0, r0⟩ := trodAll_cons hA
  obtain ⟨v1, vs1, d1, ds1, p1, q1, rfl, rfl, rfl, h1, r1⟩ := trodAll_cons r0
  obtain ⟨v2, vs2, d2, ds2, p2, q2, rfl, rfl, rfl, h2, r2⟩ := trodAll_cons r1
  obtain ⟨v3, vs3, d3, ds3, p3, q3, rfl, rfl, rfl, h3, r3⟩ := trodAll_cons r2
  obtain ⟨v4, vs4, d4, ds4, p4, q4, rfl, rfl, rfl, h4, r4⟩ := trodAll_cons r3
  obtain ⟨rfl, rfl, rfl⟩ := trodAll_nil r4
  obtain rfl : args = #[v0, v1, v2, v3, v4] := by cases args; simp_all
  obtain ⟨rfl, rfl⟩ := trodVars_none hV
  obtain ⟨a0, len0, cap0, rfl⟩ := okWide_slice Try.underlying22 (hval 0 22 v0 rfl rfl)
  have k0 := h0
  have lt0 : ∀ x ∈ p0, x.block < W.heap.size := by obtain ⟨m, hm⟩ := k0; exact DataW.trod_lt m _ _ _ hm
  have w0 := (by obtain ⟨fuel, hf⟩ := h0; exact open_toks (by simpa [Value.cells] using hf) : len0 = 0 ∨ ∃ (b off : Nat) (K : Nat → Int) (Q : Nat → Bool) (X : Nat → ByteArray) (A E : Nat → Int), a0 = some ⟨b, off, none⟩ ∧ len0 ≤ 9223372036854775807 ∧ tk.Toks W b off len0 K Q X A E)
  obtain ⟨a1, rfl, rfl, rfl, w1⟩ := open_int Try.underlying3 (hval 1 3 v1 rfl rfl) h1
  obtain ⟨a2, rfl, rfl, rfl, w2⟩ := open_int Try.underlying3 (hval 2 3 v2 rfl rfl) h2
  obtain ⟨a3, rfl, rfl, rfl, w3⟩ := open_int Try.underlying3 (hval 3 3 v3 rfl rfl) h3
  obtain ⟨a4, rfl, rfl, rfl, w4⟩ := open_int Try.underlying3 (hval 4 3 v4 rfl rfl) h4
  clear hA0 hval0
  refine (walk a0 len0 cap0 a1 a2 a3 a4 W w4 w0).mono fun e W' ⟨he, bel⟩ => ?_
  subst he
  exact ⟨_, rfl, _, _, _, [], _, [], hW', trodAll_mk1 (shut_bool Try.underlying4 _), (trodAll_cons_mk (Below.trod laidOut (by kernel_rfl) (of_decide_eq_true (by kernel_rfl)) k0 bel lt0) (trodAll_cons_mk (shut_int Try.underlying3 w1) (trodAll_cons_mk (shut_int Try.underlying3 w2) (trodAll_cons_mk (shut_int Try.underlying3 w3) (trodAll_cons_mk (shut_int Try.underlying3 w4) trodAll_mk0))))), rfl, bel.frame _, fun h => by cases h⟩

theorem over : Rows.fnColumnAroundMatchesBalancedScanRow.holds Try.pinned (OpenSpec.ofChange Rows.fnColumnAroundMatchesBalancedScanSpec) :=
  OpenClaim.holds_of_wide 3 Try.f3 rfl rfl rfl rfl rfl rfl rfl ⟨rfl, rfl, rfl, rfl, rfl⟩ rfl rfl rfl rfl rfl (by kernel_rfl) Try.func3 (by kernel_rfl)
    (of_decide_eq_true (by kernel_rfl)) (by unfold Func.isWrapper; first | (rw [if_pos (by decide +kernel)]; kernel_rfl) | (rw [if_neg (by decide +kernel)]; exact ⟨rfl, rfl⟩))
    (fun os started H enc _ => lifted os started H enc)

/-- ████ THE STATEMENT ████ -/
theorem proved : Rows.FnColumnAroundMatchesBalancedScanSaid :=
  over
end Go.Proofs.Qxb6602187a.fnColumnAroundMatchesBalancedScan
