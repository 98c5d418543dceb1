/-
  'Rows.FnEightbytesMatchesClassificationSaid': the frame after the kit's shell for a law over slices ('post' limb by limb, 'Below.trod' for the slice read again); the slice of fields opened here by hand; the walk: Qxb6602112aLaw.
-/
import Derived.Test.Qxb6602112aLaw
import Derived.ProofKit
import Derived.OpenShut
import Derived.ShutString
import Derived.ChangeOld
import Derived.Below
import Derived.Deep.Slices
namespace Go.Proofs.Qxb6602112a.fnEightbytesMatchesClassification
open Go.ChangeShapes Go.WideShapes Go.ChangeAt Go.RowKit
set_option linter.unusedVariables false

theorem own : ownKnob Try.prog.godebug = none := by kernel_rfl
theorem laidOut : laidOutB Try.prog = true := by kernel_rfl
theorem cells40 : Try.prog.cellsOf 40 = 3 := by kernel_rfl
theorem cells4 : Try.prog.cellsOf 4 = 1 := by kernel_rfl
theorem cells3 : Try.prog.cellsOf 3 = 1 := by kernel_rfl

/-- what the walk is told of the slice of fields that came in -/
theorem open_flds {H : Type} {enc : TypeId × Value → H} {W : World} {base fuel : Nat} {spare : Nat → Bool} {held : Bool} {a : Option Addr} {len cap : Nat} {x : DataW H × List MemPlace}
    (h : DataW.trod enc Try.prog W base spare held fuel 27 [.slice a len cap] = some x) :
    len ≤ 9223372036854775807 ∧ ∃ (K O : Nat → Int) (P : Nat → Bool), fd.Inp W a len K O P := by
  rcases Deep.open_slice Try.underlying27 h with ⟨hcs, _⟩ | ⟨ad, len', cap', m, n, D, Pl, hcs, hb, hl, hm, hmm, _, hx⟩
  · simp at hcs; exact ⟨by omega, fun _ => 0, fun _ => 0, fun _ => false, fun h => by omega⟩
  · simp at hcs
    obtain ⟨rfl, rfl, rfl⟩ := hcs
    by_cases h0 : len = 0
    · exact ⟨by omega, fun _ => 0, fun _ => 0, fun _ => false, fun h => by omega⟩
    have hlm : len ≤ m := by rw [hmm]; split <;> omega
    have each : ∀ i, i < len → ∃ q : Int × Int × Bool, W.cell? (ad.add (i * 3)) = some (.int .i64 q.1) ∧ W.cell? (ad.add (i * 3 + 1)) = some (.int .i64 q.2.1) ∧ W.cell? (ad.add (i * 3 + 2)) = some (.bool q.2.2) := by
      intro i hi
      obtain ⟨cs', h1, h2⟩ := hx i (by omega)
      rw [cells40] at h1
      obtain ⟨_, hlen, hcell⟩ := World.cells?_some h1
      obtain ⟨xs, k, hk, hxy, _, hxl, hf⟩ := DataW.trod_struct Try.underlying40 h2
      match xs, hxl, cs', hlen with
      | [y0, y1, y2], _, [v0, v1, v2], _ =>
        have g0 := hf 0 _ rfl
        have g1 := hf 1 _ rfl
        have g2 := hf 2 _ rfl
        simp [cells4, cells3] at g0 g1 g2
        have e0 := hcell 0 (by omega)
        have e1 := hcell 1 (by omega)
        have e2 := hcell 2 (by omega)
        rw [Deep.add_add] at e0 e1 e2
        obtain ⟨k0, r0, _, _⟩ := DataW.trod_int Try.underlying3 g0
        obtain ⟨k1, r1, _, _⟩ := DataW.trod_int Try.underlying3 g1
        obtain ⟨k2, r2, _⟩ := DataW.trod_bool Try.underlying4 g2
        simp at r0 r1 r2
        subst r0 r1 r2
        exact ⟨(k0, k1, k2), e0, e1, e2⟩
    obtain ⟨q, hq⟩ := Deep.choose_lt each
    have hc0 := (hq 0 (by omega)).1
    obtain ⟨b, off, spot⟩ := ad
    have hspot : spot = none := by simpa [Addr.add] using World.cell?_spot hc0
    subst hspot
    have hlt := block_lt_of_cell hc0
    have pl : ∀ j, (⟨b, off, none⟩ : Addr).add j = ⟨b, off + j, none⟩ := by
      intro j
      unfold Addr.add
      by_cases h : j = 0 <;> simp [h]
    rw [pl] at hlt
    refine ⟨by unfold maxLen at hm; omega, fun i => (q i).1, fun i => (q i).2.1, fun i => (q i).2.2, fun _ => ⟨b, off, rfl, hlt, fun i hi => ?_, fun i hi => ?_, fun i hi => ?_⟩⟩
    · have := (hq i hi).1; rwa [pl] at this
    · have := (hq i hi).2.1; rwa [pl] at this
    · have := (hq i hi).2.2; rwa [pl] at this

theorem walk (a0 : Int) (a1 : Option Addr) (len1 cap1 : Nat) (w : World) (w0 : (Lit.int .i64 a0).wf = true)
    (h : len1 ≤ 9223372036854775807 ∧ ∃ (K O : Nat → Int) (P : Nat → Bool), fd.Inp w a1 len1 K O P) :
    Calls Try.prog 5 #[.int .i64 a0, .slice a1 len1 cap1] w fun e w' => e = .returned (.bool true) ∧ Below w.heap.size w w' := by
  obtain ⟨hl, K, O, P, hin⟩ := h
  by_cases h1 : 32768 < len1
  · exact fd.law_long w a1 len1 cap1 a0 hl h1
  · obtain ⟨d0, d1⟩ := bounds_i64 w0
    exact fd.law_short w a1 len1 cap1 a0 K O P hin (by omega) d0

set_option maxRecDepth 100000 in
theorem lifted (os : Os) (started : os.Started) (H : Type) (enc : TypeId × Value → H) :
    ReturnsInHanded {} Try.checked os 5 .any (Rows.fnEightbytesMatchesClassificationSpec.pre6 enc Try.prog Try.f5 Rows.fnEightbytesMatchesClassificationRow.domain false) (Rows.fnEightbytesMatchesClassificationSpec.post enc Try.prog Try.f5 false true false false) := by
  refine returnsInHanded_of_change (C := Try.checked) own started (by kernel_rfl) Try.func5
    (ChangeSpec.witness6 (enc := enc) (C := Try.checked) false ⟨#[], #[.int .i64 0, .slice none 0 0], []⟩ 8 (by kernel_rfl) (by kernel_rfl) (by kernel_rfl) (by kernel_rfl)) ?_
  intro W base args ds gs before hval0 hW hcnd _
  have hval : ∀ (j : Nat) t v, Try.f5.params[j]? = some t → args[j]? = some v → Value.okWide Try.prog W .any base t v := hval0
  have hW' := hW
  obtain ⟨p, q, hA0, hV, rfl, hfz, hnd⟩ := hW
  have hA : DataW.TrodAll enc Try.prog W 0 (fun _ => true) true Try.f5.params.toList args.toList ds p := hA0
  rw [Try.params5] at hA hval
  obtain ⟨v0, vs0, d0, ds0, p0, q0, hargs, rfl, rfl, h0, r0⟩ := trodAll_cons hA
  obtain ⟨v1, vs1, d1, ds1, p1, q1, rfl, rfl, rfl, h1, r1⟩ := trodAll_cons r0
  obtain ⟨rfl, rfl, rfl⟩ := trodAll_nil r1
  obtain rfl : args = #[v0, v1] := by cases args; simp_all
  obtain ⟨rfl, rfl⟩ := trodVars_none hV
  obtain ⟨a0, rfl, rfl, rfl, w0⟩ := open_int Try.underlying3 (hval 0 3 v0 rfl rfl) h0
  obtain ⟨a1, len1, cap1, rfl⟩ := okWide_slice Try.underlying27 (hval 1 27 v1 rfl rfl)
  have k1 := h1
  have lt1 : ∀ x ∈ p1, x.block < W.heap.size := by obtain ⟨m, hm⟩ := k1; exact DataW.trod_lt m _ _ _ hm
  have w1 := (by obtain ⟨fuel, hf⟩ := h1; exact open_flds (by simpa [Value.cells] using hf) : len1 ≤ 9223372036854775807 ∧ ∃ (K O : Nat → Int) (P : Nat → Bool), fd.Inp W a1 len1 K O P)
  clear hA0 hval0
  refine (walk a0 a1 len1 cap1 W w0 w1).mono fun e W' ⟨he, bel⟩ => ?_
  subst he
  exact ⟨_, rfl, _, _, _, [], _, [], hW', trodAll_mk1 (shut_bool Try.underlying4 _), (trodAll_cons_mk (shut_int Try.underlying3 w0) (trodAll_cons_mk (Below.trod laidOut (by kernel_rfl) (of_decide_eq_true (by kernel_rfl)) k1 bel lt1) trodAll_mk0)), rfl, bel.frame _, fun h => by cases h⟩

theorem over : Rows.fnEightbytesMatchesClassificationRow.holds Try.pinned (OpenSpec.ofChange Rows.fnEightbytesMatchesClassificationSpec) :=
  OpenClaim.holds_of_wide 5 Try.f5 rfl rfl rfl rfl rfl rfl rfl ⟨rfl, rfl, rfl, rfl, rfl⟩ rfl rfl rfl rfl rfl (by kernel_rfl) Try.func5 (by kernel_rfl)
    (of_decide_eq_true (by kernel_rfl)) (by unfold Func.isWrapper; first | (rw [if_pos (by decide +kernel)]; kernel_rfl) | (rw [if_neg (by decide +kernel)]; exact ⟨rfl, rfl⟩))
    (fun os started H enc _ => lifted os started H enc)

/-- ████ THE STATEMENT ████ -/
theorem proved : Rows.FnEightbytesMatchesClassificationSaid :=
  over
end Go.Proofs.Qxb6602112a.fnEightbytesMatchesClassification
