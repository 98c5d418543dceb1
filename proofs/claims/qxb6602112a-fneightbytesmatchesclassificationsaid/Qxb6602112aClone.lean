import Derived.Test.Qxb6602112aDel
import Derived.WalkSpells
/-
  'slices.Clone' (function 26) and '(Type).CFields' (function 23).
-/
namespace Go.Proofs.Qxb6602112a.fd
open Go.ChangeShapes Go.WideShapes Go.ChangeAt Go.RowKit

theorem info48 : (Try.prog.info? 48).map (fun i => (i.zero, i.size, i.bytes)) = some (some (.agg Zc), 15, 128) := by kernel_rfl

theorem add0 (g j : Nat) : (⟨g, 0, none⟩ : Addr).add j = ⟨g, j, none⟩ := by
  unfold Addr.add
  by_cases h : j = 0 <;> simp [h]

/-- the cells of L, as a list -/
def cellsOf (L : List T) : List Value := (List.range (L.length * 15)).map (flat L)
theorem cellsOf_length (L : List T) : (cellsOf L).length = L.length * 15 := by simp [cellsOf]
theorem cellsOf_get (L : List T) (j : Nat) (hj : j < L.length * 15) : (cellsOf L)[j]? = some (flat L j) := by simp [cellsOf, hj]
theorem elV_one (t : T) (j : Nat) : (elV t j).oneCell' = true := by
  unfold elV
  split <;> rfl
theorem cellsOf_one (L : List T) : ∀ u ∈ cellsOf L, u.oneCell' = true := by
  intro u hu
  obtain ⟨j, _, rfl⟩ := List.mem_map.1 hu
  exact elV_one _ _

theorem own_row {w : World} {B n : Nat} {v : Value} {L : List T} (h : w.ownsRow B 48 15 v n (cellsOf L)) (hn : n = L.length) (h0 : 0 < n) :
    ∃ g cap, v = .slice (some ⟨g, 0, none⟩) n cap ∧ n ≤ cap ∧ B ≤ g ∧ Row w g n (flat L) := by
  have hcs := fun g e => h.cells (g := g) e
  obtain ⟨_, ⟨_, h2⟩ | ⟨g, cap, cur, rfl, hb, hh, hc, _, _, _⟩⟩ := h
  · omega
  · refine ⟨g, cap, rfl, hc, hb, fun i hi => ⟨?_, ?_⟩⟩
    · have := hcs g rfl i (flat L i) (cellsOf_get L i (by omega))
      rwa [add0] at this
    · simp [World.frozen?, hh]

theorem own_empty (w : World) : (w.alloc (.cells #[] 48)).ownsRow w.heap.size 48 15 (.slice (some ⟨w.heap.size, 0, none⟩) 0 0) 0 [] :=
  ⟨rfl, .inr ⟨w.heap.size, 0, #[], rfl, Nat.le_refl _, by show (w.heap.push _)[w.heap.size]? = _; simp, Nat.le_refl _, Nat.zero_le _, rfl, rfl⟩⟩

theorem clone_any (w : World) (g cap : Nat) (L : List T) (hr : Row w g L.length (flat L)) (hn : L.length ≤ 32768) (h0 : 0 < L.length) :
    Calls Try.prog 26 #[.slice (some ⟨g, 0, none⟩) L.length cap] w fun e w' =>
      ∃ g' cap', e = .returned (.slice (some ⟨g', 0, none⟩) L.length cap') ∧ L.length ≤ cap' ∧ w.heap.size ≤ g' ∧ Row w' g' L.length (flat L) ∧ Below w.heap.size w w' := by
  have hnil := fun w => Lib.run_eql_slice_nil (P := Try.prog) w 33 48 (some ⟨g, 0, none⟩) L.length cap 0 0 Try.underlying33
  obtain ⟨i0, hi, hz0, hz1, hz2⟩ := info_parts info48
  have hra := hr.alloc (.cells #[] 48)
  have HC : Hid (∀ j u, (cellsOf L)[j]? = some u → (w.alloc (.cells #[] 48)).cell? ((⟨g, 0, none⟩ : Addr).add j) = some u) := by
    intro j u hj
    have hlt : j < L.length * 15 := by have := (List.getElem?_eq_some_iff.1 hj).1; rwa [cellsOf_length] at this
    rw [cellsOf_get L j hlt] at hj
    rw [add0, (hra j hlt).1]
    exact hj
  have hb0 : Below w.heap.size w (w.alloc (.cells #[] 48)) := (Below.refl _ w).alloc (Nat.le_refl _) _
  have hown := own_empty w
  clear hra hr
  go_enter Try.func26, Try.ntmps26
  go_wp2_with (at_builtin; refine wpList_append_own _ rfl (.tmp 5) (.tmp 6) 33 rfl w.heap.size 48 i0 (.agg Zc) 15 128 Try.underlying33 hi hz0 hz1 hz2 rfl (by decide) _ 0 [] rfl hown ⟨g, 0, none⟩ L.length cap (cellsOf L) rfl (cellsOf_length L) HC.out (cellsOf_one L) (by unfold maxLen; omega) (by omega) (by simp) ?_; intro v' w1 hown' hg1 hv1)
  have hex := own_row (n := 0 + L.length) (by simpa using hown') (by omega) (by omega)
  obtain ⟨g', cap', hv, hc', hg', hrow⟩ := hex
  have hbb : Below w.heap.size w w1 := hb0.grown hg1 (by simp) (fun k hk => (hown.lt k hk).1)
  rw [hv]
  rw [Nat.zero_add] at hc' hrow ⊢
  clear hown' hg1 hv1 hv
  go_wp2
  go_ret
  exact ⟨g', cap', rfl, hc', hg', hrow, hbb⟩

theorem clone_empty (w : World) (a : Option Addr) (cap : Nat) : Calls Try.prog 26 #[.slice a 0 cap] w fun e w' => ∃ a' cap', e = .returned (.slice a' 0 cap') ∧ Below w.heap.size w w' := by
  have hnil := fun w => Lib.run_eql_slice_nil (P := Try.prog) w 33 48 a 0 cap 0 0 Try.underlying33
  cases a with
  | none =>
    go_enter Try.func26, Try.ntmps26
    go_wp2
    go_ret
    exact ⟨none, 0, rfl, Below.refl _ _⟩
  | some a =>
    go_enter Try.func26, Try.ntmps26
    go_wp2
    go_ret
    exact ⟨_, _, rfl, (Below.refl _ _).alloc (Nat.le_refl _) _⟩

/-- a slice of fields as a caller finds it: where there are any, they stand at the head of a block -/
def At (W : World) (v : Value) (L : List T) : Prop := ∃ a c, v = .slice a L.length c ∧ (0 < L.length → ∃ g, a = some ⟨g, 0, none⟩ ∧ Row W g L.length (flat L))
theorem At.below {W W' : World} {v : Value} {L : List T} (h : At W v L) (hb : Below W.heap.size W W') : At W' v L := by
  obtain ⟨a, c, hv, hr⟩ := h
  exact ⟨a, c, hv, fun h0 => let ⟨g, hg, hrow⟩ := hr h0; ⟨g, hg, hrow.below hb⟩⟩

set_option maxHeartbeats 1000000 in
theorem cf_empty (w : World) (a : Option Addr) (c : Nat) (sz : Int) (c0 : Int) :
    Calls Try.prog 23 #[.agg #[.int .i64 c0, .int .i64 sz, .bool false, .bool false, .bool false, .pointer none, .slice a 0 c, .bool false, .bool false, .bool false, .slice none 0 0, .int .i64 0, .string ByteArray.empty, .pointer none]] w fun e w' =>
      ∃ v, e = .returned v ∧ At w' v [] ∧ Below w.heap.size w w' := by
  have HC : Hid (∀ W, Calls Try.prog 26 #[.slice a 0 c] W fun e w' => ∃ a' cap', e = .returned (.slice a' 0 cap') ∧ Below W.heap.size W w') := fun W => clone_empty W a c
  go_enter Try.func23, Try.ntmps23
  go_wp2_with fail
  refine (HC.out _).mono ?_
  rintro e w1 ⟨a', cap', rfl, hb⟩
  go_wp2_with (go_at_call 25; refine (del_empty _ _ _).mono ?_; rintro e w' ⟨rfl, rfl⟩)
  go_ret
  exact ⟨_, rfl, ⟨a', cap', rfl, fun h => absurd h (by simp)⟩, ((Below.refl _ _).alloc (Nat.le_refl _) _).trans (hb.mono (by simp))⟩

set_option maxHeartbeats 1000000 in
theorem cf_full (w : World) (g cap : Nat) (L : List T) (hr : Row w g L.length (flat L)) (hn : L.length ≤ 32768) (h0 : 0 < L.length) (sz : Int) (c0 : Int) :
    Calls Try.prog 23 #[.agg #[.int .i64 c0, .int .i64 sz, .bool false, .bool false, .bool false, .pointer none, .slice (some ⟨g, 0, none⟩) L.length cap, .bool false, .bool false, .bool false, .slice none 0 0, .int .i64 0, .string ByteArray.empty, .pointer none]] w fun e w' =>
      ∃ v, e = .returned v ∧ At w' v (L.filter keep) ∧ Below w.heap.size w w' := by
  have HC : Hid (∀ W, Row W g L.length (flat L) → Calls Try.prog 26 #[.slice (some ⟨g, 0, none⟩) L.length cap] W fun e w' =>
      ∃ g' cap', e = .returned (.slice (some ⟨g', 0, none⟩) L.length cap') ∧ L.length ≤ cap' ∧ W.heap.size ≤ g' ∧ Row w' g' L.length (flat L) ∧ Below W.heap.size W w') := fun W hW => clone_any W g cap L hW hn h0
  have HD : Hid (∀ W g cap, Row W g L.length (flat L) → L.length ≤ cap → Below w.heap.size w W → w.heap.size ≤ g → Calls Try.prog 25 #[.slice (some ⟨g, 0, none⟩) L.length cap, .func (.func 27) #[] #[]] W fun e w' =>
      e = .returned (.slice (some ⟨g, 0, none⟩) (L.filter keep).length cap) ∧ Row w' g (L.filter keep).length (flat (L.filter keep)) ∧ Below w.heap.size w w') := fun W g cap hW hc hb hg => del_any W g cap L hW hn hc w hb hg
  go_enter Try.func23, Try.ntmps23
  go_wp2_with fail
  refine (HC.out _ (hr.alloc _)).mono ?_
  rintro e w1 ⟨g', cap', rfl, hcap, hg, hr1, hb1⟩
  have hbb : Below w.heap.size w w1 := ((Below.refl _ _).alloc (Nat.le_refl _) _).trans (hb1.mono (by simp))
  have hgg : w.heap.size ≤ g' := by simp at hg; omega
  clear hg hb1
  go_wp2_with fail
  refine (HD.out _ _ _ hr1 hcap hbb hgg).mono ?_
  rintro e w2 ⟨rfl, hr2, hb2⟩
  go_wp2
  go_ret
  exact ⟨_, rfl, ⟨_, _, rfl, fun _ => ⟨g', rfl, hr2⟩⟩, hb2⟩
end Go.Proofs.Qxb6602112a.fd
