import Derived.Test.Qxb6602112aEb
import Derived.Laws.Cover3
/-
  'ebType' (function 14), walked.
-/
namespace Go.Proofs.Qxb6602112a.fd
open Go.ChangeShapes Go.WideShapes Go.ChangeAt Go.RowKit

theorem new15n (X : World) (k o : Int) (p : Bool) (n : Nat) (h : X.heap.size = n) : ∀ (j : Nat) (u : Value), (row15 ⟨k, o, p⟩)[j]? = some u → (X.alloc (.cells #[.int .i64 k, .int .i64 0, .bool false, .bool false, .bool false, .pointer none, .slice none 0 0, .bool false, .bool p, .bool false, .slice none 0 0, .int .i64 0, .string { data := #[] }, .pointer none, .int .i64 o] 48)).cell? ((⟨n, 0, none⟩ : Addr).add j) = some u := by
  subst h
  exact new15 X k o p

set_option maxHeartbeats 4000000 in
theorem eb_full (w : World) (b off len cap : Nat) (K O : Nat → Int) (P : Nat → Bool) (hf : Flds w b off len K O P) (hn : len ≤ 32768) (sz : Int) :
    Calls Try.prog 14 #[.int .i64 sz, .slice (some ⟨b, off, none⟩) len cap] w fun e w' =>
      ∃ v, e = .returned (.agg #[.int .i64 3, .int .i64 sz, .bool false, .bool false, .bool false, .pointer none, v, .bool false, .bool false, .bool false, .slice none 0 0, .int .i64 0, .string ByteArray.empty, .pointer none]) ∧ At w' v (lst len K O P) ∧ Below w.heap.size w w' := by
  have hnil := fun w => run_neq_slice_nil (P := Try.prog) w 27 40 (some ⟨b, off, none⟩) len cap Try.underlying27
  have HF : Hid (∀ W, Rb w W → Flds W b off len K O P) := fun W h => hf.below h.bel
  have HT : Hid (∀ m, m < len → (lst len K O P).take (m + 1) = (lst len K O P).take m ++ [⟨K m, O m, P m⟩]) := fun m hm => lst_take len m hm K O P
  have HE : Hid ((lst len K O P).take len = lst len K O P ∧ len = (lst len K O P).length) := ⟨List.take_of_length_le (by rw [lst_length]; exact Nat.le_refl _), (lst_length _ _ _ _).symm⟩
  generalize lst len K O P = L at HT HE ⊢
  clear hf
  obtain ⟨i0, hi, hz0, hz1, hz2⟩ := info_parts info48
  have hrb := rb_start w
  go_enter Try.func14, Try.ntmps14
  go_wp2_with (refine wpList_make_own _ rfl (.const (.int .i64 0)) (.tmp 12) 33 rfl (w.heap.size + 1) 48 i0 (.agg Zc) 15 Try.underlying33 hi hz0 hz1 .i64 .i64 _ len rfl rfl (by first | rfl | omega) (by rw [hz2]; omega) (by unfold maxLen; omega) (by simp) ?_; intro w1 hown hg)
  have hrb1 : Rb w w1 := hrb.on ((Below.refl (w.heap.size + 1) _).grown hg (by simp) (by simp))
  clear hg hrb hnil
  rw [show (w.alloc (.cells #[.int .i64 0, .int .i64 0, .bool false, .bool false, .bool false, .pointer none, .slice none 0 0, .bool false, .bool false, .bool false, .slice none 0 0, .int .i64 0, .string { data := #[] }, .pointer none] 37)).heap.size = w.heap.size + 1 by simp] at hown
  go_loopg [5, 6] len (fun gk pv x wr => ∃ m : Nat, m ≤ len ∧ gk = len - m ∧ x = .int .i64 m ∧ wr.ownsRow (w.heap.size + 1) 48 15 pv m (cellsOf (L.take m)) ∧ Rb w wr)
  case atStart => exact ⟨0, Nat.zero_le _, rfl, rfl, hown, hrb1⟩
  case round =>
    clear hown hrb1
    obtain ⟨m, hm, rfl, rfl, hown, hrb⟩ := hrel
    have hlt := hrb.lt
    by_cases hml : m < len
    · have hfl := HF.out wr hrb
      have c0 := hfl.c0 m hml
      have c1 := hfl.c1 m hml
      have c2 := hfl.c2 m hml
      have blt := hfl.lt
      have hT : Hid (L.take (m + 1) = L.take m ++ [⟨K m, O m, P m⟩]) := HT.out m hml
      clear hfl
      generalize K m = k at c0 hT
      generalize O m = o at c1 hT
      generalize P m = p at c2 hT
      have q0 : (m : Int) < (len : Int) := by omega
      go_wp2_with (at_builtin; refine wpList_append_own _ rfl (.tmp 40) (.tmp 42) 33 rfl (w.heap.size + 1) 48 i0 (.agg Zc) 15 128 Try.underlying33 hi hz0 hz1 hz2 rfl (by decide) u5 m (cellsOf (L.take m)) rfl ((hown.alloc _).alloc _) ⟨wr.heap.size + 1, 0, none⟩ 1 1 (row15 ⟨k, o, p⟩) rfl rfl (new15n _ k o p _ (by simp)) (one15 _) (by unfold maxLen; omega) (by omega) (by simp; omega) ?_; intro v' w2 hown' hg2 hv2)
      have HO : Hid (w2.ownsRow (w.heap.size + 1) 48 15 v' (m + 1) (cellsOf (L.take (m + 1)))) := by
        show w2.ownsRow (w.heap.size + 1) 48 15 v' (m + 1) (cellsOf (L.take (m + 1)))
        rw [hT.out, cellsOf_snoc]; exact hown'
      have hrb2 : Rb w w2 := hrb.on ((((Below.refl (w.heap.size + 1) wr).alloc hlt _).alloc (by simp; omega) _).grown hg2 (by simp; omega) (fun k hk => (hown.lt k hk).1))
      clear hown' hg2 hv2 hT
      go_wp2
      go_roundg (len - (m + 1))
      case measure => omega
      case rel => exact ⟨m + 1, by omega, rfl, congrArg (Value.int IntKind.i64) (by omega), HO.out, hrb2⟩
    · obtain rfl : m = len := by omega
      have e0 : ¬ (m : Int) < (m : Int) := by omega
      obtain ⟨q0, q1, q2, q3, q4, q5, q6, q7, q8, q9, q10, q11, q12, q13⟩ := hrb.cells
      obtain ⟨f0, f1, f2, f3, f4, f5, f6, f7, f8, f9, f10, f11, f12, f13⟩ := hrb.free
      have hbl := hrb.bel
      have hlw := hbl.size
      have HA : Hid (wr.ownsRow (w.heap.size + 1) 48 15 u5 m (cellsOf L)) := by
        show wr.ownsRow (w.heap.size + 1) 48 15 u5 m (cellsOf L)
        rw [HE.out.1] at hown
        exact hown
      obtain ⟨a5, n5, c5, rfl⟩ : ∃ a n c, u5 = .slice a n c := by
        obtain ⟨a, c, h, _⟩ := own_at HA.out HE.out.2
        exact ⟨a, _, c, h⟩
      clear hown hrb HF HT
      go_wp2
      refine bodyPost_ret (v := .agg #[.int .i64 3, .int .i64 sz, .bool false, .bool false, .bool false, .pointer none, .slice a5 n5 c5, .bool false, .bool false, .bool false, .slice none 0 0, .int .i64 0, .string ByteArray.empty, .pointer none]) (by simp [results, Try.results14, go_sem, q0, q1, q2, q3, q4, q5, q6, q7, q8, q9, q10, q11, q12, q13, hlt]; rfl) rfl ?_
      refine ⟨_, rfl, own_at (B := w.heap.size + 1) (n := m) ?_ HE.out.2, ?_⟩
      · refine World.ownsRow.alloc ?_ _
        iterate 14 (refine ownsRow_setCell_below ?_ (Nat.lt_succ_self _) _)
        exact HA.out
      · refine below_alloc ?_ _
        iterate 14 (refine below_set ?_ _ _)
        exact hbl
end Go.Proofs.Qxb6602112a.fd
