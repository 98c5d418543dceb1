import Derived.Test.Qxb6602112aEb
import Derived.Laws.Cover3
/-
  'ebType' (function 14), walked.
-/
namespace Go.Proofs.Qxb6602112a.fd
open Go.ChangeShapes Go.WideShapes Go.ChangeAt Go.RowKit

set_option maxHeartbeats 2000000 in
theorem eb_nil (w : World) (sz : Int) (cap : Nat) :
    Calls Try.prog 14 #[.int .i64 sz, .slice none 0 cap] w fun e w' =>
      ∃ v, e = .returned (.agg #[.int .i64 3, .int .i64 sz, .bool false, .bool false, .bool false, .pointer none, v, .bool false, .bool false, .bool false, .slice none 0 0, .int .i64 0, .string ByteArray.empty, .pointer none]) ∧ At w' v [] ∧ Below w.heap.size w w' := by
  have hnil := fun w => run_neq_slice_nil (P := Try.prog) w 27 40 none 0 cap Try.underlying27
  go_enter Try.func14, Try.ntmps14
  go_wp2
  refine wp_loop_rounds 1 ?_
  rw [rounds_succ]
  go_wp2
  refine bodyPost_ret (v := .agg #[.int .i64 3, .int .i64 sz, .bool false, .bool false, .bool false, .pointer none, .slice none 0 0, .bool false, .bool false, .bool false, .slice none 0 0, .int .i64 0, .string ByteArray.empty, .pointer none]) (by simp [results, Try.results14, go_sem]; rfl) rfl ?_
  refine ⟨_, rfl, ⟨none, 0, rfl, fun h => absurd h (by simp)⟩, ?_⟩
  repeat (first | exact (Below.refl _ _) | refine Below.setCell ?_ (by simp) _ | refine Below.alloc ?_ (by simp) _)

set_option maxHeartbeats 2000000 in
theorem eb_empty (w : World) (sz : Int) (ad : Addr) (cap : Nat) :
    Calls Try.prog 14 #[.int .i64 sz, .slice (some ad) 0 cap] w fun e w' =>
      ∃ v, e = .returned (.agg #[.int .i64 3, .int .i64 sz, .bool false, .bool false, .bool false, .pointer none, v, .bool false, .bool false, .bool false, .slice none 0 0, .int .i64 0, .string ByteArray.empty, .pointer none]) ∧ At w' v [] ∧ Below w.heap.size w w' := by
  have hnil := fun w => run_neq_slice_nil (P := Try.prog) w 27 40 (some ad) 0 cap Try.underlying27
  obtain ⟨i0, hi, hz0, hz1, hz2⟩ := info_parts info48
  have hrb := rb_start w
  go_enter Try.func14, Try.ntmps14
  go_wp2_with (refine wpList_make_own _ rfl (.const (.int .i64 0)) (.tmp 12) 33 rfl (w.heap.size + 1) 48 i0 (.agg Zc) 15 Try.underlying33 hi hz0 hz1 .i64 .i64 _ 0 rfl rfl rfl (by rw [hz2]; omega) (by unfold maxLen; omega) (by simp) ?_; intro w1 hown hg)
  have hrb1 : Rb w w1 := hrb.on ((Below.refl (w.heap.size + 1) _).grown hg (by simp) (by simp))
  obtain ⟨q0, q1, q2, q3, q4, q5, q6, q7, q8, q9, q10, q11, q12, q13⟩ := hrb1.cells
  obtain ⟨f0, f1, f2, f3, f4, f5, f6, f7, f8, f9, f10, f11, f12, f13⟩ := hrb1.free
  have hlt := hrb1.lt
  have hbl := hrb1.bel
  have hlw := hbl.size
  clear hown hg hrb hrb1
  refine wp_loop_rounds 1 ?_
  rw [rounds_succ]
  go_wp2
  refine bodyPost_ret (v := .agg #[.int .i64 3, .int .i64 sz, .bool false, .bool false, .bool false, .pointer none, .slice (some ⟨w.heap.size + 1, 0, none⟩) 0 0, .bool false, .bool false, .bool false, .slice none 0 0, .int .i64 0, .string ByteArray.empty, .pointer none]) (by simp [results, Try.results14, go_sem, q0, q1, q2, q3, q4, q5, q6, q7, q8, q9, q10, q11, q12, q13, hlt]; rfl) rfl ?_
  refine ⟨_, rfl, ⟨_, _, rfl, fun h => absurd h (by simp)⟩, ?_⟩
  refine below_alloc ?_ _
  iterate 14 (refine below_set ?_ _ _)
  exact hbl
end Go.Proofs.Qxb6602112a.fd
