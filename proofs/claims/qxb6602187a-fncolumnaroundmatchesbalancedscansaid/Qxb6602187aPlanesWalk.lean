import Derived.Test.Qxb6602187aPlanes
import Derived.Deep.Light
namespace Go.Proofs.Qxb6602187a.tk
open Go.ChangeShapes Go.WideShapes Go.ChangeAt Go.RowKit

theorem Toks.below {w w' : World} {b off len : Nat} {K : Nat → Int} {Q : Nat → Bool} {X : Nat → ByteArray} {A E : Nat → Int} (h : Toks w b off len K Q X A E) (hb : Below w.heap.size w w') : Toks w' b off len K Q X A E :=
  ⟨Nat.lt_of_lt_of_le h.lt hb.size, fun i hi => (hb.cell h.lt).trans (h.kd i hi), fun i hi => (hb.cell h.lt).trans (h.ql i hi), fun i hi => (hb.cell h.lt).trans (h.tx i hi),
    fun i hi => (hb.cell h.lt).trans (h.pl i hi), fun i hi => (hb.cell h.lt).trans (h.en i hi), h.sz⟩

set_option maxHeartbeats 1000000 in
theorem planes_any (w : World) (b off len cap : Nat) (K : Nat → Int) (Q : Nat → Bool) (X : Nat → ByteArray) (A E : Nat → Int) (ht : Toks w b off len K Q X A E) (hl : len ≤ 65536) :
    Calls Try.prog 7 #[.slice (some ⟨b, off, none⟩) len cap] w fun e w' =>
      e = .returned (.tuple #[.slice (some ⟨w.heap.size, 0, none⟩) len len, .slice (some ⟨w.heap.size + 1, 0, none⟩) len len, .slice (some ⟨w.heap.size + 1 + 1, 0, none⟩) len len, .slice (some ⟨w.heap.size + 1 + 1 + 1, 0, none⟩) len len, .slice (some ⟨w.heap.size + 1 + 1 + 1 + 1, 0, none⟩) len len])
      ∧ Planes w' w.heap.size len len K Q X A E ∧ Below w.heap.size w w' := by
  have hm0 := run_make_row' (P := Try.prog) 25 5 (.int .u8 0) 1 Try.underlying25 info5 rfl .i64 .i64 len (by omega) (by omega)
  have hm1 := run_make_row' (P := Try.prog) 26 4 (.bool false) 1 Try.underlying26 info4 rfl .i64 .i64 len (by omega) (by omega)
  have hm2 := run_make_row' (P := Try.prog) 27 9 (.string ByteArray.empty) 16 Try.underlying27 info9 rfl .i64 .i64 len (by omega) (by omega)
  have hm3 := run_make_row' (P := Try.prog) 28 3 (.int .i64 0) 8 Try.underlying28 info3 rfl .i64 .i64 len (by omega) (by omega)
  have hp0 := planes_made w len K Q X A E
  have hb0 : Below w.heap.size w (((((w.alloc (.cells (madeCells #[.int .u8 0] len) 5)).alloc (.cells (madeCells #[.bool false] len) 4)).alloc (.cells (madeCells #[.string ByteArray.empty] len) 9)).alloc (.cells (madeCells #[.int .i64 0] len) 3)).alloc (.cells (madeCells #[.int .i64 0] len) 3)) :=
    (((((Below.refl _ w).alloc (Nat.le_refl _) _).alloc (by simp) _).alloc (by simp; omega) _).alloc (by simp; omega) _).alloc (by simp; omega) _
  go_enter Try.func7, Try.ntmps7
  go_wp2
  clear hm0 hm1 hm2 hm3
  go_loopw [13] (fun x wr => ∃ m : Nat, m ≤ len ∧ x = .int .i64 m ∧ Planes wr w.heap.size len m K Q X A E ∧ Below w.heap.size w wr) (fun x _ => len - (intOf x).toNat)
  case atStart => exact ⟨0, by omega, rfl, hp0, hb0⟩
  case round =>
    clear hp0 hb0
    obtain ⟨m, hm, rfl, hp, hb⟩ := hrel
    by_cases hlt : m < len
    · have ht' := ht.below hb
      have c0 := ht'.kd m hlt
      have c1 := ht'.ql m hlt
      have c2 := ht'.tx m hlt
      have c3 := ht'.pl m hlt
      have c4 := ht'.en m hlt
      have lb := ht.lt
      have g0 := hp.r0.cell hlt
      have g1 := hp.r1.cell hlt
      have g2 := hp.r2.cell hlt
      have g3 := hp.r3.cell hlt
      have g4 := hp.r4.cell hlt
      have z0 := hp.r0.frozen m
      have z1 := hp.r1.frozen m
      have z2 := hp.r2.frozen m
      have z3 := hp.r3.frozen m
      have z4 := hp.r4.frozen m
      have q0 : (m : Int) < (len : Int) := by omega
      clear ht ht'
      go_wp2
      go_roundw
      case rel => exact ⟨m + 1, by omega, by go_num, hp.step, ((((hb.setCell (by simp) _).setCell (by simp) _).setCell (by simp; omega) _).setCell (by simp; omega) _).setCell (by simp; omega) _⟩
      case measure => simp [intOf]; omega
    · obtain rfl : m = len := by omega
      have q0 : ¬ (m : Int) < (m : Int) := by omega
      go_wp2
      exact bodyPost_ret (v := .tuple #[.slice (some ⟨w.heap.size, 0, none⟩) m m, .slice (some ⟨w.heap.size + 1, 0, none⟩) m m, .slice (some ⟨w.heap.size + 1 + 1, 0, none⟩) m m, .slice (some ⟨w.heap.size + 1 + 1 + 1, 0, none⟩) m m, .slice (some ⟨w.heap.size + 1 + 1 + 1 + 1, 0, none⟩) m m]) (by simp [results, Try.results7, go_sem]) rfl ⟨rfl, hp, hb⟩
end Go.Proofs.Qxb6602187a.tk
