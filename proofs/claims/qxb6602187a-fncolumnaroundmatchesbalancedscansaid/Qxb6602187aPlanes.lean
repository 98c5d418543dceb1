import Derived.Test.Qxb6602187aToks
import Derived.Deep.OwnRows
import Derived.WalkSpells
/-
  'b1Planes' (function 7): the tokens laid out as five planes, each a new row.
-/
namespace Go.Proofs.Qxb6602187a.tk
open Go.ChangeShapes Go.WideShapes Go.ChangeAt Go.RowKit

theorem info5 : (Try.prog.info? 5).map (fun i => (i.zero, i.size, i.bytes)) = some (some (.int .u8 0), 1, 1) := by kernel_rfl
theorem info4 : (Try.prog.info? 4).map (fun i => (i.zero, i.size, i.bytes)) = some (some (.bool false), 1, 1) := by kernel_rfl
theorem info9 : (Try.prog.info? 9).map (fun i => (i.zero, i.size, i.bytes)) = some (some (.string ByteArray.empty), 1, 16) := by kernel_rfl
theorem info3 : (Try.prog.info? 3).map (fun i => (i.zero, i.size, i.bytes)) = some (some (.int .i64 0), 1, 8) := by kernel_rfl

/-- a row that is filled up to m -/
def upTo (m : Nat) (f : Nat → Value) (z : Value) : Nat → Value := fun i => if i < m then f i else z
theorem upTo_zero (f : Nat → Value) (z : Value) (i : Nat) : z = upTo 0 f z i := by simp [upTo]
theorem upTo_step (m : Nat) (f : Nat → Value) (z : Value) (j : Nat) : (if j = m then f m else upTo m f z j) = upTo (m + 1) f z j := by
  unfold upTo
  by_cases h : j = m
  · subst h; simp
  · rw [if_neg h]
    by_cases h2 : j < m
    · rw [if_pos h2, if_pos (by omega)]
    · rw [if_neg h2, if_neg (by omega)]

/-- the five planes, filled up to m -/
structure Planes (W : World) (B len m : Nat) (K : Nat → Int) (Q : Nat → Bool) (X : Nat → ByteArray) (A E : Nat → Int) : Prop where
  r0 : W.rowIs B 5 len (upTo m (fun i => .int .u8 (K i)) (.int .u8 0))
  r1 : W.rowIs (B + 1) 4 len (upTo m (fun i => .bool (Q i)) (.bool false))
  r2 : W.rowIs (B + 1 + 1) 9 len (upTo m (fun i => .string (X i)) (.string ByteArray.empty))
  r3 : W.rowIs (B + 1 + 1 + 1) 3 len (upTo m (fun i => .int .i64 (A i)) (.int .i64 0))
  r4 : W.rowIs (B + 1 + 1 + 1 + 1) 3 len (upTo m (fun i => .int .i64 (E i)) (.int .i64 0))

theorem planes_made (w : World) (len : Nat) (K : Nat → Int) (Q : Nat → Bool) (X : Nat → ByteArray) (A E : Nat → Int) :
    Planes (((((w.alloc (.cells (madeCells #[.int .u8 0] len) 5)).alloc (.cells (madeCells #[.bool false] len) 4)).alloc (.cells (madeCells #[.string ByteArray.empty] len) 9)).alloc (.cells (madeCells #[.int .i64 0] len) 3)).alloc (.cells (madeCells #[.int .i64 0] len) 3)) w.heap.size len 0 K Q X A E := by
  have s1 : ∀ (W : World) (o : Obj), (W.alloc o).heap.size = W.heap.size + 1 := fun W o => by show (W.heap.push o).size = _; simp
  refine ⟨?_, ?_, ?_, ?_, ?_⟩
  · exact ((((((World.rowIs_made w (.int .u8 0) len 5).congr fun i _ => upTo_zero _ _ i).alloc _).alloc _).alloc _).alloc _)
  · have := (((((World.rowIs_made (w.alloc (.cells (madeCells #[.int .u8 0] len) 5)) (.bool false) len 4).congr fun i _ => upTo_zero (fun i => .bool (Q i)) _ i).alloc (.cells (madeCells #[.string ByteArray.empty] len) 9)).alloc (.cells (madeCells #[.int .i64 0] len) 3)).alloc (.cells (madeCells #[.int .i64 0] len) 3))
    rwa [s1] at this
  · have := ((((World.rowIs_made ((w.alloc (.cells (madeCells #[.int .u8 0] len) 5)).alloc (.cells (madeCells #[.bool false] len) 4)) (.string ByteArray.empty) len 9).congr fun i _ => upTo_zero (fun i => .string (X i)) _ i).alloc (.cells (madeCells #[.int .i64 0] len) 3)).alloc (.cells (madeCells #[.int .i64 0] len) 3))
    rwa [s1, s1] at this
  · have := (((World.rowIs_made (((w.alloc (.cells (madeCells #[.int .u8 0] len) 5)).alloc (.cells (madeCells #[.bool false] len) 4)).alloc (.cells (madeCells #[.string ByteArray.empty] len) 9)) (.int .i64 0) len 3).congr fun i _ => upTo_zero (fun i => .int .i64 (A i)) _ i).alloc (.cells (madeCells #[.int .i64 0] len) 3))
    rwa [s1, s1, s1] at this
  · have := ((World.rowIs_made ((((w.alloc (.cells (madeCells #[.int .u8 0] len) 5)).alloc (.cells (madeCells #[.bool false] len) 4)).alloc (.cells (madeCells #[.string ByteArray.empty] len) 9)).alloc (.cells (madeCells #[.int .i64 0] len) 3)) (.int .i64 0) len 3).congr fun i _ => upTo_zero (fun i => .int .i64 (E i)) _ i)
    rwa [s1, s1, s1, s1] at this

theorem Planes.step {W : World} {B len m : Nat} {K : Nat → Int} {Q : Nat → Bool} {X : Nat → ByteArray} {A E : Nat → Int} (h : Planes W B len m K Q X A E) :
    Planes (((((W.setCell ⟨B, m, none⟩ (.int .u8 (K m))).setCell ⟨B + 1, m, none⟩ (.bool (Q m))).setCell ⟨B + 1 + 1, m, none⟩ (.string (X m))).setCell ⟨B + 1 + 1 + 1, m, none⟩ (.int .i64 (A m))).setCell ⟨B + 1 + 1 + 1 + 1, m, none⟩ (.int .i64 (E m))) B len (m + 1) K Q X A E := by
  refine ⟨?_, ?_, ?_, ?_, ?_⟩
  · exact ((((((h.r0.set m (.int .u8 (K m))).congr fun j _ => upTo_step m (fun i => .int .u8 (K i)) _ j).setOther (by simp; try omega) _).setOther (by simp; try omega) _).setOther (by simp; try omega) _).setOther (by simp; try omega) _)
  · exact ((((((h.r1.setOther (by simp; try omega) _).set m (.bool (Q m))).congr fun j _ => upTo_step m (fun i => .bool (Q i)) _ j).setOther (by simp; try omega) _).setOther (by simp; try omega) _).setOther (by simp; try omega) _)
  · exact ((((((h.r2.setOther (by simp; try omega) _).setOther (by simp; try omega) _).set m (.string (X m))).congr fun j _ => upTo_step m (fun i => .string (X i)) _ j).setOther (by simp; try omega) _).setOther (by simp; try omega) _)
  · exact ((((((h.r3.setOther (by simp; try omega) _).setOther (by simp; try omega) _).setOther (by simp; try omega) _).set m (.int .i64 (A m))).congr fun j _ => upTo_step m (fun i => .int .i64 (A i)) _ j).setOther (by simp; try omega) _)
  · exact ((((((h.r4.setOther (by simp; try omega) _).setOther (by simp; try omega) _).setOther (by simp; try omega) _).setOther (by simp; try omega) _).set m (.int .i64 (E m))).congr fun j _ => upTo_step m (fun i => .int .i64 (E i)) _ j)
end Go.Proofs.Qxb6602187a.tk
