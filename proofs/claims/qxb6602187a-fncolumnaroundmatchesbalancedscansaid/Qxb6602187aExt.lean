import Derived.Test.Qxb6602187aModel
import Derived.Deep.QuietTactic
import Derived.BigQuiet
/-
  A REGION THAT DRAWS ITS ORDER AND WHOSE CALLEE MAKES MEMORY BUT TURNS NOTHING OLD: the kit's quiet walk (Derived/Deep/Quiet.lean: its theorem holds for any class of worlds) at the class 'the world W, some new blocks behind it, some draws on'.
-/
namespace Go.Proofs.Qxb6602187a.mo
open Go.ChangeShapes Go.WideShapes Go.ChangeAt Go.RowKit
open tk

structure Ext where
  n : Nat
  os : List Obj
/-- W with the blocks g.os laid behind it, g.n draws on -/
def ext (W : World) (g : Ext) : World := (g.os.foldl World.alloc W).drewN g.n

theorem foldl_below : ∀ (os : List Obj) (W X : World), Below W.heap.size W X → Below W.heap.size W (os.foldl World.alloc X)
  | [], _, _, h => h
  | o :: os, W, X, h => foldl_below os W (X.alloc o) (h.alloc h.size o)
theorem ext_below (W : World) (g : Ext) : Below W.heap.size W (ext W g) := by
  have h := foldl_below g.os W W (Below.refl _ _)
  exact ⟨h.os, h.tape, h.output, h.size, h.block⟩
theorem ext_alloc (W : World) (g : Ext) (o : Obj) : (ext W g).alloc o = ext W ⟨g.n, g.os ++ [o]⟩ := by
  unfold ext
  rw [List.foldl_append]
  rfl
theorem ext_cell {W : World} {a : Addr} {v : Value} (h : W.cell? a = some v) (hb : a.block < W.heap.size) (g : Ext) : (ext W g).cell? a = some v := ((ext_below W g).cell hb).trans h

theorem wp_region_ext {P : Program} {id : Nat} {Q : Exit → Act → World → Prop} {a : Act} {W : World} {l : List Oper} (hm : P.follows .mixedOrders = true) (hB : Region.lexB .any l.toArray = true)
    (h : wpQuiet P l.toArray (fun w' => ∃ g, w' = ext W g) (fun a' => ∀ w', (∃ g, w' = ext W g) → Q .normal a' w') l a) : (Code.region id l.toArray true).wp P Q a W :=
  wp_region_quiet (C := fun w' => ∃ g, w' = ext W g) hm hB ⟨⟨1, []⟩, rfl⟩ (by simpa using h)

theorem sep_ext (k : Int) (q : Bool) (x s : ByteArray) (a e : Int) (W : World) (g : Ext) :
    Calls Try.prog 13 #[.agg #[.int .u8 k, .bool q, .string x, .int .i64 a, .int .i64 e], .string s] (ext W g) fun r w' =>
      r = .returned (.bool (sepB k x s.toList)) ∧ ∃ g', w' = ext W g' :=
  (sep_any k q x s a e (ext W g)).mono fun _ _ ⟨hr, hw⟩ => ⟨hr, _, hw.trans (ext_alloc W g _)⟩

theorem l44 : ({ data := #[44] } : ByteArray).toList = [44] := by rw [ByteArray.toList_eq]
theorem l40 : ({ data := #[40] } : ByteArray).toList = [40] := by rw [ByteArray.toList_eq]
theorem l41 : ({ data := #[41] } : ByteArray).toList = [41] := by rw [ByteArray.toList_eq]

theorem tok_cells (wr : World) (k : Int) (q : Bool) (x : ByteArray) (a e : Int) (g : Ext) :
    (ext (wr.alloc (.cells #[.int .u8 k, .bool q, .string x, .int .i64 a, .int .i64 e] 36)) g).cell? ⟨wr.heap.size, 0, none⟩ = some (.int .u8 k) ∧
    (ext (wr.alloc (.cells #[.int .u8 k, .bool q, .string x, .int .i64 a, .int .i64 e] 36)) g).cell? ⟨wr.heap.size, 1, none⟩ = some (.bool q) ∧
    (ext (wr.alloc (.cells #[.int .u8 k, .bool q, .string x, .int .i64 a, .int .i64 e] 36)) g).cell? ⟨wr.heap.size, 2, none⟩ = some (.string x) ∧
    (ext (wr.alloc (.cells #[.int .u8 k, .bool q, .string x, .int .i64 a, .int .i64 e] 36)) g).cell? ⟨wr.heap.size, 3, none⟩ = some (.int .i64 a) ∧
    (ext (wr.alloc (.cells #[.int .u8 k, .bool q, .string x, .int .i64 a, .int .i64 e] 36)) g).cell? ⟨wr.heap.size, 4, none⟩ = some (.int .i64 e) := by
  have s1 : wr.heap.size < (wr.alloc (.cells #[.int .u8 k, .bool q, .string x, .int .i64 a, .int .i64 e] 36)).heap.size := by show _ < (wr.heap.push _).size; simp
  refine ⟨ext_cell (by simp) s1 g, ext_cell (by simp) s1 g, ext_cell (by simp) s1 g, ext_cell (by simp) s1 g, ext_cell (by simp) s1 g⟩
theorem old_cell {wr : World} {a : Addr} {v : Value} (h : wr.cell? a = some v) (hb : a.block < wr.heap.size) (o : Obj) (g : Ext) : (ext (wr.alloc o) g).cell? a = some v := by
  have hb1 := (Below.refl wr.heap.size wr).alloc (Nat.le_refl _) o
  exact ext_cell ((hb1.cell hb).trans h) (Nat.lt_of_lt_of_le hb hb1.size) g

theorem Ms.ext {w wr : World} {n : Nat} {f : Nat → Value} (h : Ms w wr n f) (g : Ext) : Ms w (ext wr g) n f := by
  have hb := ext_below wr g
  exact ⟨h.bel.trans (hb.mono h.bel.size), h.row.of_block (hb.block _ h.row.lt)⟩
end Go.Proofs.Qxb6602187a.mo
