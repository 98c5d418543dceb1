import Derived.Test.Qxb6602187aColHead
import Derived.Deep.RegionWith
/-
  'b1Sep' (function 13), and the state of 'b1ColumnModel' (function 9).
-/
namespace Go.Proofs.Qxb6602187a.mo
open Go.ChangeShapes Go.WideShapes Go.ChangeAt Go.RowKit
open tk

def sepB (k : Int) (x : ByteArray) (l : List UInt8) : Bool := (k == 4) && (x.toList == l)

theorem sep_any (k : Int) (q : Bool) (x s : ByteArray) (a e : Int) (w : World) :
    Calls Try.prog 13 #[.agg #[.int .u8 k, .bool q, .string x, .int .i64 a, .int .i64 e], .string s] w fun r w' =>
      r = .returned (.bool (sepB k x s.toList)) ∧ w' = w.alloc (.cells #[.int .u8 k, .bool q, .string x, .int .i64 a, .int .i64 e] 36) := by
  cases hk : (k == 4)
  · have hb : sepB k x s.toList = false := by simp [sepB, hk]
    rw [hb]
    clear hb
    go_enter Try.func13, Try.ntmps13
    go_wp2
    go_ret
    exact ⟨rfl, rfl⟩
  · have hb : sepB k x s.toList = (x.toList == s.toList) := by simp [sepB, hk]
    rw [hb]
    clear hb
    go_enter Try.func13, Try.ntmps13
    go_wp2
    go_ret
    exact ⟨rfl, rfl⟩

/-- the prefix sums, filled up to m -/
def balUp (c : Nat → Nat) (first m : Nat) : Nat → Value := fun x => if x ≤ m then .int .i64 (pl.bt c first x) else .int .i64 0

/-- the model's state: the row of prefix sums in the call's first own block; nothing old has turned -/
structure Ms (w wr : World) (n : Nat) (f : Nat → Value) : Prop where
  bel : Below w.heap.size w wr
  row : wr.rowIs w.heap.size 3 n f

theorem Ms.alloc {w wr : World} {n : Nat} {f : Nat → Value} (h : Ms w wr n f) (o : Obj) : Ms w (wr.alloc o) n f := ⟨h.bel.alloc h.bel.size _, h.row.alloc _⟩
theorem Ms.drew {w wr : World} {n : Nat} {f : Nat → Value} (h : Ms w wr n f) : Ms w wr.drew n f := ⟨h.bel.drew, h.row⟩
theorem Ms.set {w wr : World} {n : Nat} {f : Nat → Value} (h : Ms w wr n f) (i : Nat) (v : Value) : Ms w (wr.setCell ⟨w.heap.size, i, none⟩ v) n (fun j => if j = i then v else f j) :=
  ⟨h.bel.setCell (Nat.le_refl _) _, h.row.set i v⟩
theorem bal_start (w : World) (n : Nat) (c : Nat → Nat) (first : Nat) : Ms w (w.alloc (.cells (madeCells #[.int .i64 0] n) 3)) n (balUp c first 0) :=
  ⟨(Below.refl _ w).alloc (Nat.le_refl _) _, (World.rowIs_made w (.int .i64 0) n 3).congr fun i _ => by
    unfold balUp
    by_cases h : i ≤ 0
    · rw [if_pos h, show i = 0 by omega]; rfl
    · rw [if_neg h]⟩
theorem bal_step {w wr : World} {n m : Nat} {c : Nat → Nat} {first : Nat} (h : Ms w wr n (balUp c first m)) (v : Int) (hv : v = pl.bt c first (m + 1)) : Ms w (wr.setCell ⟨w.heap.size, m + 1, none⟩ (.int .i64 v)) n (balUp c first (m + 1)) := by
  have h' := h.set (m + 1) (.int .i64 v)
  refine ⟨h'.bel, h'.row.congr fun j _ => ?_⟩
  unfold balUp
  by_cases e : j = m + 1
  · rw [if_pos e, if_pos (by omega), e, hv]
  · rw [if_neg e]
    by_cases g : j ≤ m
    · rw [if_pos g, if_pos (by omega)]
    · rw [if_neg g, if_neg (by omega)]
end Go.Proofs.Qxb6602187a.mo
