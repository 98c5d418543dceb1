import Derived.Test.Qxb6602112aClone
import Derived.WalkLawsBesides
/-
  'eightbytes' (function 21).
-/
namespace Go.Proofs.Qxb6602112a.fd
open Go.ChangeShapes Go.WideShapes Go.ChangeAt Go.RowKit

theorem cf_any (w : World) (v : Value) (L : List T) (hv : At w v L) (hn : L.length ≤ 32768) (sz c0 : Int) :
    Calls Try.prog 23 #[.agg #[.int .i64 c0, .int .i64 sz, .bool false, .bool false, .bool false, .pointer none, v, .bool false, .bool false, .bool false, .slice none 0 0, .int .i64 0, .string ByteArray.empty, .pointer none]] w fun e w' =>
      ∃ v, e = .returned v ∧ At w' v (L.filter keep) ∧ Below w.heap.size w w' := by
  obtain ⟨a, c, rfl, hr⟩ := hv
  rcases Nat.eq_zero_or_pos L.length with h | h
  · obtain rfl := List.length_eq_zero_iff.1 h
    exact cf_empty w a c sz c0
  · obtain ⟨g, rfl, hrow⟩ := hr h
    exact cf_full w g c L hrow hn h sz c0

theorem info43 : (Try.prog.info? 43).map (fun i => (i.zero, i.size, i.bytes)) = some (some (.agg #[.int .i64 0, .int .i64 0, .int .i64 0, .string ByteArray.empty]), 4, 40) := by kernel_rfl

/-- an INTEGER field of these starts in [off, off + 8) -/
def hit (off : Int) (t : T) : Bool := decide (off ≤ t.o) && decide (t.o < off + 8) && (t.k == 1)
def clsOf (off : Int) (L : List T) : Int := if L.any (hit off) then 1 else 2
def mn (sz : Int) (r : Nat) : Int := if sz - 8 * (r : Int) < 8 then sz - 8 * (r : Int) else 8
/-- the cells of the first r parts -/
def parts (sz : Int) (L : List T) : Nat → List Value
  | 0 => []
  | r + 1 => parts sz L r ++ [.int .i64 (clsOf (8 * (r : Int)) L), .int .i64 (8 * (r : Int)), .int .i64 (mn sz r), .string ByteArray.empty]

/-- the call's own first block: the type that came in -/
structure Bx (w wr : World) (c0 sz : Int) (v : Value) : Prop where
  bel : Below w.heap.size w wr
  lt : w.heap.size < wr.heap.size
  b0 : wr.cell? ⟨w.heap.size, 0, none⟩ = some (.int .i64 c0)
  b1 : wr.cell? ⟨w.heap.size, 1, none⟩ = some (.int .i64 sz)
  b2 : wr.cell? ⟨w.heap.size, 2, none⟩ = some (.bool false)
  b3 : wr.cell? ⟨w.heap.size, 3, none⟩ = some (.bool false)
  b4 : wr.cell? ⟨w.heap.size, 4, none⟩ = some (.bool false)
  b5 : wr.cell? ⟨w.heap.size, 5, none⟩ = some (.pointer none)
  b6 : wr.cell? ⟨w.heap.size, 6, none⟩ = some v
  b7 : wr.cell? ⟨w.heap.size, 7, none⟩ = some (.bool false)
  b8 : wr.cell? ⟨w.heap.size, 8, none⟩ = some (.bool false)
  b9 : wr.cell? ⟨w.heap.size, 9, none⟩ = some (.bool false)
  b10 : wr.cell? ⟨w.heap.size, 10, none⟩ = some (.slice none 0 0)
  b11 : wr.cell? ⟨w.heap.size, 11, none⟩ = some (.int .i64 0)
  b12 : wr.cell? ⟨w.heap.size, 12, none⟩ = some (.string ByteArray.empty)
  b13 : wr.cell? ⟨w.heap.size, 13, none⟩ = some (.pointer none)

theorem bx_start (w : World) (c0 sz : Int) (v : Value) : Bx w (w.alloc (.cells #[.int .i64 c0, .int .i64 sz, .bool false, .bool false, .bool false, .pointer none, v, .bool false, .bool false, .bool false, .slice none 0 0, .int .i64 0, .string ByteArray.empty, .pointer none] 37)) c0 sz v := by
  refine ⟨(Below.refl _ w).alloc (Nat.le_refl _) _, ?_, ?_, ?_, ?_, ?_, ?_, ?_, ?_, ?_, ?_, ?_, ?_, ?_, ?_, ?_⟩ <;> simp [go_sem]
theorem Bx.on {w wr wx : World} {c0 sz : Int} {v : Value} (h : Bx w wr c0 sz v) (hb : Below wr.heap.size wr wx) : Bx w wx c0 sz v := by
  have l := h.lt
  exact ⟨h.bel.trans (hb.mono h.bel.size), Nat.lt_of_lt_of_le l hb.size, (hb.cell l).trans h.b0, (hb.cell l).trans h.b1, (hb.cell l).trans h.b2, (hb.cell l).trans h.b3, (hb.cell l).trans h.b4, (hb.cell l).trans h.b5, (hb.cell l).trans h.b6, (hb.cell l).trans h.b7,
    (hb.cell l).trans h.b8, (hb.cell l).trans h.b9, (hb.cell l).trans h.b10, (hb.cell l).trans h.b11, (hb.cell l).trans h.b12, (hb.cell l).trans h.b13⟩

set_option maxHeartbeats 1000000 in
theorem eight_big (w : World) (v : Value) (sz c0 : Int) (h : 16 < sz) :
    Calls Try.prog 21 #[.agg #[.int .i64 c0, .int .i64 sz, .bool false, .bool false, .bool false, .pointer none, v, .bool false, .bool false, .bool false, .slice none 0 0, .int .i64 0, .string ByteArray.empty, .pointer none]] w fun e w' =>
      e = .returned (.slice none 0 0) ∧ Below w.heap.size w w' := by
  go_enter Try.func21, Try.ntmps21
  go_wp2
  go_ret
  exact ⟨rfl, (Below.refl _ _).alloc (Nat.le_refl _) _⟩

theorem gb_refl (w : World) (h : Nat) : w.grownBy w (some h) := ⟨rfl, rfl, rfl, Nat.le_refl _, fun _ _ _ => rfl⟩
theorem gb_alloc {w wx : World} {h : Nat} (g : w.grownBy wx (some h)) (o : Obj) : w.grownBy (wx.alloc o) (some h) := by
  have b := (Below.refl wx.heap.size wx).alloc (Nat.le_refl _) o
  exact ⟨b.os.trans g.os, b.tape.trans g.tape, b.output.trans g.output, Nat.le_trans g.size b.size, fun k hk hne => (b.block k (Nat.lt_of_lt_of_le hk g.size)).trans (g.block k hk hne)⟩
theorem gb_set {w wx : World} {h j : Nat} (g : w.grownBy wx (some h)) (v : Value) : w.grownBy (wx.setCell ⟨h, j, none⟩ v) (some h) := by
  refine ⟨g.os, g.tape, g.output, by simpa [World.setCell] using g.size, fun k hk hne => ?_⟩
  rw [← g.block k hk hne]
  simp only [World.setCell, Array.getElem?_modify]
  rw [if_neg (by intro e; exact hne (by rw [← e]))]
theorem gb_cell {w wx : World} {h : Nat} (g : w.grownBy wx (some h)) {a : Addr} (hl : a.block < w.heap.size) (hne : a.block ≠ h) : wx.cell? a = w.cell? a :=
  World.cell?_of_block (w := w) (g.block _ hl (by simpa using hne))
theorem gb_frozen {w wx : World} {h : Nat} (g : w.grownBy wx (some h)) {a : Addr} (hl : a.block < w.heap.size) (hne : a.block ≠ h) : wx.frozen? a = w.frozen? a :=
  World.frozen?_of_block (w := w) (g.block _ hl (by simpa using hne))
theorem gb_row {w wx : World} {h g n : Nat} {f : Nat → Value} (hr : Row w g n f) (gb : w.grownBy wx (some h)) (hne : g ≠ h) : Row wx g n f := by
  intro i hi
  have l := hr.lt (by omega)
  exact ⟨(gb_cell gb l hne).trans (hr i hi).1, (gb_frozen gb l hne).trans (hr i hi).2⟩
theorem gb_bx {w wr wx : World} {h : Nat} {c0 sz : Int} {v : Value} (hb : Bx w wr c0 sz v) (g : wr.grownBy wx (some h)) (hne : w.heap.size < h) : Bx w wx c0 sz v := by
  have l := hb.lt
  have e : ∀ j, wx.cell? ⟨w.heap.size, j, none⟩ = wr.cell? ⟨w.heap.size, j, none⟩ := fun j => gb_cell g l (by show w.heap.size ≠ h; omega)
  refine ⟨⟨g.os.trans hb.bel.os, g.tape.trans hb.bel.tape, g.output.trans hb.bel.output, Nat.le_trans hb.bel.size g.size, fun k hk => ?_⟩, Nat.lt_of_lt_of_le l g.size, (e 0).trans hb.b0, (e 1).trans hb.b1, (e 2).trans hb.b2, (e 3).trans hb.b3, (e 4).trans hb.b4, (e 5).trans hb.b5,
    (e 6).trans hb.b6, (e 7).trans hb.b7, (e 8).trans hb.b8, (e 9).trans hb.b9, (e 10).trans hb.b10, (e 11).trans hb.b11, (e 12).trans hb.b12, (e 13).trans hb.b13⟩
  exact (g.block k (by omega) (by simp; omega)).trans (hb.bel.block k hk)
theorem gb_of_below {W w1 : World} (hb : Below W.heap.size W w1) : W.grownBy w1 none := ⟨hb.os, hb.tape, hb.output, hb.size, fun k hk _ => hb.block k hk⟩

/-- the part being made, in block h -/
structure Pt (w1 wx : World) (h : Nat) (cl off M : Int) : Prop where
  gb : w1.grownBy wx (some h)
  lt : h < w1.heap.size
  p0 : wx.cell? ⟨h, 0, none⟩ = some (.int .i64 cl)
  p1 : wx.cell? ⟨h, 1, none⟩ = some (.int .i64 off)
  p2 : wx.cell? ⟨h, 2, none⟩ = some (.int .i64 M)
  p3 : wx.cell? ⟨h, 3, none⟩ = some (.string { data := #[] })
  fz : wx.frozen? ⟨h, 0, none⟩ = false
theorem pt_start {wr w1 : World} {off M : Int} (hb : Below (wr.alloc (.cells #[.int .i64 2, .int .i64 off, .int .i64 M, .string { data := #[] }] 43)).heap.size (wr.alloc (.cells #[.int .i64 2, .int .i64 off, .int .i64 M, .string { data := #[] }] 43)) w1) : Pt w1 w1 wr.heap.size 2 off M := by
  have s1 : wr.heap.size < (wr.alloc (.cells #[.int .i64 2, .int .i64 off, .int .i64 M, .string { data := #[] }] 43)).heap.size := by show _ < (wr.heap.push _).size; simp
  refine ⟨gb_refl _ _, Nat.lt_of_lt_of_le s1 hb.size, (hb.cell s1).trans (by simp), (hb.cell s1).trans (by simp), (hb.cell s1).trans (by simp), (hb.cell s1).trans (by simp), (hb.frozen s1).trans (by simp)⟩
theorem Pt.alloc {w1 wx : World} {h : Nat} {cl off M : Int} (p : Pt w1 wx h cl off M) (o : Obj) : Pt w1 (wx.alloc o) h cl off M := by
  have b := (Below.refl wx.heap.size wx).alloc (Nat.le_refl _) o
  have l : h < wx.heap.size := Nat.lt_of_lt_of_le p.lt p.gb.size
  exact ⟨gb_alloc p.gb o, p.lt, (b.cell l).trans p.p0, (b.cell l).trans p.p1, (b.cell l).trans p.p2, (b.cell l).trans p.p3, (b.frozen l).trans p.fz⟩
theorem Pt.set {w1 wx : World} {h : Nat} {cl off M : Int} (p : Pt w1 wx h cl off M) (x : Int) : Pt w1 (wx.setCell ⟨h, 0, none⟩ (.int .i64 x)) h x off M :=
  ⟨gb_set p.gb _, p.lt, World.cell?_setCell_same _ _ _ p.p0, by rw [World.cell?_setCell_other _ _ _ _ (by simp)]; exact p.p1, by rw [World.cell?_setCell_other _ _ _ _ (by simp)]; exact p.p2,
    by rw [World.cell?_setCell_other _ _ _ _ (by simp)]; exact p.p3, by rw [World.frozen?_setCell]; exact p.fz⟩
theorem cls_step (off : Int) (L : List T) (m : Nat) (hm : m < L.length) (t : T) (ht : L.getD m z = t) : clsOf off (L.take (m + 1)) = if hit off t then 1 else clsOf off (L.take m) := by
  have e : L[m] = t := by rw [← ht, List.getD_eq_getElem?_getD, List.getElem?_eq_getElem hm]; rfl
  unfold clsOf
  rw [List.take_succ_eq_append_getElem hm, List.any_append, e]
  cases hh : hit off t <;> cases h : (L.take m).any (hit off) <;> simp [hh]

theorem gb_bx2 {w wr wx : World} {row : Option Nat} {c0 sz : Int} {v : Value} (hb : Bx w wr c0 sz v) (g : wr.grownBy wx row) (hne : ∀ k, row = some k → w.heap.size < k) : Bx w wx c0 sz v := by
  cases row with
  | none =>
    exact hb.on ⟨g.os, g.tape, g.output, g.size, fun k hk => g.block k hk (by simp)⟩
  | some h => exact gb_bx hb g (hne h rfl)
theorem new4 (X : World) (a b c d : Value) : ∀ (j : Nat) (u : Value), [a, b, c, d][j]? = some u → (X.alloc (.cells #[a, b, c, d] 43)).cell? ((⟨X.heap.size, 0, none⟩ : Addr).add j) = some u := by
  intro j u hj
  rw [add0]
  match j, hj with
  | 0, hj => simp at hj; subst hj; simp
  | 1, hj => simp at hj; subst hj; simp
  | 2, hj => simp at hj; subst hj; simp
  | 3, hj => simp at hj; subst hj; simp
  | j + 4, hj => simp at hj
theorem one4 (a b c : Int) : ∀ u, u ∈ ([.int .i64 a, .int .i64 b, .int .i64 c, .string { data := #[] }] : List Value) → u.oneCell' = true := by
  intro u hu
  simp at hu
  rcases hu with rfl | rfl | rfl | rfl <;> rfl

end Go.Proofs.Qxb6602112a.fd
