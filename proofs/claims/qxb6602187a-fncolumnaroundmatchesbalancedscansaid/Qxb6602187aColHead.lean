import Derived.Test.Qxb6602187aTokens
import Derived.Test.Qxb6602187aPlain
import Derived.Deep.LoopGhost
import Derived.Deep.CutBlock
import Derived.Deep.DeepCutAuto
import Derived.BigGuardPart
/-
  '(*parser).columnAround' (function 12): what it returns is the plain side's 'colF', 'colE'. The cases of a round are written out by a script of mine.
-/
namespace Go.Proofs.Qxb6602187a.co
open Go.ChangeShapes Go.WideShapes Go.ChangeAt Go.RowKit

/-- the parser (block pb) and its tokens (block G), as the callee finds them -/
structure Par (W : World) (pb G len : Nat) (K : Nat → Int) (Q : Nat → Bool) (X : Nat → ByteArray) (A E : Nat → Int) : Prop where
  plt : pb < W.heap.size
  glt : G < W.heap.size
  p : W.cell? ⟨pb, 0, none⟩ = some (.slice (some ⟨G, 0, none⟩) len len)
  c0 : ∀ i, i < len → W.cell? ⟨G, i * 5, none⟩ = some (.int .u8 (K i))
  c1 : ∀ i, i < len → W.cell? ⟨G, i * 5 + 1, none⟩ = some (.bool (Q i))
  c2 : ∀ i, i < len → W.cell? ⟨G, i * 5 + 2, none⟩ = some (.string (X i))
  c3 : ∀ i, i < len → W.cell? ⟨G, i * 5 + 3, none⟩ = some (.int .i64 (A i))
  c4 : ∀ i, i < len → W.cell? ⟨G, i * 5 + 4, none⟩ = some (.int .i64 (E i))

theorem Par.below {w w' : World} {pb G len : Nat} {K : Nat → Int} {Q : Nat → Bool} {X : Nat → ByteArray} {A E : Nat → Int} (h : Par w pb G len K Q X A E) (hb : Below w.heap.size w w') : Par w' pb G len K Q X A E :=
  ⟨Nat.lt_of_lt_of_le h.plt hb.size, Nat.lt_of_lt_of_le h.glt hb.size, (hb.cell h.plt).trans h.p, fun i hi => (hb.cell h.glt).trans (h.c0 i hi), fun i hi => (hb.cell h.glt).trans (h.c1 i hi),
    fun i hi => (hb.cell h.glt).trans (h.c2 i hi), fun i hi => (hb.cell h.glt).trans (h.c3 i hi), fun i hi => (hb.cell h.glt).trans (h.c4 i hi)⟩

/-- the call's own three blocks: the span that came in, the result, the span that is turned -/
structure St (w wr : World) (first en F e : Int) : Prop where
  bel : Below w.heap.size w wr
  lt : w.heap.size + 1 + 1 < wr.heap.size
  s0 : wr.cell? ⟨w.heap.size, 0, none⟩ = some (.int .i64 first)
  s1 : wr.cell? ⟨w.heap.size, 1, none⟩ = some (.int .i64 en)
  r0 : wr.cell? ⟨w.heap.size + 1, 0, none⟩ = some (.int .i64 0)
  r1 : wr.cell? ⟨w.heap.size + 1, 1, none⟩ = some (.int .i64 0)
  d0 : wr.cell? ⟨w.heap.size + 1 + 1, 0, none⟩ = some (.int .i64 F)
  d1 : wr.cell? ⟨w.heap.size + 1 + 1, 1, none⟩ = some (.int .i64 e)
  y0 : wr.frozen? ⟨w.heap.size + 1, 0, none⟩ = false
  y1 : wr.frozen? ⟨w.heap.size + 1, 1, none⟩ = false
  z0 : wr.frozen? ⟨w.heap.size + 1 + 1, 0, none⟩ = false
  z1 : wr.frozen? ⟨w.heap.size + 1 + 1, 1, none⟩ = false

theorem st_start (w : World) (first en : Int) : St w (((w.alloc (.cells #[.int .i64 first, .int .i64 en] 44)).alloc (.cells #[.int .i64 0, .int .i64 0] 44)).alloc (.cells #[.int .i64 first, .int .i64 en] 44)) first en first en := by
  refine ⟨(((Below.refl _ w).alloc (Nat.le_refl _) _).alloc (by simp) _).alloc (by simp; omega) _, ?_, ?_, ?_, ?_, ?_, ?_, ?_, ?_, ?_, ?_, ?_⟩ <;> simp [go_sem]

theorem St.alloc {w wr : World} {first en F e : Int} (h : St w wr first en F e) (o : Obj) : St w (wr.alloc o) first en F e := by
  have l := h.lt
  have hb := (Below.refl wr.heap.size wr).alloc (Nat.le_refl _) o
  exact ⟨h.bel.alloc h.bel.size _, Nat.lt_of_lt_of_le h.lt hb.size, (hb.cell (by show w.heap.size < _; omega)).trans h.s0, (hb.cell (by show w.heap.size < _; omega)).trans h.s1,
    (hb.cell (by show w.heap.size + 1 < _; omega)).trans h.r0, (hb.cell (by show w.heap.size + 1 < _; omega)).trans h.r1, (hb.cell l).trans h.d0, (hb.cell l).trans h.d1,
    (hb.frozen (by show w.heap.size + 1 < _; omega)).trans h.y0, (hb.frozen (by show w.heap.size + 1 < _; omega)).trans h.y1, (hb.frozen l).trans h.z0, (hb.frozen l).trans h.z1⟩

theorem St.setF {w wr : World} {first en F e : Int} (h : St w wr first en F e) (x : Int) : St w (wr.setCell ⟨w.heap.size + 1 + 1, 0, none⟩ (.int .i64 x)) first en x e := by
  refine ⟨h.bel.setCell (by simp; omega) _, by simpa [World.setCell] using h.lt, ?_, ?_, ?_, ?_, World.cell?_setCell_same _ _ _ h.d0, ?_, ?_, ?_, ?_, ?_⟩
  · rw [World.cell?_setCell_other _ _ _ _ (by simp)]; exact h.s0
  · rw [World.cell?_setCell_other _ _ _ _ (by simp)]; exact h.s1
  · rw [World.cell?_setCell_other _ _ _ _ (by simp)]; exact h.r0
  · rw [World.cell?_setCell_other _ _ _ _ (by simp)]; exact h.r1
  · rw [World.cell?_setCell_other _ _ _ _ (by simp)]; exact h.d1
  all_goals rw [World.frozen?_setCell]
  · exact h.y0
  · exact h.y1
  · exact h.z0
  · exact h.z1

theorem St.setE {w wr : World} {first en F e : Int} (h : St w wr first en F e) (x : Int) : St w (wr.setCell ⟨w.heap.size + 1 + 1, 1, none⟩ (.int .i64 x)) first en F x := by
  refine ⟨h.bel.setCell (by simp; omega) _, by simpa [World.setCell] using h.lt, ?_, ?_, ?_, ?_, ?_, World.cell?_setCell_same _ _ _ h.d1, ?_, ?_, ?_, ?_⟩
  · rw [World.cell?_setCell_other _ _ _ _ (by simp)]; exact h.s0
  · rw [World.cell?_setCell_other _ _ _ _ (by simp)]; exact h.s1
  · rw [World.cell?_setCell_other _ _ _ _ (by simp)]; exact h.r0
  · rw [World.cell?_setCell_other _ _ _ _ (by simp)]; exact h.r1
  · rw [World.cell?_setCell_other _ _ _ _ (by simp)]; exact h.d0
  all_goals rw [World.frozen?_setCell]
  · exact h.y0
  · exact h.y1
  · exact h.z0
  · exact h.z1

/-- what a token is, in the walk's own forms -/
theorem cls_cases (k : Int) (x : ByteArray) :
    ((k == 4) = false ∧ pl.cls k x.toList = 0) ∨
    ((k == 4) = true ∧ (x.toList == [44]) = true ∧ (x.toList == [40]) = false ∧ (x.toList == [41]) = false ∧ pl.cls k x.toList = 1) ∨
    ((k == 4) = true ∧ (x.toList == [44]) = false ∧ (x.toList == [40]) = true ∧ (x.toList == [41]) = false ∧ pl.cls k x.toList = 2) ∨
    ((k == 4) = true ∧ (x.toList == [44]) = false ∧ (x.toList == [40]) = false ∧ (x.toList == [41]) = true ∧ pl.cls k x.toList = 3) ∨
    ((k == 4) = true ∧ (x.toList == [44]) = false ∧ (x.toList == [40]) = false ∧ (x.toList == [41]) = false ∧ pl.cls k x.toList = 0) := by
  generalize x.toList = l
  by_cases hk : k = 4
  · subst hk
    by_cases h1 : l = [44]
    · subst h1; exact .inr (.inl ⟨rfl, rfl, rfl, rfl, rfl⟩)
    by_cases h2 : l = [40]
    · subst h2; exact .inr (.inr (.inl ⟨rfl, rfl, rfl, rfl, rfl⟩))
    by_cases h3 : l = [41]
    · subst h3; exact .inr (.inr (.inr (.inl ⟨rfl, rfl, rfl, rfl, rfl⟩)))
    exact .inr (.inr (.inr (.inr ⟨rfl, by simpa using h1, by simpa using h2, by simpa using h3, by simp [pl.cls, h1, h2, h3]⟩)))
  · exact .inl ⟨by simpa using hk, by simp [pl.cls, hk]⟩

theorem lev_eq (depth d : Int) (h0 : -9223372036854775808 ≤ depth) (h1 : depth ≤ 9223372036854775807) (a : -131072 ≤ d) (b : d ≤ 131072) : (wrap64 (depth + d) == depth) = decide (d = 0) := by
  by_cases h : d = 0
  · subst h; unfold wrap64; simp; omega
  · have : wrap64 (depth + d) ≠ depth := by unfold wrap64; omega
    simp [this, h]
theorem lev_up (x : Int) : wrap64 (wrap64 x + 1) = wrap64 (x + 1) := by unfold wrap64; omega
theorem lev_down (x : Int) : wrap64 (wrap64 x - 1) = wrap64 (x - 1) := by unfold wrap64; omega
end Go.Proofs.Qxb6602187a.co
