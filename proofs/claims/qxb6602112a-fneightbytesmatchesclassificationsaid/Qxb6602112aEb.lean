import Derived.Test.Qxb6602112aSmall
import Derived.OwnWalk
/-
  'ebType' (function 14): the fields handed over, laid as a row of csig.Field. (The long lists are written by a script of mine.)
-/
namespace Go.Proofs.Qxb6602112a.fd
open Go.ChangeShapes Go.WideShapes Go.ChangeAt Go.RowKit

/-- the fields as they came in: three cells each -/
structure Flds (W : World) (b off len : Nat) (K O : Nat → Int) (P : Nat → Bool) : Prop where
  lt : b < W.heap.size
  c0 : ∀ i, i < len → W.cell? ⟨b, off + i * 3, none⟩ = some (.int .i64 (K i))
  c1 : ∀ i, i < len → W.cell? ⟨b, off + i * 3 + 1, none⟩ = some (.int .i64 (O i))
  c2 : ∀ i, i < len → W.cell? ⟨b, off + i * 3 + 2, none⟩ = some (.bool (P i))
theorem Flds.below {W W' : World} {b off len : Nat} {K O : Nat → Int} {P : Nat → Bool} (h : Flds W b off len K O P) (hb : Below W.heap.size W W') : Flds W' b off len K O P :=
  ⟨Nat.lt_of_lt_of_le h.lt hb.size, fun i hi => (hb.cell h.lt).trans (h.c0 i hi), fun i hi => (hb.cell h.lt).trans (h.c1 i hi), fun i hi => (hb.cell h.lt).trans (h.c2 i hi)⟩
def lst (len : Nat) (K O : Nat → Int) (P : Nat → Bool) : List T := (List.range len).map fun i => ⟨K i, O i, P i⟩
theorem lst_length (len : Nat) (K O : Nat → Int) (P : Nat → Bool) : (lst len K O P).length = len := by simp [lst]
theorem lst_take (len m : Nat) (hm : m < len) (K O : Nat → Int) (P : Nat → Bool) : (lst len K O P).take (m + 1) = (lst len K O P).take m ++ [⟨K m, O m, P m⟩] := by
  rw [List.take_succ_eq_append_getElem (by rw [lst_length]; exact hm)]
  simp [lst]

/-- a field's cells, as a list -/
def row15 (t : T) : List Value := [.int .i64 t.k, .int .i64 0, .bool false, .bool false, .bool false, .pointer none, .slice none 0 0, .bool false, .bool t.p, .bool false, .slice none 0 0, .int .i64 0, .string ByteArray.empty, .pointer none, .int .i64 t.o]
theorem row15_get (t : T) : ∀ j, j < 15 → (row15 t)[j]? = some (elV t j) := by
  intro j hj
  have : j = 0 ∨ j = 1 ∨ j = 2 ∨ j = 3 ∨ j = 4 ∨ j = 5 ∨ j = 6 ∨ j = 7 ∨ j = 8 ∨ j = 9 ∨ j = 10 ∨ j = 11 ∨ j = 12 ∨ j = 13 ∨ j = 14 := by omega
  rcases this with rfl | rfl | rfl | rfl | rfl | rfl | rfl | rfl | rfl | rfl | rfl | rfl | rfl | rfl | rfl <;> rfl
theorem cellsOf_snoc (L : List T) (t : T) : cellsOf (L ++ [t]) = cellsOf L ++ row15 t := by
  apply List.ext_getElem?
  intro j
  by_cases h1 : j < L.length * 15
  · rw [List.getElem?_append_left (by rw [cellsOf_length]; exact h1), cellsOf_get L j h1, cellsOf_get _ j (by simp; omega)]
    have : j / 15 < L.length := by omega
    simp only [flat, List.getD_eq_getElem?_getD]
    rw [List.getElem?_append_left this]
  · rw [List.getElem?_append_right (by rw [cellsOf_length]; omega), cellsOf_length]
    by_cases h2 : j < (L.length + 1) * 15
    · obtain ⟨r, hr, rfl⟩ : ∃ r, r < 15 ∧ j = L.length * 15 + r := ⟨j - L.length * 15, by omega, by omega⟩
      rw [cellsOf_get _ _ (by simp; omega), flat_at _ _ _ hr, show L.length * 15 + r - L.length * 15 = r by omega, row15_get t r hr]
      simp
    · rw [List.getElem?_eq_none (by rw [cellsOf_length]; simp; omega), List.getElem?_eq_none (by show (row15 t).length ≤ _; simp [row15]; omega)]
theorem new15 (X : World) (k o : Int) (p : Bool) : ∀ (j : Nat) (u : Value), (row15 ⟨k, o, p⟩)[j]? = some u → (X.alloc (.cells #[.int .i64 k, .int .i64 0, .bool false, .bool false, .bool false, .pointer none, .slice none 0 0, .bool false, .bool p, .bool false, .slice none 0 0, .int .i64 0, .string ByteArray.empty, .pointer none, .int .i64 o] 48)).cell? ((⟨X.heap.size, 0, none⟩ : Addr).add j) = some u := by
  intro j u hj
  rw [add0]
  have hl : j < 15 := by have := (List.getElem?_eq_some_iff.1 hj).1; simpa [row15] using this
  rw [row15_get _ j hl] at hj
  have : j = 0 ∨ j = 1 ∨ j = 2 ∨ j = 3 ∨ j = 4 ∨ j = 5 ∨ j = 6 ∨ j = 7 ∨ j = 8 ∨ j = 9 ∨ j = 10 ∨ j = 11 ∨ j = 12 ∨ j = 13 ∨ j = 14 := by omega
  rcases this with rfl | rfl | rfl | rfl | rfl | rfl | rfl | rfl | rfl | rfl | rfl | rfl | rfl | rfl | rfl <;> simp [elV] at hj <;> subst hj <;> simp
theorem one15 (t : T) : ∀ u, u ∈ row15 t → u.oneCell' = true := by
  intro u hu
  obtain ⟨j, hj⟩ := List.getElem?_of_mem hu
  have hl : j < 15 := by have := (List.getElem?_eq_some_iff.1 hj).1; simpa [row15] using this
  rw [row15_get _ j hl] at hj
  obtain rfl := Option.some.inj hj
  exact elV_one _ _
theorem own_at {w : World} {B n : Nat} {v : Value} {L : List T} (h : w.ownsRow B 48 15 v n (cellsOf L)) (hn : n = L.length) : At w v L := by
  rcases Nat.eq_zero_or_pos n with h0 | h0
  · obtain ⟨_, ⟨h1, _⟩ | ⟨g, cap, cur, h1, _⟩⟩ := h
    · exact ⟨none, 0, by rw [h1, ← hn, h0], fun hl => by omega⟩
    · exact ⟨some ⟨g, 0, none⟩, cap, by rw [h1, hn], fun hl => by omega⟩
  · obtain ⟨g, cap, h1, _, _, h2⟩ := own_row h hn h0
    exact ⟨some ⟨g, 0, none⟩, cap, by rw [h1, hn], fun _ => ⟨g, rfl, by rw [← hn]; exact h2⟩⟩

theorem below_alloc {w X : World} (h : Below w.heap.size w X) (o : Obj) : Below w.heap.size w (X.alloc o) := h.alloc h.size o
theorem below_set {w X : World} (h : Below w.heap.size w X) (j : Nat) (u : Value) : Below w.heap.size w (X.setCell ⟨w.heap.size, j, none⟩ u) := h.setCell (Nat.le_refl _) u
/-- the result's own block, still as it was made; nothing older turned -/
structure Rb (w wr : World) : Prop where
  bel : Below w.heap.size w wr
  blk : wr.heap[w.heap.size]? = some (.cells #[.int .i64 0, .int .i64 0, .bool false, .bool false, .bool false, .pointer none, .slice none 0 0, .bool false, .bool false, .bool false, .slice none 0 0, .int .i64 0, .string ByteArray.empty, .pointer none] 37)
theorem Rb.lt {w wr : World} (h : Rb w wr) : w.heap.size < wr.heap.size := by
  have := h.blk
  exact (Array.getElem?_eq_some_iff.1 this).1
theorem rb_start (w : World) : Rb w (w.alloc (.cells #[.int .i64 0, .int .i64 0, .bool false, .bool false, .bool false, .pointer none, .slice none 0 0, .bool false, .bool false, .bool false, .slice none 0 0, .int .i64 0, .string ByteArray.empty, .pointer none] 37)) :=
  ⟨(Below.refl _ w).alloc (Nat.le_refl _) _, by show (w.heap.push _)[w.heap.size]? = _; simp⟩
theorem Rb.on {w wr wx : World} (h : Rb w wr) (hb : Below (w.heap.size + 1) wr wx) : Rb w wx :=
  ⟨h.bel.trans (hb.mono (Nat.le_succ _)), (hb.block _ (Nat.lt_succ_self _)).trans h.blk⟩
theorem Rb.cells {w wr : World} (h : Rb w wr) :

    wr.cell? ⟨w.heap.size, 0, none⟩ = some (.int .i64 0) ∧
    wr.cell? ⟨w.heap.size, 1, none⟩ = some (.int .i64 0) ∧
    wr.cell? ⟨w.heap.size, 2, none⟩ = some (.bool false) ∧
    wr.cell? ⟨w.heap.size, 3, none⟩ = some (.bool false) ∧
    wr.cell? ⟨w.heap.size, 4, none⟩ = some (.bool false) ∧
    wr.cell? ⟨w.heap.size, 5, none⟩ = some (.pointer none) ∧
    wr.cell? ⟨w.heap.size, 6, none⟩ = some (.slice none 0 0) ∧
    wr.cell? ⟨w.heap.size, 7, none⟩ = some (.bool false) ∧
    wr.cell? ⟨w.heap.size, 8, none⟩ = some (.bool false) ∧
    wr.cell? ⟨w.heap.size, 9, none⟩ = some (.bool false) ∧
    wr.cell? ⟨w.heap.size, 10, none⟩ = some (.slice none 0 0) ∧
    wr.cell? ⟨w.heap.size, 11, none⟩ = some (.int .i64 0) ∧
    wr.cell? ⟨w.heap.size, 12, none⟩ = some (.string ByteArray.empty) ∧
    wr.cell? ⟨w.heap.size, 13, none⟩ = some (.pointer none) := by
  have hb := h.blk
  refine ⟨?_, ?_, ?_, ?_, ?_, ?_, ?_, ?_, ?_, ?_, ?_, ?_, ?_, ?_⟩ <;> simp [World.cell?, hb]
theorem Rb.free {w wr : World} (h : Rb w wr) :

    wr.frozen? ⟨w.heap.size, 0, none⟩ = false ∧
    wr.frozen? ⟨w.heap.size, 1, none⟩ = false ∧
    wr.frozen? ⟨w.heap.size, 2, none⟩ = false ∧
    wr.frozen? ⟨w.heap.size, 3, none⟩ = false ∧
    wr.frozen? ⟨w.heap.size, 4, none⟩ = false ∧
    wr.frozen? ⟨w.heap.size, 5, none⟩ = false ∧
    wr.frozen? ⟨w.heap.size, 6, none⟩ = false ∧
    wr.frozen? ⟨w.heap.size, 7, none⟩ = false ∧
    wr.frozen? ⟨w.heap.size, 8, none⟩ = false ∧
    wr.frozen? ⟨w.heap.size, 9, none⟩ = false ∧
    wr.frozen? ⟨w.heap.size, 10, none⟩ = false ∧
    wr.frozen? ⟨w.heap.size, 11, none⟩ = false ∧
    wr.frozen? ⟨w.heap.size, 12, none⟩ = false ∧
    wr.frozen? ⟨w.heap.size, 13, none⟩ = false := by
  have hb := h.blk
  refine ⟨?_, ?_, ?_, ?_, ?_, ?_, ?_, ?_, ?_, ?_, ?_, ?_, ?_, ?_⟩ <;> simp [World.frozen?, hb]
end Go.Proofs.Qxb6602112a.fd
