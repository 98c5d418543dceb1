import Derived.Test.Qxb6602112aRows
import Derived.WalkKit
import Derived.ProofKit
import Derived.Below
/-
  THE FIELDS IN MEMORY: a row of csig.Field, fifteen cells each, of which only the class, the padding mark and the offset are not nought. (The lists of fifteen are written by a script of mine.)
-/
namespace Go.Proofs.Qxb6602112a.fd
open Go.ChangeShapes Go.WideShapes Go.ChangeAt Go.RowKit

/-- a field as the law hands it over: class, offset, padding -/
structure T where
  k : Int
  o : Int
  p : Bool

def z : T := ⟨0, 0, false⟩
/-- its cells -/
def elV (t : T) : Nat → Value
  | 0 => .int .i64 t.k
  | 1 => .int .i64 0
  | 2 => .bool false
  | 3 => .bool false
  | 4 => .bool false
  | 5 => .pointer none
  | 6 => .slice none 0 0
  | 7 => .bool false
  | 8 => .bool t.p
  | 9 => .bool false
  | 10 => .slice none 0 0
  | 11 => .int .i64 0
  | 12 => .string ByteArray.empty
  | 13 => .pointer none
  | _ => .int .i64 t.o
def elA (t : T) : Array Value := #[.int .i64 t.k, .int .i64 0, .bool false, .bool false, .bool false, .pointer none, .slice none 0 0, .bool false, .bool t.p, .bool false, .slice none 0 0, .int .i64 0, .string ByteArray.empty, .pointer none, .int .i64 t.o]
/-- the cells of a list of fields -/
def flat (L : List T) : Nat → Value := fun i => elV (L.getD (i / 15) z) (i % 15)

/-- block g begins with n fields' cells, none of them frozen -/
def Row (W : World) (g n : Nat) (f : Nat → Value) : Prop := ∀ i, i < n * 15 → W.cell? ⟨g, i, none⟩ = some (f i) ∧ W.frozen? ⟨g, i, none⟩ = false

theorem Row.lt {W : World} {g n : Nat} {f : Nat → Value} (h : Row W g n f) (hn : 0 < n) : g < W.heap.size := World.block_lt_of_cell? _ _ (h 0 (by omega)).1
theorem Row.below {W W' : World} {g n : Nat} {f : Nat → Value} (h : Row W g n f) (hb : Below W.heap.size W W') : Row W' g n f := by
  intro i hi
  have hl := h.lt (by omega)
  exact ⟨(hb.cell hl).trans (h i hi).1, (hb.frozen hl).trans (h i hi).2⟩
theorem Row.congr {W : World} {g n : Nat} {f f' : Nat → Value} (h : Row W g n f) (e : ∀ i, i < n * 15 → f i = f' i) : Row W g n f' := by
  intro i hi; rw [← e i hi]; exact h i hi
theorem Row.set {W : World} {g n : Nat} {f : Nat → Value} (h : Row W g n f) (j : Nat) (v : Value) : Row (W.setCell ⟨g, j, none⟩ v) g n (fun i => if i = j then v else f i) := by
  intro i hi
  refine ⟨?_, by rw [World.frozen?_setCell]; exact (h i hi).2⟩
  by_cases e : i = j
  · subst e
    show _ = some (if i = i then v else f i)
    rw [if_pos rfl]; exact World.cell?_setCell_same _ _ _ (h i hi).1
  · show _ = some (if i = j then v else f i)
    rw [if_neg e, World.cell?_setCell_other _ _ _ _ (by simp; try omega)]; exact (h i hi).1
theorem Row.setOther {W : World} {g n : Nat} {f : Nat → Value} (h : Row W g n f) {a : Addr} (ha : a.block ≠ g) (v : Value) : Row (W.setCell a v) g n f := by
  intro i hi
  exact ⟨by rw [World.cell?_setCell_other _ _ _ _ (fun e => ha (by rw [e]))]; exact (h i hi).1, by rw [World.frozen?_setCell]; exact (h i hi).2⟩
theorem Row.less {W : World} {g n m : Nat} {f : Nat → Value} (h : Row W g n f) (hm : m ≤ n) : Row W g m f := fun i hi => h i (by omega)

theorem flat_at (L : List T) (m j : Nat) (hj : j < 15) : flat L (m * 15 + j) = elV (L.getD m z) j := by
  unfold flat
  rw [show (m * 15 + j) / 15 = m by omega, show (m * 15 + j) % 15 = j by omega]

theorem row_elem {W : World} {g n : Nat} {L : List T} (h : Row W g n (flat L)) {m : Nat} (hm : m < n) (t : T) (ht : L.getD m z = t) :
    W.cell? ⟨g, m * 15, none⟩ = some (.int .i64 t.k) ∧
    W.cell? ⟨g, m * 15 + 1, none⟩ = some (.int .i64 0) ∧
    W.cell? ⟨g, m * 15 + 2, none⟩ = some (.bool false) ∧
    W.cell? ⟨g, m * 15 + 3, none⟩ = some (.bool false) ∧
    W.cell? ⟨g, m * 15 + 4, none⟩ = some (.bool false) ∧
    W.cell? ⟨g, m * 15 + 5, none⟩ = some (.pointer none) ∧
    W.cell? ⟨g, m * 15 + 6, none⟩ = some (.slice none 0 0) ∧
    W.cell? ⟨g, m * 15 + 7, none⟩ = some (.bool false) ∧
    W.cell? ⟨g, m * 15 + 8, none⟩ = some (.bool t.p) ∧
    W.cell? ⟨g, m * 15 + 9, none⟩ = some (.bool false) ∧
    W.cell? ⟨g, m * 15 + 10, none⟩ = some (.slice none 0 0) ∧
    W.cell? ⟨g, m * 15 + 11, none⟩ = some (.int .i64 0) ∧
    W.cell? ⟨g, m * 15 + 12, none⟩ = some (.string ByteArray.empty) ∧
    W.cell? ⟨g, m * 15 + 13, none⟩ = some (.pointer none) ∧
    W.cell? ⟨g, m * 15 + 14, none⟩ = some (.int .i64 t.o) := by
  have c : ∀ j, j < 15 → W.cell? ⟨g, m * 15 + j, none⟩ = some (elV t j) := fun j hj => by rw [(h (m * 15 + j) (by omega)).1, flat_at L m j hj, ht]
  exact ⟨c 0 (by omega), c 1 (by omega), c 2 (by omega), c 3 (by omega), c 4 (by omega), c 5 (by omega), c 6 (by omega), c 7 (by omega), c 8 (by omega), c 9 (by omega), c 10 (by omega), c 11 (by omega), c 12 (by omega), c 13 (by omega), c 14 (by omega)⟩
theorem row_free {W : World} {g n : Nat} {f : Nat → Value} (h : Row W g n f) {m : Nat} (hm : m < n) :
    W.frozen? ⟨g, m * 15, none⟩ = false ∧ W.frozen? ⟨g, m * 15 + 1, none⟩ = false ∧ W.frozen? ⟨g, m * 15 + 2, none⟩ = false ∧ W.frozen? ⟨g, m * 15 + 3, none⟩ = false ∧ W.frozen? ⟨g, m * 15 + 4, none⟩ = false ∧ W.frozen? ⟨g, m * 15 + 5, none⟩ = false ∧ W.frozen? ⟨g, m * 15 + 6, none⟩ = false ∧ W.frozen? ⟨g, m * 15 + 7, none⟩ = false ∧ W.frozen? ⟨g, m * 15 + 8, none⟩ = false ∧ W.frozen? ⟨g, m * 15 + 9, none⟩ = false ∧ W.frozen? ⟨g, m * 15 + 10, none⟩ = false ∧ W.frozen? ⟨g, m * 15 + 11, none⟩ = false ∧ W.frozen? ⟨g, m * 15 + 12, none⟩ = false ∧ W.frozen? ⟨g, m * 15 + 13, none⟩ = false ∧ W.frozen? ⟨g, m * 15 + 14, none⟩ = false := by
  have c : ∀ j, j < 15 → W.frozen? ⟨g, m * 15 + j, none⟩ = false := fun j hj => (h (m * 15 + j) (by omega)).2
  exact ⟨c 0 (by omega), c 1 (by omega), c 2 (by omega), c 3 (by omega), c 4 (by omega), c 5 (by omega), c 6 (by omega), c 7 (by omega), c 8 (by omega), c 9 (by omega), c 10 (by omega), c 11 (by omega), c 12 (by omega), c 13 (by omega), c 14 (by omega)⟩
theorem row_put {W : World} {g n : Nat} {L : List T} (h : Row W g n (flat L)) (m : Nat) (hm : m < L.length) (t : T) :
    Row (((((((((((((((W.setCell ⟨g, m * 15, none⟩ (.int .i64 t.k)).setCell ⟨g, m * 15 + 1, none⟩ (.int .i64 0)).setCell ⟨g, m * 15 + 2, none⟩ (.bool false)).setCell ⟨g, m * 15 + 3, none⟩ (.bool false)).setCell ⟨g, m * 15 + 4, none⟩ (.bool false)).setCell ⟨g, m * 15 + 5, none⟩ (.pointer none)).setCell ⟨g, m * 15 + 6, none⟩ (.slice none 0 0)).setCell ⟨g, m * 15 + 7, none⟩ (.bool false)).setCell ⟨g, m * 15 + 8, none⟩ (.bool t.p)).setCell ⟨g, m * 15 + 9, none⟩ (.bool false)).setCell ⟨g, m * 15 + 10, none⟩ (.slice none 0 0)).setCell ⟨g, m * 15 + 11, none⟩ (.int .i64 0)).setCell ⟨g, m * 15 + 12, none⟩ (.string ByteArray.empty)).setCell ⟨g, m * 15 + 13, none⟩ (.pointer none)).setCell ⟨g, m * 15 + 14, none⟩ (.int .i64 t.o)) g n (flat (L.set m t)) := by
  have h' := (((((((((((((((h.set (m * 15) (.int .i64 t.k)).set (m * 15 + 1) (.int .i64 0)).set (m * 15 + 2) (.bool false)).set (m * 15 + 3) (.bool false)).set (m * 15 + 4) (.bool false)).set (m * 15 + 5) (.pointer none)).set (m * 15 + 6) (.slice none 0 0)).set (m * 15 + 7) (.bool false)).set (m * 15 + 8) (.bool t.p)).set (m * 15 + 9) (.bool false)).set (m * 15 + 10) (.slice none 0 0)).set (m * 15 + 11) (.int .i64 0)).set (m * 15 + 12) (.string ByteArray.empty)).set (m * 15 + 13) (.pointer none)).set (m * 15 + 14) (.int .i64 t.o))
  refine h'.congr fun i _ => ?_
  by_cases e : i / 15 = m
  · obtain ⟨j, hj, rfl⟩ : ∃ j, j < 15 ∧ i = m * 15 + j := ⟨i % 15, by omega, by omega⟩
    rw [flat_at (L.set m t) m j hj, show (L.set m t).getD m z = t by rw [List.getD_eq_getElem?_getD, List.getElem?_set_self hm]; rfl]
    have : j = 0 ∨ j = 1 ∨ j = 2 ∨ j = 3 ∨ j = 4 ∨ j = 5 ∨ j = 6 ∨ j = 7 ∨ j = 8 ∨ j = 9 ∨ j = 10 ∨ j = 11 ∨ j = 12 ∨ j = 13 ∨ j = 14 := by omega
    rcases this with rfl | rfl | rfl | rfl | rfl | rfl | rfl | rfl | rfl | rfl | rfl | rfl | rfl | rfl | rfl <;> simp [elV]
  · rw [if_neg (by omega)]
    rw [if_neg (by omega)]
    rw [if_neg (by omega)]
    rw [if_neg (by omega)]
    rw [if_neg (by omega)]
    rw [if_neg (by omega)]
    rw [if_neg (by omega)]
    rw [if_neg (by omega)]
    rw [if_neg (by omega)]
    rw [if_neg (by omega)]
    rw [if_neg (by omega)]
    rw [if_neg (by omega)]
    rw [if_neg (by omega)]
    rw [if_neg (by omega)]
    rw [if_neg (by omega)]
    unfold flat
    rw [List.getD_eq_getElem?_getD, List.getD_eq_getElem?_getD, List.getElem?_set_ne (fun h => e h.symm)]
end Go.Proofs.Qxb6602112a.fd
