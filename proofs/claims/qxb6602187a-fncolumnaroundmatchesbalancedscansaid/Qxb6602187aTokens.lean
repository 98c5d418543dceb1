import Derived.Test.Qxb6602187aPlanesWalk
import Derived.BigRegion
import Derived.Deep.Light
/-
  'zzTokensB1' (function 11): the planes laid together again, into a row of tokens of five cells each.
-/
namespace Go.Proofs.Qxb6602187a.tk
open Go.ChangeShapes Go.WideShapes Go.ChangeAt Go.RowKit

def tokZ : Nat → Value
  | 0 => .int .u8 0
  | 1 => .bool false
  | 2 => .string ByteArray.empty
  | _ => .int .i64 0
def tokC (K : Nat → Int) (Q : Nat → Bool) (X : Nat → ByteArray) (A E : Nat → Int) (k : Nat) : Nat → Value
  | 0 => .int .u8 (K k)
  | 1 => .bool (Q k)
  | 2 => .string (X k)
  | 3 => .int .i64 (A k)
  | _ => .int .i64 (E k)
/-- the row of tokens, filled up to m -/
def tokUp (m : Nat) (K : Nat → Int) (Q : Nat → Bool) (X : Nat → ByteArray) (A E : Nat → Int) : Nat → Value :=
  fun i => if i < m * 5 then tokC K Q X A E (i / 5) (i % 5) else tokZ (i % 5)
def tokMade (n : Nat) : Array Value := madeCells #[.int .u8 0, .bool false, .string ByteArray.empty, .int .i64 0, .int .i64 0] (n * 5)

theorem info49 : (Try.prog.info? 49).map (fun i => (i.zero, i.size, i.bytes)) = some (some (.agg #[.int .u8 0, .bool false, .string ByteArray.empty, .int .i64 0, .int .i64 0]), 5, 40) := by kernel_rfl

theorem run_make38 (n : Nat) (hn : n ≤ 65536) (w : World) :
    (Instr.makeSlice 38 (.int .i64 (n : Int)) (.int .i64 (n : Int))).run Try.prog w = .ok (.slice (some ⟨w.heap.size, 0, none⟩) n n) (w.alloc (.cells (tokMade n) 49)) := by
  obtain ⟨i0, hi, hz0, hz1, hz2⟩ := info_parts info49
  have hr := run_make (P := Try.prog) w 38 49 i0 _ Try.underlying38 hi hz0 .i64 .i64 n n (by omega) (Int.le_refl _) (by rw [hz2]; omega) (by omega)
  simp only [Int.toNat_natCast, hz1] at hr
  exact hr

theorem tok_made (w : World) (n : Nat) (K : Nat → Int) (Q : Nat → Bool) (X : Nat → ByteArray) (A E : Nat → Int) : (w.alloc (.cells (tokMade n) 49)).rowIs w.heap.size 49 (n * 5) (tokUp 0 K Q X A E) := by
  have h := World.rowIs_alloc w (tokMade n) 49 (tokUp 0 K Q X A E) (by
    intro i hi
    have hi' : i < n * 5 := by simpa [tokMade, madeCells] using hi
    have hmod : i % 5 = 0 ∨ i % 5 = 1 ∨ i % 5 = 2 ∨ i % 5 = 3 ∨ i % 5 = 4 := by omega
    simp only [tokMade, madeCells, tokUp, tokZ]
    rw [Array.getElem?_map, Array.getElem?_range]
    simp only [hi', if_true, Option.map_some, Nat.zero_mul, Nat.not_lt_zero, if_false]
    rcases hmod with h | h | h | h | h <;> simp [h])
  have e : (tokMade n).size = n * 5 := by simp [tokMade, madeCells]
  rwa [e] at h

/-- the planes as a callee finds them -/
structure Ready (W : World) (B len : Nat) (K : Nat → Int) (Q : Nat → Bool) (X : Nat → ByteArray) (A E : Nat → Int) : Prop where
  lt : B + 1 + 1 + 1 + 1 < W.heap.size
  c0 : ∀ i, i < len → W.cell? ⟨B, i, none⟩ = some (.int .u8 (K i))
  c1 : ∀ i, i < len → W.cell? ⟨B + 1, i, none⟩ = some (.bool (Q i))
  c2 : ∀ i, i < len → W.cell? ⟨B + 1 + 1, i, none⟩ = some (.string (X i))
  c3 : ∀ i, i < len → W.cell? ⟨B + 1 + 1 + 1, i, none⟩ = some (.int .i64 (A i))
  c4 : ∀ i, i < len → W.cell? ⟨B + 1 + 1 + 1 + 1, i, none⟩ = some (.int .i64 (E i))

theorem Planes.ready {W : World} {B len : Nat} {K : Nat → Int} {Q : Nat → Bool} {X : Nat → ByteArray} {A E : Nat → Int} (h : Planes W B len len K Q X A E) : Ready W B len K Q X A E := by
  have u : ∀ (f : Nat → Value) (z : Value) (i : Nat), i < len → upTo len f z i = f i := fun f z i hi => by unfold upTo; rw [if_pos hi]
  refine ⟨h.r4.lt, fun i hi => ?_, fun i hi => ?_, fun i hi => ?_, fun i hi => ?_, fun i hi => ?_⟩
  · rw [h.r0.cell hi, u _ _ i hi]
  · rw [h.r1.cell hi, u _ _ i hi]
  · rw [h.r2.cell hi, u _ _ i hi]
  · rw [h.r3.cell hi, u _ _ i hi]
  · rw [h.r4.cell hi, u _ _ i hi]

theorem Ready.below {W w' : World} {B len : Nat} {K : Nat → Int} {Q : Nat → Bool} {X : Nat → ByteArray} {A E : Nat → Int} (h : Ready W B len K Q X A E) (hb : Below W.heap.size W w') : Ready w' B len K Q X A E := by
  have l := h.lt
  exact ⟨Nat.lt_of_lt_of_le h.lt hb.size, fun i hi => (hb.cell (by show B < _; omega)).trans (h.c0 i hi), fun i hi => (hb.cell (by show B + 1 < _; omega)).trans (h.c1 i hi), fun i hi => (hb.cell (by show B + 1 + 1 < _; omega)).trans (h.c2 i hi),
    fun i hi => (hb.cell (by show B + 1 + 1 + 1 < _; omega)).trans (h.c3 i hi), fun i hi => (hb.cell (by show B + 1 + 1 + 1 + 1 < _; omega)).trans (h.c4 i hi)⟩

theorem tok_step {W : World} {G len m : Nat} {K : Nat → Int} {Q : Nat → Bool} {X : Nat → ByteArray} {A E : Nat → Int} (h : W.rowIs G 49 (len * 5) (tokUp m K Q X A E)) :
    (((((W.setCell ⟨G, m * 5, none⟩ (.int .u8 (K m))).setCell ⟨G, m * 5 + 1, none⟩ (.bool (Q m))).setCell ⟨G, m * 5 + 2, none⟩ (.string (X m))).setCell ⟨G, m * 5 + 3, none⟩ (.int .i64 (A m))).setCell ⟨G, m * 5 + 4, none⟩ (.int .i64 (E m))).drew.rowIs G 49 (len * 5) (tokUp (m + 1) K Q X A E) := by
  have h' := ((((h.set (m * 5) (.int .u8 (K m))).set (m * 5 + 1) (.bool (Q m))).set (m * 5 + 2) (.string (X m))).set (m * 5 + 3) (.int .i64 (A m))).set (m * 5 + 4) (.int .i64 (E m))
  refine World.rowIs.drew (h'.congr fun j _ => ?_)
  unfold tokUp
  by_cases e4 : j = m * 5 + 4
  · rw [if_pos e4, if_pos (by omega), show j / 5 = m by omega, show j % 5 = 4 by omega]; rfl
  rw [if_neg e4]
  by_cases e3 : j = m * 5 + 3
  · rw [if_pos e3, if_pos (by omega), show j / 5 = m by omega, show j % 5 = 3 by omega]; rfl
  rw [if_neg e3]
  by_cases e2 : j = m * 5 + 2
  · rw [if_pos e2, if_pos (by omega), show j / 5 = m by omega, show j % 5 = 2 by omega]; rfl
  rw [if_neg e2]
  by_cases e1 : j = m * 5 + 1
  · rw [if_pos e1, if_pos (by omega), show j / 5 = m by omega, show j % 5 = 1 by omega]; rfl
  rw [if_neg e1]
  by_cases e0 : j = m * 5
  · rw [if_pos e0, if_pos (by omega), show j / 5 = m by omega, show j % 5 = 0 by omega]; rfl
  rw [if_neg e0]
  by_cases hj : j < m * 5
  · rw [if_pos hj, if_pos (by omega)]
  · rw [if_neg hj, if_neg (by omega)]

set_option maxHeartbeats 1000000 in
theorem tokens_any (w : World) (B len : Nat) (K : Nat → Int) (Q : Nat → Bool) (X : Nat → ByteArray) (A E : Nat → Int) (hr : Ready w B len K Q X A E) (hl : len ≤ 65536) :
    Calls Try.prog 11 #[.slice (some ⟨B, 0, none⟩) len len, .slice (some ⟨B + 1, 0, none⟩) len len, .slice (some ⟨B + 1 + 1, 0, none⟩) len len, .slice (some ⟨B + 1 + 1 + 1, 0, none⟩) len len, .slice (some ⟨B + 1 + 1 + 1 + 1, 0, none⟩) len len] w fun e w' =>
      e = .returned (.slice (some ⟨w.heap.size, 0, none⟩) len len) ∧ w'.rowIs w.heap.size 49 (len * 5) (tokUp len K Q X A E) ∧ Below w.heap.size w w' := by
  have hm0 := run_make38 len hl
  have hp0 := tok_made w len K Q X A E
  have hb0 : Below w.heap.size w (w.alloc (.cells (tokMade len) 49)) := (Below.refl _ w).alloc (Nat.le_refl _) _
  go_enter Try.func11, Try.ntmps11
  go_wp2
  clear hm0
  go_loopw [12] (fun x wr => ∃ m : Nat, m ≤ len ∧ x = .int .i64 m ∧ wr.rowIs w.heap.size 49 (len * 5) (tokUp m K Q X A E) ∧ Below w.heap.size w wr) (fun x _ => len - (intOf x).toNat)
  case atStart => exact ⟨0, by omega, rfl, hp0, hb0⟩
  case round =>
    clear hp0 hb0
    obtain ⟨m, hm, rfl, hp, hb⟩ := hrel
    by_cases hlt : m < len
    · have hr' := hr.below hb
      have c0 := hr'.c0 m hlt
      have c1 := hr'.c1 m hlt
      have c2 := hr'.c2 m hlt
      have c3 := hr'.c3 m hlt
      have c4 := hr'.c4 m hlt
      have lb := hr.lt
      have g0 := hp.cell (i := m * 5) (by omega)
      have g1 := hp.cell (i := m * 5 + 1) (by omega)
      have g2 := hp.cell (i := m * 5 + 2) (by omega)
      have g3 := hp.cell (i := m * 5 + 3) (by omega)
      have g4 := hp.cell (i := m * 5 + 4) (by omega)
      have z0 := hp.frozen (m * 5)
      have z1 := hp.frozen (m * 5 + 1)
      have z2 := hp.frozen (m * 5 + 2)
      have z3 := hp.frozen (m * 5 + 3)
      have z4 := hp.frozen (m * 5 + 4)
      have q0 : (m : Int) < (len : Int) := by omega
      clear hr hr'
      go_wp2
      go_region
      all_goals go_wp2
      go_roundw
      case rel => exact ⟨m + 1, by omega, by go_num, tok_step hp, (((((hb.setCell (by simp) _).setCell (by simp) _).setCell (by simp) _).setCell (by simp) _).setCell (by simp) _).drew⟩
      case measure => simp [intOf]; omega
    · obtain rfl : m = len := by omega
      have q0 : ¬ (m : Int) < (m : Int) := by omega
      go_wp2
      go_ret
      exact ⟨rfl, hp, hb⟩
end Go.Proofs.Qxb6602187a.tk
