import Derived.Test.Qxb6602187aColumn
import Derived.Deep.QuietTactic
import Derived.BigQuiet
import Derived.WalkSmall
/-
  'ZZColumnAroundB1' (function 8).
-/
namespace Go.Proofs.Qxb6602187a.co
open Go.ChangeShapes Go.WideShapes Go.ChangeAt Go.RowKit
open tk

theorem par_of {w1 : World} {len : Nat} {K : Nat → Int} {Q : Nat → Bool} {X : Nat → ByteArray} {A E : Nat → Int} (cs : Array Value) (t : TypeId) (G : Nat) (hg : w1.rowIs G 49 (len * 5) (tokUp len K Q X A E)) (hcs : cs[0]? = some (.slice (some ⟨G, 0, none⟩) len len)) :
    Par (w1.alloc (.cells cs t)) w1.heap.size G len K Q X A E := by
  have hb := (Below.refl w1.heap.size w1).alloc (Nat.le_refl _) (.cells cs t)
  have l := hg.lt
  have u : ∀ i j, i < len → j < 5 → tokUp len K Q X A E (i * 5 + j) = tokC K Q X A E i j := by
    intro i j hi hj
    unfold tokUp
    rw [if_pos (by omega), show (i * 5 + j) / 5 = i by omega, show (i * 5 + j) % 5 = j by omega]
  have s1 : (w1.alloc (.cells cs t)).heap.size = w1.heap.size + 1 := by show (w1.heap.push _).size = _; simp
  refine ⟨by omega, by omega, ?_, fun i hi => ?_, fun i hi => ?_, fun i hi => ?_, fun i hi => ?_, fun i hi => ?_⟩
  · have := World.rowIs_alloc w1 cs t (fun i => cs.getD i undef) (by intro i hi; simp [hi])
    have hc := this.cell (i := 0) (by rcases Nat.lt_or_ge 0 cs.size with h | h; exact h; simp [Array.getElem?_eq_none h] at hcs)
    rw [hc]
    simp [Array.getD_eq_getD_getElem?, hcs]
  · exact (hb.cell (by exact l)).trans ((hg.cell (i := i * 5) (by omega)).trans (by rw [show i * 5 = i * 5 + 0 from rfl, u i 0 hi (by omega)]; rfl))
  · exact (hb.cell (by exact l)).trans ((hg.cell (i := i * 5 + 1) (by omega)).trans (by rw [u i 1 hi (by omega)]; rfl))
  · exact (hb.cell (by exact l)).trans ((hg.cell (i := i * 5 + 2) (by omega)).trans (by rw [u i 2 hi (by omega)]; rfl))
  · exact (hb.cell (by exact l)).trans ((hg.cell (i := i * 5 + 3) (by omega)).trans (by rw [u i 3 hi (by omega)]; rfl))
  · exact (hb.cell (by exact l)).trans ((hg.cell (i := i * 5 + 4) (by omega)).trans (by rw [u i 4 hi (by omega)]; rfl))

set_option maxHeartbeats 1000000 in
theorem zzcol_any (w : World) (B len : Nat) (K : Nat → Int) (Q : Nat → Bool) (X : Nat → ByteArray) (A E : Nat → Int) (hr : Ready w B len K Q X A E) (hl : len ≤ 65536)
    (i first en : Nat) (depth : Int) (h1 : first ≤ i) (h2 : i < en) (h3 : en ≤ len) (hd0 : -9223372036854775808 ≤ depth) (hd1 : depth ≤ 9223372036854775807) (c : Nat → Nat) (hc : Hid (∀ j, c j = pl.cls (K j) (X j).toList)) (F e : Nat) (HF : Hid (pl.colF c first i = F)) (HE : Hid (pl.colE c first i en = e)) :
    Calls Try.prog 8 #[.slice (some ⟨B, 0, none⟩) len len, .slice (some ⟨B + 1, 0, none⟩) len len, .slice (some ⟨B + 1 + 1, 0, none⟩) len len, .slice (some ⟨B + 1 + 1 + 1, 0, none⟩) len len, .slice (some ⟨B + 1 + 1 + 1 + 1, 0, none⟩) len len, .int .i64 i, .int .i64 first, .int .i64 en, .int .i64 depth] w fun x w' =>
      x = .returned (.tuple #[.int .i64 F, .int .i64 e]) ∧ Below w.heap.size w w' := by
  have HT : Hid (∀ W, Ready W B len K Q X A E → Calls Try.prog 11 #[.slice (some ⟨B, 0, none⟩) len len, .slice (some ⟨B + 1, 0, none⟩) len len, .slice (some ⟨B + 1 + 1, 0, none⟩) len len, .slice (some ⟨B + 1 + 1 + 1, 0, none⟩) len len, .slice (some ⟨B + 1 + 1 + 1 + 1, 0, none⟩) len len] W fun e w' =>
      e = .returned (.slice (some ⟨W.heap.size, 0, none⟩) len len) ∧ w'.rowIs W.heap.size 49 (len * 5) (tokUp len K Q X A E) ∧ Below W.heap.size W w') := fun W hW => tokens_any W B len K Q X A E hW hl
  have HC : Hid (∀ W pb G, Par W pb G len K Q X A E → Calls Try.prog 12 #[.pointer (some ⟨pb, 0, none⟩), .int .i64 i, .agg #[.int .i64 first, .int .i64 en], .int .i64 depth] W fun x w' =>
      x = .returned (.agg #[.int .i64 F, .int .i64 e]) ∧ Below W.heap.size W w') := fun W pb G hP => col_any W pb G len K Q X A E hP hl i first en depth h1 h2 h3 hd0 hd1 c hc F e HF HE
  go_enter Try.func8, Try.ntmps8
  go_wp2_with fail
  refine (HT.out _ hr).mono ?_
  rintro x w1 ⟨rfl, hrow, hb1⟩
  go_wp2_with fail
  refine (HC.out _ _ _ (par_of (w1 := w1) #[.slice (some ⟨w.heap.size, 0, none⟩) len len, .int .i64 0, .slice none 0 0, .int .i64 0] 42 w.heap.size hrow rfl)).mono ?_
  rintro x w2 ⟨rfl, hb2⟩
  have hbb : Below w.heap.size w w2 := (hb1.alloc hb1.size _).trans (hb2.mono (by have := hb1.size; simp; omega))
  clear hb1 hb2 hrow HT HC
  have hz := hbb.size
  go_wp2_with fail
  go_quiet (fail)
  go_wp2
  go_ret2
  exact ⟨rfl, below_drewN (hbb.alloc hbb.size _) _⟩
end Go.Proofs.Qxb6602187a.co
