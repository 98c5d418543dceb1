import Derived.Test.Qxb6602188aRows
import Derived.WalkKit
import Derived.ProofKit
import Derived.Lib.BufSteps
/-
  A BUFFER OF BYTES THAT THE CALL OWNS ('Lib.OwnBuf' of the kit), its bytes told as integers.
-/
namespace Go.Proofs.Qxb6602188a.bf
open Go.ChangeShapes Go.WideShapes Go.ChangeAt Go.RowKit

theorem info5 : (Try.prog.info? 5).map (fun i => (i.zero, i.size, i.bytes)) = some (some (.int .u8 0), 1, 1) := by kernel_rfl

/-- in w the slice v owns the bytes xs, in a block that is new since W0; of what lay in W0 nothing has turned -/
def Bf (W0 w : World) (v : Value) (xs : List Int) : Prop := Lib.OwnBuf W0.heap.size 5 v xs.length (xs.map (Value.int .u8)) W0 w

theorem add0 (g j : Nat) : (⟨g, 0, none⟩ : Addr).add j = ⟨g, j, none⟩ := by
  unfold Addr.add
  by_cases h : j = 0 <;> simp [h]

def ints (s : ByteArray) : List Int := s.data.toList.map fun b => (b.toNat : Int)
theorem ints_length (s : ByteArray) : (ints s).length = s.size := by
  unfold ints; rw [List.length_map, Array.length_toList]; rfl
theorem ints_cells (s : ByteArray) : Lib.strCells s = (ints s).map (Value.int .u8) := by
  unfold Lib.strCells ints; rw [List.map_map]; rfl

theorem wp_make {ops : Array Oper} {rest : List Oper} {o : Oper} {a : Act} {Q : Exit → Act → World → Prop} (w : World) (hgd : o.guard = none) (l c : Operand)
    (ho : o.op = .makeSlice 27 l c) (kl kc : IntKind) (C : Int) (n : Nat) (hl : a.eval l = .int kl 0) (hc : a.eval c = .int kc C) (hC : C = n) (hn : n ≤ 4194304)
    (h : ∀ w', Bf w w' (.slice (some ⟨w.heap.size, 0, none⟩) 0 n) [] → wpList Try.prog ops Q rest (a.put o.dst (.slice (some ⟨w.heap.size, 0, none⟩) 0 n)) w') :
    wpList Try.prog ops Q (o :: rest) a w := by
  obtain ⟨i0, hi, hz0, hz1, hz2⟩ := info_parts info5
  refine wpList_make_own w hgd l c 27 ho w.heap.size 5 i0 (.int .u8 0) 1 Try.underlying27 hi hz0 hz1 kl kc C n hl hc hC (by rw [hz2]; omega) (by unfold maxLen; omega) (Nat.le_refl _) ?_
  intro w' hown hg
  refine h w' ⟨World.ownsRowF_of hown, (Below.refl _ w).grown hg (Nat.le_refl _) (fun k hk => by cases hk), hg.size⟩

theorem wp_text {ops : Array Oper} {rest : List Oper} {o : Oper} {a : Act} {Q : Exit → Act → World → Prop} {w : World} (hgd : o.guard = none) (sl x : Operand)
    (ho : o.op = .call { callee := .builtin .append, args := #[sl, x], argTypes := #[27, 9] }) (v : Value) (xs : List Int) (W0 : World) (s : ByteArray)
    (hs : a.eval sl = v) (hx : a.eval x = .string s) (hb : Bf W0 w v xs) (hlen : xs.length + s.size ≤ 4194304)
    (h : ∀ v' w', Bf W0 w' v' (xs ++ ints s) → wpList Try.prog ops Q rest (a.put o.dst v') w') : wpList Try.prog ops Q (o :: rest) a w := by
  obtain ⟨i0, hi, hz0, hz1, hz2⟩ := info_parts info5
  refine Lib.wpList_append_text hgd sl x 27 9 ho W0.heap.size 5 i0 Try.underlying27 Try.underlying9 hi hz0 hz1 hz2 v xs.length _ hs W0 hb s hx (by omega) ?_
  intro v' w' hb'
  refine h v' w' ?_
  unfold Bf
  rw [List.length_append, ints_length, List.map_append, ← ints_cells]
  exact hb'

theorem wp_bytes {ops : Array Oper} {rest : List Oper} {o : Oper} {a : Act} {Q : Exit → Act → World → Prop} (hgd : o.guard = none) (sl x : Operand)
    (ho : o.op = .call { callee := .builtin .append, args := #[sl, x], argTypes := #[27, 27] }) (v : Value) (xs : List Int) (W0 w0 : World) (cs : List Int) (C : Array Value) (m : Nat)
    (hC : C = (cs.map (Value.int .u8)).toArray) (hm : m = cs.length) (hs : a.eval sl = v) (hx : a.eval x = .slice (some ⟨w0.heap.size, 0, none⟩) m m) (hb : Bf W0 w0 v xs) (hlen : xs.length + cs.length ≤ 4194304)
    (h : ∀ v' w', Bf W0 w' v' (xs ++ cs) → wpList Try.prog ops Q rest (a.put o.dst v') w') : wpList Try.prog ops Q (o :: rest) a (w0.alloc (.cells C 5)) := by
  obtain ⟨i0, hi, hz0, hz1, hz2⟩ := info_parts info5
  have hb' := Lib.OwnBuf.alloc hb (.cells C 5)
  subst hm
  refine wpList_append_ownF _ hgd sl x 27 ho W0.heap.size 5 i0 (.int .u8 0) 1 1 Try.underlying27 hi hz0 hz1 hz2 rfl (by decide) v xs.length _ hs hb'.1 ⟨w0.heap.size, 0, none⟩ cs.length cs.length (cs.map (Value.int .u8)) hx (by simp) ?_ ?_ (by unfold maxLen; omega) (by omega) hb'.2.2 ?_
  · intro j u hj
    subst hC
    rw [add0]
    have hj' : j < cs.length := by have := (List.getElem?_eq_some_iff.1 hj).1; simpa using this
    simpa using hj
  · intro u hu; simp at hu; obtain ⟨c, _, rfl⟩ := hu; rfl
  · intro v' w' ho' hg _
    refine h v' w' ?_
    have := hb'.grown ho' hg
    unfold Bf
    rw [List.length_append, List.map_append]
    exact this

/-- the text that the bytes xs make -/
def txt (xs : List Int) : ByteArray := ⟨(xs.map fun x => UInt8.ofNat x.toNat).toArray⟩
theorem txt_size (xs : List Int) : (txt xs).size = xs.length := by
  show ((xs.map fun x => UInt8.ofNat x.toNat).toArray).size = _
  simp
theorem txt_get (xs : List Int) (hx : ∀ x ∈ xs, 0 ≤ x ∧ x ≤ 255) (m : Nat) (h : m < (txt xs).size) : ((txt xs)[m].toNat : Int) = xs.getD m 0 := by
  have hm : m < xs.length := by rw [← txt_size]; exact h
  have e : (txt xs)[m] = UInt8.ofNat (xs[m]).toNat := by
    have g : ∀ (l : List UInt8) (h : m < (⟨l.toArray⟩ : ByteArray).size) (h' : m < l.length), (⟨l.toArray⟩ : ByteArray)[m] = l[m] := fun l h h' => rfl
    rw [show (txt xs)[m] = (xs.map fun x => UInt8.ofNat x.toNat)[m]'(by simpa using hm) from g _ h (by simpa using hm)]
    simp
  have hb := hx xs[m] (List.getElem_mem hm)
  rw [e, List.getD_eq_getElem?_getD, List.getElem?_eq_getElem hm]
  simp
  omega

theorem Bf.shape {W0 w : World} {v : Value} {xs : List Int} (h : Bf W0 w v xs) (hne : xs ≠ []) : ∃ g cap, v = .slice (some ⟨g, 0, none⟩) xs.length cap ∧ ∀ j (hj : j < xs.length), w.cell? ⟨g, j, none⟩ = some (.int .u8 xs[j]) := by
  have hc := fun (g : Nat) (e : v.ownBlock = some g) => h.1.cells (g := g) e
  obtain ⟨hlen, h1 | ⟨g, cap, cur, fz, h1⟩⟩ := h.1
  · exact absurd (List.length_eq_zero_iff.1 h1.2) hne
  · refine ⟨g, cap, h1.1, fun j hj => ?_⟩
    have := hc g (by rw [h1.1]; rfl) j (.int .u8 xs[j]) (by simp [hj])
    rwa [add0] at this

/-- 'string(buf)' -/
theorem run_text {w : World} {xs : List Int} {g cap : Nat} (hx : ∀ x ∈ xs, 0 ≤ x ∧ x ≤ 255) (hc : ∀ j (hj : j < xs.length), w.cell? ⟨g, j, none⟩ = some (.int .u8 xs[j])) :
    (convert 27 9 (.slice (some ⟨g, 0, none⟩) xs.length cap)).run Try.prog w = .ok (.string (txt xs)) w := by
  have e : (xs.map fun x => UInt8.ofNat x.toNat).length = xs.length := by simp
  have := run_convert_bytes_back (P := Try.prog) w 27 9 5 ⟨g, 0, none⟩ cap (xs.map fun x => UInt8.ofNat x.toNat) Try.underlying27 Try.underlying5 Try.underlying9 (by
    intro j hj
    have hj' : j < xs.length := by simpa using hj
    have hb := hx xs[j] (List.getElem_mem hj')
    have : ((UInt8.ofNat xs[j].toNat).toNat : Int) = xs[j] := by simp; omega
    rw [add0, hc j hj', List.getElem_map, this])
  rw [e] at this
  exact this
end Go.Proofs.Qxb6602188a.bf
