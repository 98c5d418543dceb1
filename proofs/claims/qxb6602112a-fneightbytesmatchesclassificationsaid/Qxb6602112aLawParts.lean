import Derived.Test.Qxb6602112aEbA
import Derived.Test.Qxb6602112aEbB
import Derived.Laws.OwnMore
import Derived.Deep.QuietTactic
import Derived.BigQuiet
/-
  THE LAW 'FnEightbytesMatchesClassification' (function 5): what its parts say, with no walk.
  A REGION THAT DRAWS ITS ORDER AND WHOSE CALLEE MAKES MEMORY BUT TURNS NOTHING OLD: the kit's quiet walk at the class 'the world W, some new blocks behind it, some draws on'.
-/
namespace Go.Proofs.Qxb6602112a.fd
open Go.ChangeShapes Go.WideShapes Go.ChangeAt Go.RowKit

structure Ext where
  n : Nat
  os : List Obj
/-- W with the blocks g.os laid behind it, g.n draws on -/
def ext (W : World) (g : Ext) : World := (g.os.foldl World.alloc W).drewN g.n

theorem foldl_below : ∀ (os : List Obj) (W X : World), Below W.heap.size W X → Below W.heap.size W (os.foldl World.alloc X)
  | [], _, _, h => h
  | o :: os, W, X, h => foldl_below os W (X.alloc o) (h.alloc h.size o)
theorem ext_below (W : World) (g : Ext) : Below W.heap.size W (ext W g) := by
  have h := foldl_below g.os W W (Below.refl _ _)
  exact ⟨h.os, h.tape, h.output, h.size, h.block⟩
theorem ext_alloc (W : World) (g : Ext) (o : Obj) : (ext W g).alloc o = ext W ⟨g.n, g.os ++ [o]⟩ := by
  unfold ext
  rw [List.foldl_append]
  rfl
theorem ext_cell {W : World} {a : Addr} {v : Value} (h : W.cell? a = some v) (hb : a.block < W.heap.size) (g : Ext) : (ext W g).cell? a = some v := ((ext_below W g).cell hb).trans h

theorem wp_region_ext {P : Program} {id : Nat} {Q : Exit → Act → World → Prop} {a : Act} {W : World} {l : List Oper} (hm : P.follows .mixedOrders = true) (hB : Region.lexB .any l.toArray = true)
    (h : wpQuiet P l.toArray (fun w' => ∃ g, w' = ext W g) (fun a' => ∀ w', (∃ g, w' = ext W g) → Q .normal a' w') l a) : (Code.region id l.toArray true).wp P Q a W :=
  wp_region_quiet (C := fun w' => ∃ g, w' = ext W g) hm hB ⟨⟨1, []⟩, rfl⟩ (by simpa using h)

theorem class_ext (q : Bool) (W : World) (g : Ext) :
    Calls Try.prog 16 #[.bool q] (ext W g) fun r w' => r = .returned (.int .i64 (if q then 1 else 2)) ∧ ∃ g', w' = ext W g' :=
  (class_any (ext W g) q).mono fun _ _ ⟨hr, hw⟩ => ⟨hr, g, hw⟩
theorem same_ext (c o s : Int) (W : World) (g : Ext) :
    Calls Try.prog 15 #[.agg #[.int .i64 c, .int .i64 o, .int .i64 s, .string ByteArray.empty], .int .i64 c, .int .i64 o, .int .i64 s] (ext W g) fun r w' =>
      r = .returned (.bool true) ∧ ∃ g', w' = ext W g' :=
  (same_any (ext W g) c o s).mono fun _ _ ⟨hr, hw⟩ => ⟨hr, _, hw.trans (ext_alloc W g _)⟩

/-- one part's four cells -/
structure Part (W : World) (g j : Nat) (c o s : Int) : Prop where
  c0 : W.cell? ⟨g, j, none⟩ = some (.int .i64 c)
  c1 : W.cell? ⟨g, j + 1, none⟩ = some (.int .i64 o)
  c2 : W.cell? ⟨g, j + 2, none⟩ = some (.int .i64 s)
  c3 : W.cell? ⟨g, j + 3, none⟩ = some (.string ByteArray.empty)
theorem Part.lt {W : World} {g j : Nat} {c o s : Int} (h : Part W g j c o s) : g < W.heap.size := World.block_lt_of_cell? _ _ h.c0
theorem Part.below {W W' : World} {g j : Nat} {c o s : Int} (h : Part W g j c o s) (hb : Below W.heap.size W W') : Part W' g j c o s :=
  ⟨(hb.cell h.lt).trans h.c0, (hb.cell h.lt).trans h.c1, (hb.cell h.lt).trans h.c2, (hb.cell h.lt).trans h.c3⟩

/-- what 'ZZeightbytes' handed back -/
def Got (W : World) (pv : Value) (sz c0 c1 : Int) : Prop :=
  ((sz ≤ 0 ∨ 16 < sz) ∧ pv = .slice none 0 0) ∨
  (0 < sz ∧ sz ≤ 8 ∧ ∃ g cap, pv = .slice (some ⟨g, 0, none⟩) 1 cap ∧ Part W g 0 c0 0 sz) ∨
  (8 < sz ∧ sz ≤ 16 ∧ ∃ g cap, pv = .slice (some ⟨g, 0, none⟩) 2 cap ∧ Part W g 0 c0 0 8 ∧ Part W g 4 c1 8 (sz - 8))
theorem Got.below {W W' : World} {pv : Value} {sz c0 c1 : Int} (h : Got W pv sz c0 c1) (hb : Below W.heap.size W W') : Got W' pv sz c0 c1 := by
  rcases h with h | ⟨h1, h2, g, cap, h3, h4⟩ | ⟨h1, h2, g, cap, h3, h4, h5⟩
  · exact .inl h
  · exact .inr (.inl ⟨h1, h2, g, cap, h3, h4.below hb⟩)
  · exact .inr (.inr ⟨h1, h2, g, cap, h3, h4.below hb, h5.below hb⟩)

theorem own_form {w : World} {base n : Nat} {v : Value} {xs : List Value} (h : w.ownsRow base 43 4 v n xs) (hn : 0 < n) : ∃ g cap, v = .slice (some ⟨g, 0, none⟩) n cap := by
  obtain ⟨_, ⟨_, h2⟩ | ⟨g, cap, cur, h1, _⟩⟩ := h
  · omega
  · exact ⟨g, cap, h1⟩

theorem got_any (w : World) (v : Value) (L : List T) (hv : At w v L) (hn : L.length ≤ 32768) (sz c : Int) (hlo : -9223372036854775808 ≤ sz) :
    Calls Try.prog 13 #[.agg #[.int .i64 c, .int .i64 sz, .bool false, .bool false, .bool false, .pointer none, v, .bool false, .bool false, .bool false, .slice none 0 0, .int .i64 0, .string ByteArray.empty, .pointer none]] w fun e w' =>
      ∃ pv, e = .returned pv ∧ Got w' pv sz (clsOf 0 (L.filter keep)) (clsOf 8 (L.filter keep)) ∧ Below w.heap.size w w' := by
  by_cases h1 : 16 < sz
  · exact (zze_big w v sz c h1).mono fun e w' ⟨he, hb⟩ => ⟨_, he, .inl ⟨.inr h1, rfl⟩, hb⟩
  by_cases h2 : sz ≤ 0
  · exact (zze_any w v L hv hn sz c (by omega) hlo 0 (by omega) (by omega) (by omega)).mono fun e w' ⟨pv, he, _, h0, hb⟩ => ⟨pv, he, .inl ⟨.inl h2, h0 rfl⟩, hb⟩
  by_cases h3 : sz ≤ 8
  · refine (zze_any w v L hv hn sz c (by omega) hlo 1 (by intro r hr; omega) (by omega) (by omega)).mono fun e w' ⟨pv, he, ho, _, hb⟩ => ⟨pv, he, .inr (.inl ⟨by omega, h3, ?_⟩), hb⟩
    obtain ⟨g, cap, rfl⟩ := own_form ho (by omega)
    have c := fun j hj => ho.cellAt j hj
    have hm : mn sz 0 = sz := by unfold mn; split <;> omega
    refine ⟨g, cap, rfl, ?_, ?_, ?_, ?_⟩
    · rw [c 0 (by omega)]; rfl
    · rw [c 1 (by omega)]; rfl
    · rw [c 2 (by omega)]; show some (Value.int .i64 (mn sz 0)) = _; rw [hm]
    · rw [c 3 (by omega)]; rfl
  · refine (zze_any w v L hv hn sz c (by omega) hlo 2 (by intro r hr; omega) (by omega) (by omega)).mono fun e w' ⟨pv, he, ho, _, hb⟩ => ⟨pv, he, .inr (.inr ⟨by omega, by omega, ?_⟩), hb⟩
    obtain ⟨g, cap, rfl⟩ := own_form ho (by omega)
    have c := fun j hj => ho.cellAt j hj
    have hm : mn sz 0 = 8 := by unfold mn; split <;> omega
    have hm1 : mn sz 1 = sz - 8 := by unfold mn; split <;> omega
    refine ⟨g, cap, rfl, ⟨?_, ?_, ?_, ?_⟩, ⟨?_, ?_, ?_, ?_⟩⟩
    · rw [c 0 (by omega)]; rfl
    · rw [c 1 (by omega)]; rfl
    · rw [c 2 (by omega)]; show some (Value.int .i64 (mn sz 0)) = _; rw [hm]
    · rw [c 3 (by omega)]; rfl
    · rw [c 4 (by omega)]; rfl
    · rw [c 5 (by omega)]; rfl
    · rw [c 6 (by omega)]; show some (Value.int .i64 (mn sz 1)) = _; rw [hm1]
    · rw [c 7 (by omega)]; rfl

/-- what the walk knows of the fields that came in -/
def Inp (w : World) (a : Option Addr) (len : Nat) (K O : Nat → Int) (P : Nat → Bool) : Prop := 0 < len → ∃ b off, a = some ⟨b, off, none⟩ ∧ Flds w b off len K O P

theorem eb_any (w : World) (a : Option Addr) (len cap : Nat) (K O : Nat → Int) (P : Nat → Bool) (hin : Inp w a len K O P) (hn : len ≤ 32768) (sz : Int) :
    Calls Try.prog 14 #[.int .i64 sz, .slice a len cap] w fun e w' =>
      ∃ v, e = .returned (.agg #[.int .i64 3, .int .i64 sz, .bool false, .bool false, .bool false, .pointer none, v, .bool false, .bool false, .bool false, .slice none 0 0, .int .i64 0, .string ByteArray.empty, .pointer none]) ∧ At w' v (lst len K O P) ∧ Below w.heap.size w w' := by
  rcases Nat.eq_zero_or_pos len with h | h
  · subst h
    have e : lst 0 K O P = [] := rfl
    rw [e]
    cases a with
    | none => exact eb_nil w sz cap
    | some ad => exact eb_empty w sz ad cap
  · obtain ⟨b, off, rfl, hf⟩ := hin h
    exact eb_full w b off len cap K O P hf hn sz

/-- the law's own mark: an INTEGER field that is no padding starts in [off, off + 8) -/
def mark (off : Int) (t : T) : Bool := keep t && hit off t
def upto (off : Int) (L : List T) (m : Nat) : Bool := (L.take m).any (mark off)
theorem upto_zero (off : Int) (L : List T) : upto off L 0 = false := rfl
theorem upto_succ (off : Int) (len : Nat) (K O : Nat → Int) (P : Nat → Bool) (m : Nat) (hm : m < len) :
    upto off (lst len K O P) (m + 1) = (upto off (lst len K O P) m || (!P m && (decide (off ≤ O m) && decide (O m < off + 8) && (K m == 1)))) := by
  unfold upto
  rw [lst_take len m hm, List.any_append]
  simp [mark, keep, hit]
theorem upto_all (off : Int) (len : Nat) (K O : Nat → Int) (P : Nat → Bool) : (if upto off (lst len K O P) len then 1 else 2) = clsOf off ((lst len K O P).filter keep) := by
  unfold upto clsOf
  rw [List.take_of_length_le (by rw [lst_length]; exact Nat.le_refl _), List.any_filter]
  rfl
end Go.Proofs.Qxb6602112a.fd
