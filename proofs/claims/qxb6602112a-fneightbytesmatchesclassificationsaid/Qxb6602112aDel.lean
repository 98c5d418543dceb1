import Derived.Test.Qxb6602112aIdx
import Derived.Lib.SliceRun
/-
  'slices.DeleteFunc' (function 25) at csig.Field, the closure 'padding'.
-/
namespace Go.Proofs.Qxb6602112a.fd
open Go.ChangeShapes Go.WideShapes Go.ChangeAt Go.RowKit

def Zc : Array Value := #[.int .i64 0, .int .i64 0, .bool false, .bool false, .bool false, .pointer none, .slice none 0 0, .bool false, .bool false, .bool false, .slice none 0 0, .int .i64 0, .string ByteArray.empty, .pointer none, .int .i64 0]

theorem below_setCells {B b : Nat} (hb : B ≤ b) : ∀ (vs : List Value) (o : Nat) (W w : World), Below B W w → Below B W (w.setCells b o vs)
  | [], _, _, _, h => h
  | v :: r, o, W, _, h => below_setCells hb r (o + 1) W _ (h.setCell hb v)

theorem run_clear48 (w : World) (g i n cap : Nat) (hin : i < n) (f : Nat → Value) (hr : Row w g n f) :
    ∃ zs, ∀ ty, (Builtin.clear_ #[33] ty #[.slice (some ⟨g, i * 15, none⟩) (n - i) (cap - i)]).run Try.prog w = .ok (.tuple #[]) (w.setCells g (i * 15) zs) := by
  refine ⟨(Builtin.zeroCells Zc (n - i)).toList, fun ty => ?_⟩
  have hlen : (Builtin.zeroCells Zc (n - i)).toList.length = (n - i) * 15 := by simp [Builtin.zeroCells, Zc]
  have hst := run_storeCells_cells (P := Try.prog) g (i * 15) (Builtin.zeroCells Zc (n - i)).toList 0 w
    (by intro j hj; rw [hlen] at hj; rw [show i * 15 + 0 + j = i * 15 + j by omega, (hr (i * 15 + j) (by omega)).1]; rfl)
    (by intro j hj; rw [hlen] at hj; rw [show i * 15 + 0 + j = i * 15 + j by omega]; exact (hr (i * 15 + j) (by omega)).2)
    (by
      intro v hv
      simp only [Builtin.zeroCells, Array.toList_map, List.mem_map] at hv
      have hzs : Zc.size = 15 := rfl
      rw [hzs] at hv
      obtain ⟨j, _, rfl⟩ := hv
      have : j % 15 = 0 ∨ j % 15 = 1 ∨ j % 15 = 2 ∨ j % 15 = 3 ∨ j % 15 = 4 ∨ j % 15 = 5 ∨ j % 15 = 6 ∨ j % 15 = 7 ∨ j % 15 = 8 ∨ j % 15 = 9 ∨ j % 15 = 10 ∨ j % 15 = 11 ∨ j % 15 = 12 ∨ j % 15 = 13 ∨ j % 15 = 14 := by omega
      rcases this with h | h | h | h | h | h | h | h | h | h | h | h | h | h | h <;> simp [h, Zc] <;> rfl)
  simp only [Nat.add_zero] at hst
  obtain ⟨m, hm⟩ : ∃ m, n - i = m + 1 := ⟨n - i - 1, by omega⟩
  rw [hm] at hst ⊢
  simp [Builtin.clear_, run_underlying Try.underlying33]
  change ((Sem.run Try.prog (storeCells ⟨g, i * 15, none⟩ (Builtin.zeroCells Zc (m + 1)).toList) w).andThen _) = _
  rw [hst]
  rfl

theorem below_put {B g : Nat} {W0 W : World} (hb : Below B W0 W) (hg : B ≤ g) (m : Nat) (t : T) : Below B W0 (((((((((((((((W.setCell ⟨g, m * 15, none⟩ (.int .i64 t.k)).setCell ⟨g, m * 15 + 1, none⟩ (.int .i64 0)).setCell ⟨g, m * 15 + 2, none⟩ (.bool false)).setCell ⟨g, m * 15 + 3, none⟩ (.bool false)).setCell ⟨g, m * 15 + 4, none⟩ (.bool false)).setCell ⟨g, m * 15 + 5, none⟩ (.pointer none)).setCell ⟨g, m * 15 + 6, none⟩ (.slice none 0 0)).setCell ⟨g, m * 15 + 7, none⟩ (.bool false)).setCell ⟨g, m * 15 + 8, none⟩ (.bool t.p)).setCell ⟨g, m * 15 + 9, none⟩ (.bool false)).setCell ⟨g, m * 15 + 10, none⟩ (.slice none 0 0)).setCell ⟨g, m * 15 + 11, none⟩ (.int .i64 0)).setCell ⟨g, m * 15 + 12, none⟩ (.string ByteArray.empty)).setCell ⟨g, m * 15 + 13, none⟩ (.pointer none)).setCell ⟨g, m * 15 + 14, none⟩ (.int .i64 t.o)) :=
  (((((((((((((((hb.setCell hg _).setCell hg _).setCell hg _).setCell hg _).setCell hg _).setCell hg _).setCell hg _).setCell hg _).setCell hg _).setCell hg _).setCell hg _).setCell hg _).setCell hg _).setCell hg _).setCell hg _)

theorem Row.alloc {W : World} {g n : Nat} {f : Nat → Value} (h : Row W g n f) (o : Obj) : Row (W.alloc o) g n f := h.below ((Below.refl _ _).alloc (Nat.le_refl _) o)

/-- a field that C sees -/
def keep (t : T) : Bool := !t.p

/-- how far the loop is: of the first j fields those that are kept stand first, in M; the others as they stood -/
structure Dl (L M : List T) (i j : Nat) : Prop where
  len : M.length = L.length
  lt : i < j
  le : j ≤ L.length
  front : M.take i = (L.take j).filter keep
  back : ∀ m, j ≤ m → M.getD m z = L.getD m z

theorem Dl.skip {L M : List T} {i j : Nat} (h : Dl L M i j) (hj : j < L.length) (hp : (L.getD j z).p = true) : Dl L M i (j + 1) := by
  refine ⟨h.len, by have := h.lt; omega, hj, ?_, fun m hm => h.back m (by omega)⟩
  have e : L.getD j z = L[j] := by rw [List.getD_eq_getElem?_getD, List.getElem?_eq_getElem hj]; rfl
  rw [h.front, List.take_succ_eq_append_getElem hj, List.filter_append]
  rw [e] at hp
  simp [keep, hp]
theorem Dl.put {L M : List T} {i j : Nat} (h : Dl L M i j) (hj : j < L.length) (hp : (L.getD j z).p = false) : Dl L (M.set i (L.getD j z)) (i + 1) (j + 1) := by
  have hl := h.len
  have hij := h.lt
  refine ⟨by simp [hl], by omega, hj, ?_, fun m hm => ?_⟩
  · have e : L.getD j z = L[j] := by rw [List.getD_eq_getElem?_getD, List.getElem?_eq_getElem hj]; rfl
    have hi : i < (M.set i (L.getD j z)).length := by simp; omega
    rw [List.take_succ_eq_append_getElem hi, List.getElem_set_self, List.take_set_of_le (Nat.le_refl _), h.front, List.take_succ_eq_append_getElem hj, List.filter_append]
    rw [e] at hp ⊢
    simp [keep, hp]
  · rw [List.getD_eq_getElem?_getD, List.getElem?_set_ne (by omega), ← List.getD_eq_getElem?_getD]
    exact h.back m (by omega)
theorem dl_start {L : List T} {q : Nat} (hq : q < L.length) (h0 : ∀ m, m < q → (L.getD m z).p = false) (h1 : (L.getD q z).p = true) : Dl L L q (q + 1) := by
  refine ⟨rfl, by omega, hq, ?_, fun _ _ => rfl⟩
  have e : L.getD q z = L[q] := by rw [List.getD_eq_getElem?_getD, List.getElem?_eq_getElem hq]; rfl
  rw [List.take_succ_eq_append_getElem hq, List.filter_append]
  rw [e] at h1
  have : (L.take q).filter keep = L.take q := by
    rw [List.filter_eq_self]
    intro t ht
    obtain ⟨m, hm, rfl⟩ := List.mem_iff_getElem.1 ht
    have hm' : m < q := by simp at hm; omega
    have := h0 m hm'
    rw [List.getD_eq_getElem?_getD, List.getElem?_eq_getElem (by omega)] at this
    simp [keep]
    simpa using this
  rw [this]
  simp [keep, h1]
theorem flat_front {M N : List T} {i : Nat} (h : M.take i = N) (hi : i ≤ M.length) : N.length = i ∧ ∀ x, x < i * 15 → flat M x = flat N x := by
  subst h
  refine ⟨by simp; omega, fun x hx => ?_⟩
  unfold flat
  rw [List.getD_eq_getElem?_getD, List.getD_eq_getElem?_getD, List.getElem?_take_of_lt (by omega)]

set_option maxHeartbeats 4000000 in
theorem del_some (w : World) (g n cap q : Nat) (L : List T) (hL : L.length = n) (hr : Row w g n (flat L)) (hn : n ≤ 32768) (hcap : n ≤ cap) (hq : q < n) (h0 : ∀ m, m < q → (L.getD m z).p = false) (h1 : (L.getD q z).p = true)
    (W0 : World) (hb0 : Below W0.heap.size W0 w) (hg : W0.heap.size ≤ g) :
    Calls Try.prog 25 #[.slice (some ⟨g, 0, none⟩) n cap, .func (.func 27) #[] #[]] w fun e w' =>
      e = .returned (.slice (some ⟨g, 0, none⟩) (L.filter keep).length cap) ∧ Row w' g (L.filter keep).length (flat (L.filter keep)) ∧ Below W0.heap.size W0 w' := by
  have HI : Hid (Calls Try.prog 29 #[.slice (some ⟨g, 0, none⟩) n cap, .func (.func 27) #[] #[]] w fun e w' => e = .returned (.int .i64 q) ∧ Below w.heap.size w w') := idx_some w g n cap q L hr hn hq h0 h1
  have hd0 := dl_start (L := L) (q := q) (by omega) h0 h1
  clear h0 h1
  have hqn : ((q : Int) == -1) = false := by simp
  go_enter Try.func25, Try.ntmps25
  go_wp2_with fail
  refine HI.out.mono ?_
  rintro e w1 ⟨rfl, hb1⟩
  have hr1 := hr.below hb1
  have hbb := hb0.trans (hb1.mono hb0.size)
  clear HI hr hb1 hb0
  go_wp2_with fail
  go_loopg [5, 6] (n - (q + 1)) (fun gk x y wr => ∃ (i j : Nat) (M : List T), gk = n - j ∧ x = .int .i64 i ∧ y = .int .i64 j ∧ Dl L M i j ∧ Row wr g n (flat M) ∧ Below W0.heap.size W0 wr)
  case atStart => exact ⟨q, q + 1, L, rfl, rfl, by go_num, hd0, hr1, hbb⟩
  case round =>
    clear hr1 hbb hd0
    obtain ⟨i, j, M, rfl, rfl, rfl, hd, hr, hb⟩ := hrel
    have hij := hd.lt
    have hjl := hd.le
    have hml := hd.len
    by_cases hjn : j < n
    · have ht := hd.back j (Nat.le_refl _)
      generalize htt : L.getD j z = t at ht
      have HS : Hid (t.p = true → Dl L M i (j + 1)) := fun hp => hd.skip (by omega) (by rw [htt]; exact hp)
      have HP : Hid (t.p = false → Dl L (M.set i t) (i + 1) (j + 1)) := fun hp => by have := hd.put (by omega) (by rw [htt]; exact hp); rwa [htt] at this
      obtain ⟨k, o, p⟩ := t
      obtain ⟨t0, t1, t2, t3, t4, t5, t6, t7, t8, t9, t10, t11, t12, t13, t14⟩ := row_elem hr hjn ⟨k, o, p⟩ ht
      obtain ⟨s0, s1, s2, s3, s4, s5, s6, s7, s8, s9, s10, s11, s12, s13, s14⟩ := row_elem hr (show i < n by omega) (M.getD i z) rfl
      obtain ⟨z0, z1, z2, z3, z4, z5, z6, z7, z8, z9, z10, z11, z12, z13, z14⟩ := row_free hr (show i < n by omega)
      simp only at t0 t8 t14
      have lg := hr.lt (by omega)
      have q0 : (j : Int) < (n : Int) := by omega
      have q1 : (i : Int) < (n : Int) := by omega
      clear ht htt hd
      cases p
      · go_wp2_with (go_at_call 27; refine (pad_any _ _ _ _).mono ?_; rintro e w' ⟨rfl, rfl⟩)
        go_roundg (n - (j + 1))
        case measure => omega
        case rel =>
          exact ⟨i + 1, j + 1, M.set i ⟨k, o, false⟩, rfl, by go_num, by go_num, HP.out trivial, ((row_put hr i (by omega) ⟨k, o, false⟩).alloc _).alloc _, ((below_put hb hg i ⟨k, o, false⟩).alloc (by simpa [World.setCell] using hb.size) _).alloc (by have := hb.size; simp [World.setCell]; omega) _⟩
      · go_wp2_with (go_at_call 27; refine (pad_any _ _ _ _).mono ?_; rintro e w' ⟨rfl, rfl⟩)
        go_roundg (n - (j + 1))
        case measure => omega
        case rel => exact ⟨i, j + 1, M, rfl, rfl, by go_num, HS.out trivial, (hr.alloc _).alloc _, (hb.alloc hb.size _).alloc (by have := hb.size; simp; omega) _⟩
    · obtain rfl : j = n := by omega
      have q0 : ¬ (j : Int) < (j : Int) := by omega
      have q1 : (i : Int) ≤ (j : Int) := by omega
      obtain ⟨zs, hcl⟩ := run_clear48 wr g i j cap (by omega) _ hr
      have hfr := flat_front (M := M) (i := i) (N := L.filter keep) (by rw [hd.front, List.take_of_length_le (by omega)]) (by omega)
      have HFR : Hid ((L.filter keep).length = i ∧ ∀ x, x < i * 15 → flat M x = flat (L.filter keep) x) := hfr
      clear hfr hd
      go_wp2
      go_ret
      have hl := HFR.out.1
      have hf := HFR.out.2
      refine ⟨?_, ?_, below_setCells hg _ _ _ _ hb⟩
      · rw [hl]; rfl
      · rw [hl]
        intro x hx
        refine ⟨?_, ?_⟩
        · rw [World.cell?_setCells_out _ _ _ _ _ (fun _ _ => .inl hx), ← hf x hx]
          exact (hr x (by omega)).1
        · rw [World.frozen?_setCells]
          exact (hr x (by omega)).2

set_option maxHeartbeats 1000000 in
theorem del_none (w : World) (g n cap : Nat) (L : List T) (hr : Row w g n (flat L)) (hn : n ≤ 32768) (h0 : ∀ m, m < n → (L.getD m z).p = false) :
    Calls Try.prog 25 #[.slice (some ⟨g, 0, none⟩) n cap, .func (.func 27) #[] #[]] w fun e w' => e = .returned (.slice (some ⟨g, 0, none⟩) n cap) ∧ Below w.heap.size w w' := by
  have HI : Hid (Calls Try.prog 29 #[.slice (some ⟨g, 0, none⟩) n cap, .func (.func 27) #[] #[]] w fun e w' => e = .returned (.int .i64 (-1)) ∧ Below w.heap.size w w') := idx_none w g n cap L hr hn h0
  clear h0 hr
  go_enter Try.func25, Try.ntmps25
  go_wp2_with fail
  refine HI.out.mono ?_
  rintro e w1 ⟨rfl, hb1⟩
  go_wp2
  go_ret
  exact ⟨rfl, hb1⟩

theorem del_empty (w : World) (a : Option Addr) (cap : Nat) :
    Calls Try.prog 25 #[.slice a 0 cap, .func (.func 27) #[] #[]] w fun e w' => e = .returned (.slice a 0 cap) ∧ w' = w := by
  go_enter Try.func25, Try.ntmps25
  go_wp2_with (go_at_call 29; refine (idx_empty _ _ _).mono ?_; rintro e w' ⟨rfl, rfl⟩)
  go_ret
  exact ⟨rfl, rfl⟩

theorem find_pad (L : List T) : (∀ m, m < L.length → (L.getD m z).p = false) ∨ ∃ q, q < L.length ∧ (∀ m, m < q → (L.getD m z).p = false) ∧ (L.getD q z).p = true := by
  have key : ∀ n, n ≤ L.length → (∀ m, m < n → (L.getD m z).p = false) ∨ ∃ q, q < L.length ∧ (∀ m, m < q → (L.getD m z).p = false) ∧ (L.getD q z).p = true := by
    intro n
    induction n with
    | zero => intro _; exact .inl fun m hm => absurd hm (by omega)
    | succ n ih =>
      intro hn
      rcases ih (by omega) with h | h
      · cases hp : (L.getD n z).p
        · refine .inl fun m hm => ?_
          by_cases e : m = n
          · rw [e]; exact hp
          · exact h m (by omega)
        · exact .inr ⟨n, by omega, h, hp⟩
      · exact .inr h
  exact key L.length (Nat.le_refl _)

theorem filter_none {L : List T} (h : ∀ m, m < L.length → (L.getD m z).p = false) : L.filter keep = L := by
  rw [List.filter_eq_self]
  intro t ht
  obtain ⟨m, hm, rfl⟩ := List.mem_iff_getElem.1 ht
  have := h m hm
  rw [List.getD_eq_getElem?_getD, List.getElem?_eq_getElem hm] at this
  simp [keep]
  simpa using this

/-- 'slices.DeleteFunc' at a row of at least one field -/
theorem del_any (w : World) (g cap : Nat) (L : List T) (hr : Row w g L.length (flat L)) (hn : L.length ≤ 32768) (hcap : L.length ≤ cap) (W0 : World) (hb0 : Below W0.heap.size W0 w) (hg : W0.heap.size ≤ g) :
    Calls Try.prog 25 #[.slice (some ⟨g, 0, none⟩) L.length cap, .func (.func 27) #[] #[]] w fun e w' =>
      e = .returned (.slice (some ⟨g, 0, none⟩) (L.filter keep).length cap) ∧ Row w' g (L.filter keep).length (flat (L.filter keep)) ∧ Below W0.heap.size W0 w' := by
  rcases find_pad L with h | ⟨q, hq, h0, h1⟩
  · rw [filter_none h]
    exact (del_none w g L.length cap L hr hn h).mono fun e w' ⟨he, hb⟩ => ⟨he, hr.below hb, hb0.trans (hb.mono hb0.size)⟩
  · exact del_some w g L.length cap q L rfl hr hn hcap hq h0 h1 W0 hb0 hg
end Go.Proofs.Qxb6602112a.fd
