import Derived.Test.Qxb6602188aFrac
namespace Go.Proofs.Qxb6602188a.fr
open Go.ChangeShapes Go.WideShapes Go.ChangeAt Go.RowKit
open sc

theorem sc_made (w : World) (s : ByteArray) (i : Int) (f : Bool) : Sc w (w.alloc (.cells #[.string s, .int .i64 i, .bool f] 32)) w.heap.size s i f :=
  ⟨Nat.le_refl _, (Grown.refl w).alloc _ _, by simp, by simp, by simp, by simp, by simp⟩

theorem zz_yes (w : World) (s : ByteArray) (i j : Nat) (f : Bool) (U : Int) (HU : Hid (pl.usD (s.extract i j) = U))
    (hs : s.size ≤ 2097152) (hij : i < j) (hj : j ≤ s.size)
    (hd : ∀ m, (h : m < s.size) → i ≤ m → m < j → 48 ≤ (s[m].toNat : Int) ∧ (s[m].toNat : Int) ≤ 57)
    (he : (h : j < s.size) → ¬ (48 ≤ (s[j].toNat : Int) ∧ (s[j].toNat : Int) ≤ 57)) :
    Calls Try.prog 7 #[.string s, .int .i64 i, .bool f] w fun e w' => e = .returned (.tuple #[.int .i64 U, .int .i64 j, .bool f]) ∧ Grown w w' := by
  have H : Hid (∀ W, Sc w W w.heap.size s i f → Calls Try.prog 10 #[.pointer (some ⟨w.heap.size, 0, none⟩)] W fun e w' => e = .returned (.int .i64 U) ∧ Sc w w' w.heap.size s j f) := by
    intro W hW
    have := frac_yes w W w.heap.size s i j f hW hs hij hj hd he
    rwa [HU.out] at this
  clear HU hs hij hj hd he
  go_enter Try.func7, Try.ntmps7
  go_wp2_with fail
  refine (H.out _ (sc_made w s i f)).mono ?_
  rintro e w1 ⟨rfl, hsc⟩
  have c1 := hsc.c1
  have c2 := hsc.c2
  go_wp2_with fail
  go_quiet (fail)
  go_wp2
  go_ret3
  exact ⟨rfl, (hsc.drewN _).grown⟩

theorem zz_no (w : World) (s : ByteArray) (i : Nat) (f : Bool) (hj : i ≤ s.size)
    (he : (h : i < s.size) → ¬ (48 ≤ (s[i].toNat : Int) ∧ (s[i].toNat : Int) ≤ 57)) :
    Calls Try.prog 7 #[.string s, .int .i64 i, .bool f] w fun e w' => e = .returned (.tuple #[.int .i64 0, .int .i64 i, .bool true]) ∧ Grown w w' := by
  have H : Hid (∀ W, Sc w W w.heap.size s i f → Calls Try.prog 10 #[.pointer (some ⟨w.heap.size, 0, none⟩)] W fun e w' => e = .returned (.int .i64 0) ∧ Sc w w' w.heap.size s i true) := by
    intro W hW
    exact frac_no w W w.heap.size s i f hW hj he
  clear hj he
  go_enter Try.func7, Try.ntmps7
  go_wp2_with fail
  refine (H.out _ (sc_made w s i f)).mono ?_
  rintro e w1 ⟨rfl, hsc⟩
  have c1 := hsc.c1
  have c2 := hsc.c2
  go_wp2_with fail
  go_quiet (fail)
  go_wp2
  go_ret3
  exact ⟨rfl, (hsc.drewN _).grown⟩
end Go.Proofs.Qxb6602188a.fr
