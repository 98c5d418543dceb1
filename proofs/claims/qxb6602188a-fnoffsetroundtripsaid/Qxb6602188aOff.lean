import Derived.Test.Qxb6602188aNum
/-
  'offset' (function 11) and 'ZZScannerOffset' (function 9) on a text that bears an offset as PostgreSQL writes one.
-/
namespace Go.Proofs.Qxb6602188a.nu
open Go.ChangeShapes Go.WideShapes Go.ChangeAt Go.RowKit
open sc

/-- at i: the sign; then hd digits (1 or 2) that make H, with no third; at j the minutes' sign or none -/
structure Head (s : ByteArray) (i j : Nat) (neg : Bool) (H : Int) : Prop where
  sz : s.size ≤ 2097152
  lt : i + 1 < j
  two : j ≤ i + 1 + 2
  inn : j ≤ s.size
  sign : ∀ h : i < s.size, ((s[i].toNat : Int) == 45) = neg
  plus : neg = false → ∀ h : i < s.size, ((s[i].toNat : Int) == 43) = true
  dig : ∀ m, (h : m < s.size) → i + 1 ≤ m → m < j → 48 ≤ (s[m].toNat : Int) ∧ (s[m].toNat : Int) ≤ 57
  stop : j = i + 1 + 2 ∨ ((h : j < s.size) → ¬ (48 ≤ (s[j].toNat : Int) ∧ (s[j].toNat : Int) ≤ 57))
  val : vT s (i + 1) (j - (i + 1)) = H
  lo : 0 ≤ H
  hi : H ≤ 15

/-- no minutes at j -/
def NoMin (s : ByteArray) (j : Nat) : Prop := ¬ j < s.size ∨ ∃ h : j < s.size, ((s[j].toNat : Int) == 58) = false

/-- minutes at j -/
structure Min (s : ByteArray) (j : Nat) (M : Int) : Prop where
  inn : j + 3 ≤ s.size
  sign : ∀ h : j < s.size, ((s[j].toNat : Int) == 58) = true
  dig : ∀ m, (h : m < s.size) → j + 1 ≤ m → m < j + 3 → 48 ≤ (s[m].toNat : Int) ∧ (s[m].toNat : Int) ≤ 57
  val : vT s (j + 1) (j + 3 - (j + 1)) = M
  lo : 0 ≤ M
  hi : M ≤ 59

def usOf (neg : Bool) (H M : Int) : Int := if neg then -((H * 3600 + M * 60) * 1000000) else (H * 3600 + M * 60) * 1000000

theorem off_nomin (w0 w : World) (b : Nat) (s : ByteArray) (i j : Nat) (f neg : Bool) (H : Int) (hsc : Sc w0 w b s i f) (hh : Head s i j neg H) (hm : NoMin s j) :
    Calls Try.prog 11 #[.pointer (some ⟨b, 0, none⟩)] w fun e w' => e = .returned (.int .i64 (usOf neg H 0)) ∧ Sc w0 w' b s j f := by
  have hi := hh.inn
  have hlt := hh.lt
  have N1 : Hid (∀ W, Sc w0 W b s ((i + 1 : Nat) : Int) f → Calls Try.prog 13 #[.pointer (some ⟨b, 0, none⟩), .int .i64 1, .int .i64 2] W fun e w' => e = .returned (.int .i64 H) ∧ Sc w0 w' b s j f) :=
    fun W hW => number_any w0 W b s (i + 1) j f 1 H hh.val hW hh.sz (by omega) hh.two hh.inn (by omega) hh.dig hh.stop
  have S3 : Hid (∀ W, Sc w0 W b s j f → Calls Try.prog 12 #[.pointer (some ⟨b, 0, none⟩), .int .u8 58] W fun e w' => e = .returned (.bool false) ∧ Sc w0 w' b s j f) :=
    fun W hW => skip_no w0 W b s j f 58 hW hm
  have hlo := hh.lo
  have hhi := hh.hi
  cases neg
  · have S1 : Hid (∀ W, Sc w0 W b s i f → Calls Try.prog 12 #[.pointer (some ⟨b, 0, none⟩), .int .u8 45] W fun e w' => e = .returned (.bool false) ∧ Sc w0 w' b s i f) :=
      fun W hW => skip_no w0 W b s i f 45 hW (.inr ⟨by omega, hh.sign _⟩)
    have S2 : Hid (∀ W, Sc w0 W b s i f → Calls Try.prog 12 #[.pointer (some ⟨b, 0, none⟩), .int .u8 43] W fun e w' => e = .returned (.bool true) ∧ Sc w0 w' b s ((i + 1 : Nat) : Int) f) :=
      fun W hW => skip_yes w0 W b s i f 43 hW hh.sz (by omega) (hh.plus rfl _)
    clear hm hh
    go_enter Try.func11, Try.ntmps11
    go_wp2_with fail
    refine (S1.out _ hsc).mono ?_
    rintro e w1 ⟨rfl, s1⟩
    go_wp2_with fail
    refine (S2.out _ s1).mono ?_
    rintro e w2 ⟨rfl, s2⟩
    go_wp2_with fail
    refine (N1.out _ s2).mono ?_
    rintro e w3 ⟨rfl, s3⟩
    go_wp2_with fail
    refine (S3.out _ s3).mono ?_
    rintro e w4 ⟨rfl, s4⟩
    go_wp2
    go_ret
    exact ⟨ret_int (by simp [usOf]), s4⟩
  · have S1 : Hid (∀ W, Sc w0 W b s i f → Calls Try.prog 12 #[.pointer (some ⟨b, 0, none⟩), .int .u8 45] W fun e w' => e = .returned (.bool true) ∧ Sc w0 w' b s ((i + 1 : Nat) : Int) f) :=
      fun W hW => skip_yes w0 W b s i f 45 hW hh.sz (by omega) (hh.sign _)
    clear hm hh
    go_enter Try.func11, Try.ntmps11
    go_wp2_with fail
    refine (S1.out _ hsc).mono ?_
    rintro e w1 ⟨rfl, s1⟩
    go_wp2_with fail
    refine (N1.out _ s1).mono ?_
    rintro e w3 ⟨rfl, s3⟩
    go_wp2_with fail
    refine (S3.out _ s3).mono ?_
    rintro e w4 ⟨rfl, s4⟩
    go_wp2
    go_ret
    exact ⟨ret_int (by simp [usOf]), s4⟩

theorem off_min (w0 w : World) (b : Nat) (s : ByteArray) (i j : Nat) (f neg : Bool) (H : Int) (M : Int) (hsc : Sc w0 w b s i f) (hh : Head s i j neg H) (hm : Min s j M) :
    Calls Try.prog 11 #[.pointer (some ⟨b, 0, none⟩)] w fun e w' => e = .returned (.int .i64 (usOf neg H M)) ∧ Sc w0 w' b s ((j + 3 : Nat) : Int) f := by
  have hi := hh.inn
  have hlt := hh.lt
  have N1 : Hid (∀ W, Sc w0 W b s ((i + 1 : Nat) : Int) f → Calls Try.prog 13 #[.pointer (some ⟨b, 0, none⟩), .int .i64 1, .int .i64 2] W fun e w' => e = .returned (.int .i64 H) ∧ Sc w0 w' b s j f) :=
    fun W hW => number_any w0 W b s (i + 1) j f 1 H hh.val hW hh.sz (by omega) hh.two hh.inn (by omega) hh.dig hh.stop
  have hmi := hm.inn
  have S3 : Hid (∀ W, Sc w0 W b s j f → Calls Try.prog 12 #[.pointer (some ⟨b, 0, none⟩), .int .u8 58] W fun e w' => e = .returned (.bool true) ∧ Sc w0 w' b s ((j + 1 : Nat) : Int) f) :=
    fun W hW => skip_yes w0 W b s j f 58 hW hh.sz (by omega) (hm.sign _)
  have N2 : Hid (∀ W, Sc w0 W b s ((j + 1 : Nat) : Int) f → Calls Try.prog 13 #[.pointer (some ⟨b, 0, none⟩), .int .i64 2, .int .i64 2] W fun e w' => e = .returned (.int .i64 M) ∧ Sc w0 w' b s ((j + 3 : Nat) : Int) f) :=
    fun W hW => number_any w0 W b s (j + 1) (j + 3) f 2 M hm.val hW hh.sz (by omega) (by omega) hm.inn (by omega) hm.dig (.inl rfl)
  have hml := hm.lo
  have hmh := hm.hi
  have hlo := hh.lo
  have hhi := hh.hi
  cases neg
  · have S1 : Hid (∀ W, Sc w0 W b s i f → Calls Try.prog 12 #[.pointer (some ⟨b, 0, none⟩), .int .u8 45] W fun e w' => e = .returned (.bool false) ∧ Sc w0 w' b s i f) :=
      fun W hW => skip_no w0 W b s i f 45 hW (.inr ⟨by omega, hh.sign _⟩)
    have S2 : Hid (∀ W, Sc w0 W b s i f → Calls Try.prog 12 #[.pointer (some ⟨b, 0, none⟩), .int .u8 43] W fun e w' => e = .returned (.bool true) ∧ Sc w0 w' b s ((i + 1 : Nat) : Int) f) :=
      fun W hW => skip_yes w0 W b s i f 43 hW hh.sz (by omega) (hh.plus rfl _)
    clear hm hh
    go_enter Try.func11, Try.ntmps11
    go_wp2_with fail
    refine (S1.out _ hsc).mono ?_
    rintro e w1 ⟨rfl, s1⟩
    go_wp2_with fail
    refine (S2.out _ s1).mono ?_
    rintro e w2 ⟨rfl, s2⟩
    go_wp2_with fail
    refine (N1.out _ s2).mono ?_
    rintro e w3 ⟨rfl, s3⟩
    go_wp2_with fail
    refine (S3.out _ s3).mono ?_
    rintro e w4 ⟨rfl, s4⟩
    go_wp2_with fail
    refine (N2.out _ s4).mono ?_
    rintro e w5 ⟨rfl, s5⟩
    go_wp2
    go_ret
    exact ⟨ret_int (by simp [usOf]), s5⟩
  · have S1 : Hid (∀ W, Sc w0 W b s i f → Calls Try.prog 12 #[.pointer (some ⟨b, 0, none⟩), .int .u8 45] W fun e w' => e = .returned (.bool true) ∧ Sc w0 w' b s ((i + 1 : Nat) : Int) f) :=
      fun W hW => skip_yes w0 W b s i f 45 hW hh.sz (by omega) (hh.sign _)
    clear hm hh
    go_enter Try.func11, Try.ntmps11
    go_wp2_with fail
    refine (S1.out _ hsc).mono ?_
    rintro e w1 ⟨rfl, s1⟩
    go_wp2_with fail
    refine (N1.out _ s1).mono ?_
    rintro e w3 ⟨rfl, s3⟩
    go_wp2_with fail
    refine (S3.out _ s3).mono ?_
    rintro e w4 ⟨rfl, s4⟩
    go_wp2_with fail
    refine (N2.out _ s4).mono ?_
    rintro e w5 ⟨rfl, s5⟩
    go_wp2
    go_ret
    exact ⟨ret_int (by simp [usOf]), s5⟩

theorem sc_made (w : World) (s : ByteArray) (i : Int) (f : Bool) : Sc w (w.alloc (.cells #[.string s, .int .i64 i, .bool f] 32)) w.heap.size s i f :=
  ⟨Nat.le_refl _, (Grown.refl w).alloc _ _, by simp, by simp, by simp, by simp, by simp⟩

theorem zz_any (w : World) (s : ByteArray) (i j : Nat) (f : Bool) (U : Int)
    (H : Hid (∀ W, Sc w W w.heap.size s i f → Calls Try.prog 11 #[.pointer (some ⟨w.heap.size, 0, none⟩)] W fun e w' => e = .returned (.int .i64 U) ∧ Sc w w' w.heap.size s j f)) :
    Calls Try.prog 9 #[.string s, .int .i64 i, .bool f] w fun e w' => e = .returned (.tuple #[.int .i64 U, .int .i64 j, .bool f]) ∧ Grown w w' := by
  go_enter Try.func9, Try.ntmps9
  go_wp2_with fail
  refine (H.out _ (sc_made w s i f)).mono ?_
  rintro e w1 ⟨rfl, hsc⟩
  have c1 := hsc.c1
  have c2 := hsc.c2
  go_wp2_with fail
  go_quiet (fail)
  go_wp2
  go_ret3
  exact ⟨rfl, (hsc.drewN _).grown⟩

/-- 'ZZScannerOffset' on a text that bears an offset from i on, up to j (with no minutes) or up to j + 3 -/
theorem zz_off (w : World) (s : ByteArray) (i j je : Nat) (f neg : Bool) (H M : Int) (hh : Head s i j neg H) (hm : (NoMin s j ∧ M = 0 ∧ je = j) ∨ (Min s j M ∧ je = j + 3)) :
    Calls Try.prog 9 #[.string s, .int .i64 i, .bool f] w fun e w' => e = .returned (.tuple #[.int .i64 (usOf neg H M), .int .i64 je, .bool f]) ∧ Grown w w' := by
  rcases hm with ⟨hm, rfl, rfl⟩ | ⟨hm, rfl⟩
  · exact zz_any w s i je f _ fun W hW => off_nomin w W w.heap.size s i je f neg H hW hh hm
  · exact zz_any w s i (j + 3) f _ fun W hW => off_min w W w.heap.size s i j f neg H M hW hh hm
end Go.Proofs.Qxb6602188a.nu
