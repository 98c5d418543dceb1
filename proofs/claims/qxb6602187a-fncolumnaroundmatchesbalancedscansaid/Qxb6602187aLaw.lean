import Derived.Test.Qxb6602187aZzCol
import Derived.Test.Qxb6602187aModelWalk
/-
  THE LAW 'FnColumnAroundMatchesBalancedScan' (function 3), walked.
-/
namespace Go.Proofs.Qxb6602187a.la
open Go.ChangeShapes Go.WideShapes Go.ChangeAt Go.RowKit
open tk

theorem zz_empty (w : World) (a : Option Addr) (cap : Nat) (i j k l : Value) : Calls Try.prog 5 #[.slice a 0 cap, i, j, k, l] w fun e w' => e = .returned (.bool true) ∧ w' = w := by
  go_enter Try.func5, Try.ntmps5
  go_wp2
  refine wp_loop_rounds 1 ?_
  rw [rounds_succ]
  go_wp2
  go_ret
  exact ⟨rfl, rfl⟩
theorem bytes_empty (w : World) (a : Option Addr) (cap : Nat) : Calls Try.prog 6 #[.slice a 0 cap] w fun e w' => e = .returned (.int .i64 0) ∧ w' = w := by
  go_enter Try.func6, Try.ntmps6
  go_wp2
  refine wp_loop_rounds 1 ?_
  rw [rounds_succ]
  go_wp2
  go_ret
  exact ⟨rfl, rfl⟩

theorem law_empty (w : World) (a : Option Addr) (cap : Nat) (i first en depth : Int) :
    Calls Try.prog 3 #[.slice a 0 cap, .int .i64 i, .int .i64 first, .int .i64 en, .int .i64 depth] w fun e w' => e = .returned (.bool true) ∧ Below w.heap.size w w' := by
  by_cases c1 : first < 0
  · go_enter Try.func3, Try.ntmps3
    go_wp2_with (first | (go_at_call 5; refine (zz_empty _ _ _ _ _ _ _).mono ?_; rintro e w' ⟨rfl, rfl⟩) | (go_at_call 6; refine (bytes_empty _ _ _).mono ?_; rintro e w' ⟨rfl, rfl⟩))
    go_ret
    exact ⟨rfl, Below.refl _ _⟩
  by_cases c2 : i < first
  · go_enter Try.func3, Try.ntmps3
    go_wp2_with (first | (go_at_call 5; refine (zz_empty _ _ _ _ _ _ _).mono ?_; rintro e w' ⟨rfl, rfl⟩) | (go_at_call 6; refine (bytes_empty _ _ _).mono ?_; rintro e w' ⟨rfl, rfl⟩))
    go_ret
    exact ⟨rfl, Below.refl _ _⟩
  by_cases c3 : en ≤ i
  · go_enter Try.func3, Try.ntmps3
    go_wp2_with (first | (go_at_call 5; refine (zz_empty _ _ _ _ _ _ _).mono ?_; rintro e w' ⟨rfl, rfl⟩) | (go_at_call 6; refine (bytes_empty _ _ _).mono ?_; rintro e w' ⟨rfl, rfl⟩))
    go_ret
    exact ⟨rfl, Below.refl _ _⟩
  · have e1 : decide (first < 0) = false := by simp; omega
    have e2 : decide (i < first) = false := by simp; omega
    have e3 : decide (en ≤ i) = false := by simp; omega
    have e4 : decide (0 < en) = true := by simp; omega
    clear c1 c2 c3
    go_enter Try.func3, Try.ntmps3
    go_wp2_with (first | (go_at_call 5; refine (zz_empty _ _ _ _ _ _ _).mono ?_; rintro e w' ⟨rfl, rfl⟩) | (go_at_call 6; refine (bytes_empty _ _ _).mono ?_; rintro e w' ⟨rfl, rfl⟩))
    go_ret
    exact ⟨rfl, Below.refl _ _⟩

set_option maxHeartbeats 1000000 in
theorem law_full (w : World) (b off len cap : Nat) (K : Nat → Int) (Q : Nat → Bool) (X : Nat → ByteArray) (A E : Nat → Int) (ht : Toks w b off len K Q X A E) (hlm : len ≤ 9223372036854775807)
    (i first en depth : Int) (hd0 : -9223372036854775808 ≤ depth) (hd1 : depth ≤ 9223372036854775807) :
    Calls Try.prog 3 #[.slice (some ⟨b, off, none⟩) len cap, .int .i64 i, .int .i64 first, .int .i64 en, .int .i64 depth] w fun e w' => e = .returned (.bool true) ∧ Below w.heap.size w w' := by
  have HZ : Hid (∀ i j k l, Calls Try.prog 5 #[.slice (some ⟨b, off, none⟩) len cap, i, j, k, l] w fun e w' => IsB e ∧ w' = w) := fun i j k l => zz_any w b off len cap K Q X A E i j k l ht hlm
  by_cases hl : 65536 < len
  · clear ht
    go_enter Try.func3, Try.ntmps3
    go_wp2_with fail
    refine (HZ.out _ _ _ _).mono ?_
    rintro e w' ⟨⟨r, rfl⟩, rfl⟩
    cases r
    · go_wp2
      go_ret
      exact ⟨rfl, Below.refl _ _⟩
    · go_wp2
      go_ret
      exact ⟨rfl, Below.refl _ _⟩
  have hl' : len ≤ 65536 := by omega
  have HY : Hid (Calls Try.prog 6 #[.slice (some ⟨b, off, none⟩) len cap] w fun e w' => IsI e ∧ w' = w) := bytes_any w b off len cap K Q X A E ht hl'
  by_cases c1 : first < 0
  · have e1 : decide (first < 0) = true := by simp; omega
    clear c1
    go_enter Try.func3, Try.ntmps3
    go_wp2_with fail
    refine (HZ.out _ _ _ _).mono ?_
    rintro e w' ⟨⟨r, rfl⟩, rfl⟩
    cases r
    · go_wp2
      go_ret
      exact ⟨rfl, Below.refl _ _⟩
    · go_wp2_with fail
      refine HY.out.mono ?_
      rintro e w' ⟨⟨n, rfl⟩, rfl⟩
      by_cases hn : 1048576 < n
      · go_wp2
        go_ret
        exact ⟨rfl, Below.refl _ _⟩
      · go_wp2
        go_ret
        exact ⟨rfl, Below.refl _ _⟩
  by_cases c2 : i < first
  · have e1 : decide (first < 0) = false := by simp; omega
    have e2 : decide (i < first) = true := by simp; omega
    clear c1 c2
    go_enter Try.func3, Try.ntmps3
    go_wp2_with fail
    refine (HZ.out _ _ _ _).mono ?_
    rintro e w' ⟨⟨r, rfl⟩, rfl⟩
    cases r
    · go_wp2
      go_ret
      exact ⟨rfl, Below.refl _ _⟩
    · go_wp2_with fail
      refine HY.out.mono ?_
      rintro e w' ⟨⟨n, rfl⟩, rfl⟩
      by_cases hn : 1048576 < n
      · go_wp2
        go_ret
        exact ⟨rfl, Below.refl _ _⟩
      · go_wp2
        go_ret
        exact ⟨rfl, Below.refl _ _⟩
  by_cases c3 : en ≤ i
  · have e1 : decide (first < 0) = false := by simp; omega
    have e2 : decide (i < first) = false := by simp; omega
    have e3 : decide (en ≤ i) = true := by simp; omega
    clear c1 c2 c3
    go_enter Try.func3, Try.ntmps3
    go_wp2_with fail
    refine (HZ.out _ _ _ _).mono ?_
    rintro e w' ⟨⟨r, rfl⟩, rfl⟩
    cases r
    · go_wp2
      go_ret
      exact ⟨rfl, Below.refl _ _⟩
    · go_wp2_with fail
      refine HY.out.mono ?_
      rintro e w' ⟨⟨n, rfl⟩, rfl⟩
      by_cases hn : 1048576 < n
      · go_wp2
        go_ret
        exact ⟨rfl, Below.refl _ _⟩
      · go_wp2
        go_ret
        exact ⟨rfl, Below.refl _ _⟩
  by_cases c4 : (len : Int) < en
  · have e1 : decide (first < 0) = false := by simp; omega
    have e2 : decide (i < first) = false := by simp; omega
    have e3 : decide (en ≤ i) = false := by simp; omega
    have e4 : decide ((len : Int) < en) = true := by simp; omega
    clear c1 c2 c3 c4
    go_enter Try.func3, Try.ntmps3
    go_wp2_with fail
    refine (HZ.out _ _ _ _).mono ?_
    rintro e w' ⟨⟨r, rfl⟩, rfl⟩
    cases r
    · go_wp2
      go_ret
      exact ⟨rfl, Below.refl _ _⟩
    · go_wp2_with fail
      refine HY.out.mono ?_
      rintro e w' ⟨⟨n, rfl⟩, rfl⟩
      by_cases hn : 1048576 < n
      · go_wp2
        go_ret
        exact ⟨rfl, Below.refl _ _⟩
      · go_wp2
        go_ret
        exact ⟨rfl, Below.refl _ _⟩
  obtain ⟨i, rfl⟩ := Int.eq_ofNat_of_zero_le (by omega : 0 ≤ i)
  obtain ⟨first, rfl⟩ := Int.eq_ofNat_of_zero_le (by omega : 0 ≤ first)
  obtain ⟨en, rfl⟩ := Int.eq_ofNat_of_zero_le (by omega : 0 ≤ en)
  have HP : Hid (Calls Try.prog 7 #[.slice (some ⟨b, off, none⟩) len cap] w fun e w' =>
      e = .returned (.tuple #[.slice (some ⟨w.heap.size, 0, none⟩) len len, .slice (some ⟨w.heap.size + 1, 0, none⟩) len len, .slice (some ⟨w.heap.size + 1 + 1, 0, none⟩) len len, .slice (some ⟨w.heap.size + 1 + 1 + 1, 0, none⟩) len len, .slice (some ⟨w.heap.size + 1 + 1 + 1 + 1, 0, none⟩) len len])
      ∧ Ready w' w.heap.size len K Q X A E ∧ Below w.heap.size w w') := (planes_any w b off len cap K Q X A E ht hl').mono fun e w' ⟨h1, h2, h3⟩ => ⟨h1, h2.ready, h3⟩
  obtain ⟨F, hF⟩ : ∃ F, pl.colF (fun j => pl.cls (K j) (X j).toList) first i = F := ⟨_, rfl⟩
  obtain ⟨G, hG⟩ : ∃ G, pl.colE (fun j => pl.cls (K j) (X j).toList) first i en = G := ⟨_, rfl⟩
  have HC : Hid (∀ W B, Ready W B len K Q X A E → Calls Try.prog 8 #[.slice (some ⟨B, 0, none⟩) len len, .slice (some ⟨B + 1, 0, none⟩) len len, .slice (some ⟨B + 1 + 1, 0, none⟩) len len, .slice (some ⟨B + 1 + 1 + 1, 0, none⟩) len len, .slice (some ⟨B + 1 + 1 + 1 + 1, 0, none⟩) len len, .int .i64 i, .int .i64 first, .int .i64 en, .int .i64 depth] W fun x w' =>
      x = .returned (.tuple #[.int .i64 F, .int .i64 G]) ∧ Below W.heap.size W w') :=
    fun W B hR => co.zzcol_any W B len K Q X A E hR hl' i first en depth (by omega) (by omega) (by omega) hd0 hd1 _ (fun _ => rfl) F G hF hG
  have HM : Hid (∀ W, Below w.heap.size w W → Calls Try.prog 9 #[.slice (some ⟨b, off, none⟩) len cap, .int .i64 i, .int .i64 first, .int .i64 en] W fun x w' =>
      x = .returned (.tuple #[.int .i64 F, .int .i64 G]) ∧ Below W.heap.size W w') :=
    fun W hW => mo.model_any W b off len cap K Q X A E (ht.below hW) hl' i first en (by omega) (by omega) (by omega) _ (fun _ => rfl) F G hF hG
  have n1 : first ≤ i := by omega
  have n2 : i < en := by omega
  have n3 : en ≤ len := by omega
  have n1' : ¬ i < first := by omega
  have n2' : ¬ en ≤ i := by omega
  have n3' : ¬ len < en := by omega
  have e1 : decide ((first : Int) < 0) = false := by simp
  have e2 : decide ((i : Int) < (first : Int)) = false := by simp; omega
  have e3 : decide ((en : Int) ≤ (i : Int)) = false := by simp; omega
  have e4 : decide ((len : Int) < (en : Int)) = false := by simp; omega
  clear c1 c2 c3 c4 ht hF hG
  go_enter Try.func3, Try.ntmps3
  go_wp2_with fail
  refine (HZ.out _ _ _ _).mono ?_
  rintro e w' ⟨⟨r, rfl⟩, rfl⟩
  cases r
  · go_wp2
    go_ret
    exact ⟨rfl, Below.refl _ _⟩
  · go_wp2_with fail
    refine HY.out.mono ?_
    rintro e w' ⟨⟨n, rfl⟩, rfl⟩
    by_cases hn : 1048576 < n
    · go_wp2
      go_ret
      exact ⟨rfl, Below.refl _ _⟩
    · go_wp2_with fail
      refine HP.out.mono ?_
      rintro e w1 ⟨rfl, hr, hb1⟩
      go_wp2_with fail
      refine (HC.out _ _ hr).mono ?_
      rintro e w2 ⟨rfl, hb2⟩
      have hbb := hb1.trans (hb2.mono hb1.size)
      go_wp2_with fail
      refine (HM.out _ hbb).mono ?_
      rintro e w3 ⟨rfl, hb3⟩
      have hbc := hbb.trans (hb3.mono hbb.size)
      clear HZ HY HP HC HM hb1 hb2 hb3 hr
      go_wp2
      go_ret
      exact ⟨rfl, hbc⟩
end Go.Proofs.Qxb6602187a.la
