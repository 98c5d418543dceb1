import Derived.Test.Qxb6602188aSc
import Derived.Test.Qxb6602188aPlain
import Derived.Deep.QuietTactic
import Derived.BigQuiet
import Derived.Deep.LoopGhost
import Derived.WalkSpells
/-
  THE SCANNER's TWO SMALL STEPS: 'skip' (function 12) and 'number' (function 13, at most 2 digits), over the scanner in memory ('Sc').
-/
namespace Go.Proofs.Qxb6602188a.nu
open Go.ChangeShapes Go.WideShapes Go.ChangeAt Go.RowKit
open sc

theorem skip_yes (w0 w : World) (b : Nat) (s : ByteArray) (k : Nat) (f : Bool) (c : Int) (hsc : Sc w0 w b s k f) (hs : s.size ≤ 2097152)
    (hk : k < s.size) (hc : ((s[k].toNat : Int) == c) = true) :
    Calls Try.prog 12 #[.pointer (some ⟨b, 0, none⟩), .int .u8 c] w fun e w' => e = .returned (.bool true) ∧ Sc w0 w' b s ((k + 1 : Nat) : Int) f := by
  have c0 := hsc.c0
  have c1 := hsc.c1
  have z1 := hsc.z1
  have q0 : (k : Int) < (s.size : Int) := by omega
  go_enter Try.func12, Try.ntmps12
  go_wp2
  go_quiet (fail)
  go_wp2
  go_ret
  exact ⟨rfl, (hsc.drewN _).setI _⟩

theorem skip_no (w0 w : World) (b : Nat) (s : ByteArray) (k : Nat) (f : Bool) (c : Int) (hsc : Sc w0 w b s k f)
    (hc : ¬ k < s.size ∨ ∃ h : k < s.size, ((s[k].toNat : Int) == c) = false) :
    Calls Try.prog 12 #[.pointer (some ⟨b, 0, none⟩), .int .u8 c] w fun e w' => e = .returned (.bool false) ∧ Sc w0 w' b s k f := by
  have c0 := hsc.c0
  have c1 := hsc.c1
  have z1 := hsc.z1
  rcases hc with hk | ⟨hk, hc⟩
  · have q0 : decide ((k : Int) < (s.size : Int)) = false := by simp; omega
    go_enter Try.func12, Try.ntmps12
    go_wp2
    go_quiet (fail)
    go_wp2
    go_ret
    exact ⟨rfl, hsc.drewN _⟩
  · have q0 : (k : Int) < (s.size : Int) := by omega
    go_enter Try.func12, Try.ntmps12
    go_wp2
    go_quiet (fail)
    go_wp2
    go_ret
    exact ⟨rfl, hsc.drewN _⟩

/-- the number that m digits from i on make -/
def vT (s : ByteArray) (i : Nat) : Nat → Int
  | 0 => 0
  | m + 1 => vT s i m * 10 + pl.dv s (i + m)

theorem way_out {s : ByteArray} {i j : Nat} (hij : i ≤ j) (he : j = i + 2 ∨ ((h : j < s.size) → ¬ (48 ≤ (s[j].toNat : Int) ∧ (s[j].toNat : Int) ≤ 57))) :
    (¬ j < s.size ∧ decide ((j : Int) < (s.size : Int)) = false) ∨ (j < s.size ∧ (j : Int) < (s.size : Int) ∧ decide ((j : Int) - (i : Int) < 2) = false) ∨
    (∃ h : j < s.size, (j : Int) < (s.size : Int) ∧ (j : Int) - (i : Int) < 2 ∧ decide (48 ≤ (s[j].toNat : Int)) = false) ∨
    (∃ h : j < s.size, (j : Int) < (s.size : Int) ∧ (j : Int) - (i : Int) < 2 ∧ 48 ≤ (s[j].toNat : Int) ∧ decide ((s[j].toNat : Int) ≤ 57) = false) := by
  by_cases h : j < s.size
  · by_cases h2 : (j : Int) - (i : Int) < 2
    · have hn := (he.resolve_left (by omega)) h
      by_cases h1 : 48 ≤ (s[j].toNat : Int)
      · exact .inr (.inr (.inr ⟨h, by omega, h2, h1, by simp; omega⟩))
      · exact .inr (.inr (.inl ⟨h, by omega, h2, by simp; omega⟩))
    · exact .inr (.inl ⟨h, by omega, by simp; omega⟩)
  · exact .inl ⟨h, by simp; omega⟩

theorem ret_int {k : IntKind} {a b : Int} (h : a = b) : Ending.returned (.int k a) = .returned (.int k b) := by rw [h]

set_option maxHeartbeats 1000000 in
theorem number_any (w0 w : World) (b : Nat) (s : ByteArray) (i j : Nat) (f : Bool) (L : Int) (V : Int) (HV : Hid (vT s i (j - i) = V)) (hsc : Sc w0 w b s i f)
    (hs : s.size ≤ 2097152) (hij : i ≤ j) (hj2 : j ≤ i + 2) (hj : j ≤ s.size) (hL : L ≤ (j : Int) - i)
    (hd : ∀ m, (h : m < s.size) → i ≤ m → m < j → 48 ≤ (s[m].toNat : Int) ∧ (s[m].toNat : Int) ≤ 57)
    (he : j = i + 2 ∨ ((h : j < s.size) → ¬ (48 ≤ (s[j].toNat : Int) ∧ (s[j].toNat : Int) ≤ 57))) :
    Calls Try.prog 13 #[.pointer (some ⟨b, 0, none⟩), .int .i64 L, .int .i64 2] w fun e w' => e = .returned (.int .i64 V) ∧ Sc w0 w' b s j f := by
  have c1 := hsc.c1
  go_enter Try.func13, Try.ntmps13
  go_wp2
  go_loopg [8] (j - i) (fun gk n wr => ∃ (k : Nat) (N : Int), i ≤ k ∧ k ≤ j ∧ gk = j - k ∧ 0 ≤ N ∧ N ≤ 99 ∧ (k = i → N = 0) ∧ (k = i + 1 → N ≤ 9) ∧ n = .int .i64 N ∧ N = vT s i (k - i) ∧ Sc w0 wr b s k f)
  case atStart => exact ⟨i, 0, Nat.le_refl _, hij, rfl, by omega, by omega, by omega, by omega, rfl, by rw [Nat.sub_self]; rfl, hsc⟩
  case round =>
    clear c1 hsc
    obtain ⟨k, N, hik, hkj, rfl, hN0, hN1, hNa, hNb, rfl, hNv, hsc⟩ := hrel
    have HN : Hid (N = vT s i (k - i)) := hNv
    clear hNv
    have HNa : Hid (k = i → N = 0) := hNa
    have HNb : Hid (k = i + 1 → N ≤ 9) := hNb
    clear hNa hNb
    have c0 := hsc.c0
    have c1 := hsc.c1
    have c2 := hsc.c2
    have z1 := hsc.z1
    have z2 := hsc.z2
    by_cases hlt : k < j
    · have hk : k < s.size := by omega
      obtain ⟨d1, d2⟩ := hd k hk hik hlt
      clear hd he
      have q0 : (k : Int) < (s.size : Int) := by omega
      have q1 : (k : Int) - (i : Int) < 2 := by omega
      have HS : Hid (vT s i (k + 1 - i) = N * 10 + ((s[k].toNat : Int) - 48)) := by
        have e : k + 1 - i = (k - i) + 1 := by omega
        have e2 : i + (k - i) = k := by omega
        show vT s i (k + 1 - i) = _
        rw [e, vT, ← HN.out, e2, pl.dv_in s k hk]
      go_wp2
      go_quiet (fail)
      go_wp2
      go_quiet (fail)
      go_wp2
      go_roundg (j - (k + 1))
      case measure => omega
      case rel =>
        have hNa := HNa.out
        have hNb := HNb.out
        refine ⟨k + 1, N * 10 + ((s[k].toNat : Int) - 48), by omega, by omega, rfl, by omega, by omega, by omega, by omega, rfl, HS.out.symm, (hsc.drewN _).setI _⟩
    · obtain rfl : k = j := by omega
      have hw := way_out hij he
      clear he hd
      have HVN : Hid (N = V) := HN.out.trans HV.out
      rcases hw with ⟨hsz, q0⟩ | ⟨hsz, q0, q1⟩ | ⟨hsz, q0, q1, q2⟩ | ⟨hsz, q0, q1, q2, q3⟩
      all_goals
        go_wp2
        go_quiet (fail)
        go_wp2
        go_ret
        exact ⟨ret_int HVN.out, hsc.drewN _⟩
end Go.Proofs.Qxb6602188a.nu
