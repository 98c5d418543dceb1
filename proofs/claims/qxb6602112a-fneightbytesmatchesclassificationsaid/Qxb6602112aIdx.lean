import Derived.Test.Qxb6602112aFd
import Derived.Deep.LoopGhost
/-
  The closure 'CFields$1' (function 27) and 'slices.IndexFunc' (function 29) at csig.Field.
-/
namespace Go.Proofs.Qxb6602112a.fd
open Go.ChangeShapes Go.WideShapes Go.ChangeAt Go.RowKit

theorem pad_any (k o : Int) (p : Bool) (w : World) :
    Calls Try.prog 27 #[.agg #[.int .i64 k, .int .i64 0, .bool false, .bool false, .bool false, .pointer none, .slice none 0 0, .bool false, .bool p, .bool false, .slice none 0 0, .int .i64 0, .string ByteArray.empty, .pointer none, .int .i64 o]] w fun e w' => e = .returned (.bool p) ∧ w' = w.alloc (.cells #[.int .i64 k, .int .i64 0, .bool false, .bool false, .bool false, .pointer none, .slice none 0 0, .bool false, .bool p, .bool false, .slice none 0 0, .int .i64 0, .string ByteArray.empty, .pointer none, .int .i64 o] 48) := by
  go_enter Try.func27, Try.ntmps27
  go_wp2
  go_ret
  exact ⟨rfl, rfl⟩

set_option maxHeartbeats 1000000 in
theorem idx_some (w : World) (g n cap q : Nat) (L : List T) (hr : Row w g n (flat L)) (hn : n ≤ 32768) (hq : q < n) (h0 : ∀ m, m < q → (L.getD m z).p = false) (h1 : (L.getD q z).p = true) :
    Calls Try.prog 29 #[.slice (some ⟨g, 0, none⟩) n cap, .func (.func 27) #[] #[]] w fun e w' => e = .returned (.int .i64 q) ∧ Below w.heap.size w w' := by
  go_enter Try.func29, Try.ntmps29
  go_wp2
  go_loopg [8] n (fun gk x wr => ∃ m : Nat, m ≤ q ∧ gk = n - m ∧ x = .int .i64 m ∧ Below w.heap.size w wr)
  case atStart => exact ⟨0, Nat.zero_le _, rfl, rfl, Below.refl _ _⟩
  case round =>
    obtain ⟨m, hm, rfl, rfl, hb⟩ := hrel
    have hmn : m < n := by omega
    have hr' := hr.below hb
    have hp : (L.getD m z).p = decide (m = q) := by
      by_cases e : m = q
      · subst e; simpa using h1
      · rw [h0 m (by omega)]; simp [e]
    generalize ht : L.getD m z = t at hp
    obtain ⟨k, o, p⟩ := t
    obtain ⟨t0, t1, t2, t3, t4, t5, t6, t7, t8, t9, t10, t11, t12, t13, t14⟩ := row_elem hr' hmn ⟨k, o, p⟩ ht
    simp only at t0 t8 t14 hp
    have q0 : (m : Int) < (n : Int) := by omega
    clear hr hr' h0 h1 ht
    by_cases e : m = q
    · subst e
      have hp' : p = true := by simpa using hp
      subst hp'
      clear hp
      go_wp2_with (go_at_call 27; refine (pad_any _ _ _ _).mono ?_; rintro e w' ⟨rfl, rfl⟩)
      go_ret
      exact ⟨rfl, hb.alloc hb.size _⟩
    · have hp' : p = false := by simpa [e] using hp
      subst hp'
      clear hp
      go_wp2_with (go_at_call 27; refine (pad_any _ _ _ _).mono ?_; rintro e w' ⟨rfl, rfl⟩)
      go_roundg (n - (m + 1))
      case measure => omega
      case rel => exact ⟨m + 1, by omega, rfl, by go_num, hb.alloc hb.size _⟩

set_option maxHeartbeats 1000000 in
theorem idx_none (w : World) (g n cap : Nat) (L : List T) (hr : Row w g n (flat L)) (hn : n ≤ 32768) (h0 : ∀ m, m < n → (L.getD m z).p = false) :
    Calls Try.prog 29 #[.slice (some ⟨g, 0, none⟩) n cap, .func (.func 27) #[] #[]] w fun e w' => e = .returned (.int .i64 (-1)) ∧ Below w.heap.size w w' := by
  go_enter Try.func29, Try.ntmps29
  go_wp2
  go_loopg [8] n (fun gk x wr => ∃ m : Nat, m ≤ n ∧ gk = n - m ∧ x = .int .i64 m ∧ Below w.heap.size w wr)
  case atStart => exact ⟨0, Nat.zero_le _, rfl, rfl, Below.refl _ _⟩
  case round =>
    obtain ⟨m, hm, rfl, rfl, hb⟩ := hrel
    by_cases hmn : m < n
    · have hr' := hr.below hb
      have hp := h0 m hmn
      generalize ht : L.getD m z = t at hp
      obtain ⟨k, o, p⟩ := t
      obtain ⟨t0, t1, t2, t3, t4, t5, t6, t7, t8, t9, t10, t11, t12, t13, t14⟩ := row_elem hr' hmn ⟨k, o, p⟩ ht
      simp only at t0 t8 t14 hp
      have q0 : (m : Int) < (n : Int) := by omega
      clear hr hr' h0 ht
      subst hp
      go_wp2_with (go_at_call 27; refine (pad_any _ _ _ _).mono ?_; rintro e w' ⟨rfl, rfl⟩)
      go_roundg (n - (m + 1))
      case measure => omega
      case rel => exact ⟨m + 1, by omega, rfl, by go_num, hb.alloc hb.size _⟩
    · obtain rfl : m = n := by omega
      have q0 : ¬ (m : Int) < (m : Int) := by omega
      go_wp2
      go_ret
      exact ⟨rfl, hb⟩

/-- of a slice without elements, nil or not -/
theorem idx_empty (w : World) (a : Option Addr) (cap : Nat) :
    Calls Try.prog 29 #[.slice a 0 cap, .func (.func 27) #[] #[]] w fun e w' => e = .returned (.int .i64 (-1)) ∧ w' = w := by
  go_enter Try.func29, Try.ntmps29
  go_wp2
  refine wp_loop_rounds 1 ?_
  rw [rounds_succ]
  go_wp2
  go_ret
  exact ⟨rfl, rfl⟩
end Go.Proofs.Qxb6602112a.fd
