import Derived.Test.Qxb6602112aEight
/-
  The law's small callees: 'zzBytes_..' (12), 'ebClass' (16), 'samePart' (15), 'ZZeightbytes' (13).
-/
namespace Go.Proofs.Qxb6602112a.fd
open Go.ChangeShapes Go.WideShapes Go.ChangeAt Go.RowKit

theorem own_mono {w : World} {base base' : Nat} {e : TypeId} {size : Nat} {v : Value} {n : Nat} {xs : List Value} (h : w.ownsRow base e size v n xs) (hb : base' ≤ base) : w.ownsRow base' e size v n xs := by
  obtain ⟨h1, h2 | ⟨g, cap, cur, r1, r2, r3⟩⟩ := h
  · exact ⟨h1, .inl h2⟩
  · exact ⟨h1, .inr ⟨g, cap, cur, r1, Nat.le_trans hb r2, r3⟩⟩

theorem zz_any (w : World) (a : Option Addr) (len cap : Nat) (sz : Value) (hl : len ≤ 9223372036854775807) :
    Calls Try.prog 12 #[sz, .slice a len cap] w fun e w' => e = .returned (.bool (decide (len ≤ 1048576))) ∧ w' = w := by
  by_cases h1 : 1048576 < len
  · have h2 : decide (len ≤ 1048576) = false := by simp; omega
    rw [h2]
    go_enter Try.func12, Try.ntmps12
    go_wp2
    go_ret
    exact ⟨rfl, rfl⟩
  · have h2 : decide (len ≤ 1048576) = true := by simp; omega
    rw [h2]
    go_enter Try.func12, Try.ntmps12
    go_wp2
    go_ret
    exact ⟨rfl, rfl⟩

theorem class_any (w : World) (q : Bool) : Calls Try.prog 16 #[.bool q] w fun e w' => e = .returned (.int .i64 (if q then 1 else 2)) ∧ w' = w := by
  cases q
  · go_enter Try.func16, Try.ntmps16
    go_wp2
    go_ret
    exact ⟨rfl, rfl⟩
  · go_enter Try.func16, Try.ntmps16
    go_wp2
    go_ret
    exact ⟨rfl, rfl⟩

theorem same_any (w : World) (c o s : Int) :
    Calls Try.prog 15 #[.agg #[.int .i64 c, .int .i64 o, .int .i64 s, .string ByteArray.empty], .int .i64 c, .int .i64 o, .int .i64 s] w fun e w' =>
      e = .returned (.bool true) ∧ w' = w.alloc (.cells #[.int .i64 c, .int .i64 o, .int .i64 s, .string ByteArray.empty] 43) := by
  go_enter Try.func15, Try.ntmps15
  go_wp2
  go_ret
  exact ⟨rfl, rfl⟩

set_option maxHeartbeats 1000000 in
theorem zze_any (w : World) (v : Value) (L : List T) (hv : At w v L) (hn : L.length ≤ 32768) (sz c0 : Int) (h16 : sz ≤ 16) (hlo : -9223372036854775808 ≤ sz) (R : Nat) (hR : ∀ r : Nat, r < R → 8 * (r : Int) < sz) (hR2 : sz ≤ 8 * (R : Int)) (hR3 : R ≤ 2) :
    Calls Try.prog 13 #[.agg #[.int .i64 c0, .int .i64 sz, .bool false, .bool false, .bool false, .pointer none, v, .bool false, .bool false, .bool false, .slice none 0 0, .int .i64 0, .string ByteArray.empty, .pointer none]] w fun e w' =>
      ∃ pv, e = .returned pv ∧ w'.ownsRow w.heap.size 43 4 pv R (parts sz (L.filter keep) R) ∧ (R = 0 → pv = .slice none 0 0) ∧ Below w.heap.size w w' := by
  have HE : Hid (∀ W, At W v L → Calls Try.prog 21 #[.agg #[.int .i64 c0, .int .i64 sz, .bool false, .bool false, .bool false, .pointer none, v, .bool false, .bool false, .bool false, .slice none 0 0, .int .i64 0, .string ByteArray.empty, .pointer none]] W fun e w' =>
      ∃ pv, e = .returned pv ∧ w'.ownsRow (W.heap.size + 1) 43 4 pv R (parts sz (L.filter keep) R) ∧ (R = 0 → pv = .slice none 0 0) ∧ Below W.heap.size W w') := fun W hW => eight_any W v L hW hn sz c0 h16 hlo R hR hR2 hR3
  clear hR hR2 h16 hlo
  go_enter Try.func13, Try.ntmps13
  go_wp2_with fail
  refine (HE.out _ (hv.below ((Below.refl _ _).alloc (Nat.le_refl _) _))).mono ?_
  rintro e w1 ⟨pv, rfl, hown, h0, hb⟩
  have hbb : Below w.heap.size w w1 := ((Below.refl _ _).alloc (Nat.le_refl _) _).trans (hb.mono (by simp))
  have hown2 := own_mono hown (base' := w.heap.size) (by simp; omega)
  clear hown HE hb
  go_wp2
  go_ret
  exact ⟨pv, rfl, hown2, h0, hbb⟩

theorem zze_big (w : World) (v : Value) (sz c0 : Int) (h : 16 < sz) :
    Calls Try.prog 13 #[.agg #[.int .i64 c0, .int .i64 sz, .bool false, .bool false, .bool false, .pointer none, v, .bool false, .bool false, .bool false, .slice none 0 0, .int .i64 0, .string ByteArray.empty, .pointer none]] w fun e w' =>
      e = .returned (.slice none 0 0) ∧ Below w.heap.size w w' := by
  have HE : Hid (∀ W, Calls Try.prog 21 #[.agg #[.int .i64 c0, .int .i64 sz, .bool false, .bool false, .bool false, .pointer none, v, .bool false, .bool false, .bool false, .slice none 0 0, .int .i64 0, .string ByteArray.empty, .pointer none]] W fun e w' =>
      e = .returned (.slice none 0 0) ∧ Below W.heap.size W w') := fun W => eight_big W v sz c0 h
  clear h
  go_enter Try.func13, Try.ntmps13
  go_wp2_with fail
  refine (HE.out _).mono ?_
  rintro e w1 ⟨rfl, hb⟩
  have hbb : Below w.heap.size w w1 := ((Below.refl _ _).alloc (Nat.le_refl _) _).trans (hb.mono (by simp))
  clear HE hb
  go_wp2
  go_ret
  exact ⟨rfl, hbb⟩
end Go.Proofs.Qxb6602112a.fd
