/-
  'Rows.FnOffsetRoundTripSaid': the shell's frame (the given tool's; the world behind the call is told by 'keptBut', 'post' limb by limb), the walk filled in over the eight main walks (Qxb6602188aOffMain).
-/
import Derived.Test.Qxb6602188aRows
import Derived.WalkKit
import Derived.ProofKit
import Derived.OpenShut
import Derived.ShutString
import Derived.Test.Qxb6602188aOffMain
namespace Go.Proofs.Qxb6602188a.fnOffsetRoundTrip
open Go.ChangeShapes Go.WideShapes Go.ChangeAt Go.RowKit
open Go.ChangeMaps (open_string shut_string)
set_option linter.unusedVariables false      -- a walk need not use every 'w<i>' (that an integer argument fits its kind)

theorem own : ownKnob Try.prog.godebug = none := by kernel_rfl

/-! ### THE WALK -/
theorem kept_refl (w : World) : w.keptBut w (fun _ => False) := World.keptBut_refl _ _

theorem zb_false (p s : ByteArray) (a b c d : Value) (e f : Value) (w : World) (hz : ¬ p.size + s.size ≤ 1048576) :
    Calls Try.prog 8 #[.string p, .string s, a, b, c, d, e, f] w fun e w' => e = .returned (.bool false) ∧ w' = w := by
  by_cases h1 : 1048576 < p.size
  · have q1 : (1048576 : Int) < (p.size : Int) := by omega
    go_enter Try.func8, Try.ntmps8
    go_wp2
    go_ret
    exact ⟨rfl, rfl⟩
  by_cases h2 : 1048576 < s.size
  · have q1 : (p.size : Int) ≤ 1048576 := by omega
    have q2 : (1048576 : Int) < (s.size : Int) := by omega
    go_enter Try.func8, Try.ntmps8
    go_wp2
    go_ret
    exact ⟨rfl, rfl⟩
  have q1 : (p.size : Int) ≤ 1048576 := by omega
  have q2 : (s.size : Int) ≤ 1048576 := by omega
  have q3 : (1048576 : Int) < (p.size : Int) + (s.size : Int) := by omega
  go_enter Try.func8, Try.ntmps8
  go_wp2
  go_ret
  exact ⟨rfl, rfl⟩

theorem dig_yes (c : Int) (w : World) (h : 48 ≤ c ∧ c ≤ 57) : Calls Try.prog 6 #[.int .u8 c] w fun e w' => e = .returned (.bool true) ∧ w' = w := by
  have q1 : decide (48 ≤ c) = true := by simp; omega
  have q2 : decide (c ≤ 57) = true := by simp; omega
  clear h
  go_enter Try.func6, Try.ntmps6
  go_wp2
  go_ret
  exact ⟨rfl, rfl⟩

set_option maxRecDepth 100000 in
theorem early0 (p s : ByteArray) (neg : Bool) (H M : Int) (wm one f : Bool) (w : World) (hz : ¬ p.size + s.size ≤ 1048576) :
    Calls Try.prog 4 #[.string p, .string s, .bool neg, .int .i64 H, .int .i64 M, .bool wm, .bool one, .bool f] w fun e w' => e = .returned (.bool true) ∧ w.keptBut w' (fun _ => False) := by
  have Hz : Hid (¬ p.size + s.size ≤ 1048576) := hz
  clear hz
  go_enter Try.func4, Try.ntmps4
  go_wp2_with (go_at_call 8; refine (zb_false _ _ _ _ _ _ _ _ _ Hz.out).mono ?_; rintro e w' ⟨rfl, rfl⟩)
  go_ret
  exact ⟨rfl, kept_refl _⟩

set_option maxRecDepth 100000 in
set_option maxHeartbeats 400000 in
theorem early1 (p s : ByteArray) (neg : Bool) (H M : Int) (wm one f : Bool) (w : World) (hz : p.size + s.size ≤ 1048576) (h : H < 0) :
    Calls Try.prog 4 #[.string p, .string s, .bool neg, .int .i64 H, .int .i64 M, .bool wm, .bool one, .bool f] w fun e w' => e = .returned (.bool true) ∧ w.keptBut w' (fun _ => False) := by
  have q1 : (p.size : Int) ≤ 1048576 := by omega
  have q2 : (s.size : Int) ≤ 1048576 := by omega
  have q3 : (p.size : Int) + (s.size : Int) ≤ 1048576 := by omega
  go_enter Try.func4, Try.ntmps4
  go_wp2_with (first
    | (go_at_call 8; refine (om.zb_true _ _ _ _ _ _ _ _ _ hz).mono ?_; rintro e w' ⟨rfl, rfl⟩))
  go_ret
  exact ⟨rfl, kept_refl _⟩

set_option maxRecDepth 100000 in
set_option maxHeartbeats 400000 in
theorem early2 (p s : ByteArray) (neg : Bool) (H M : Int) (wm one f : Bool) (w : World) (hz : p.size + s.size ≤ 1048576) (g0 : 0 ≤ H) (h : 15 < H) :
    Calls Try.prog 4 #[.string p, .string s, .bool neg, .int .i64 H, .int .i64 M, .bool wm, .bool one, .bool f] w fun e w' => e = .returned (.bool true) ∧ w.keptBut w' (fun _ => False) := by
  have q1 : (p.size : Int) ≤ 1048576 := by omega
  have q2 : (s.size : Int) ≤ 1048576 := by omega
  have q3 : (p.size : Int) + (s.size : Int) ≤ 1048576 := by omega
  go_enter Try.func4, Try.ntmps4
  go_wp2_with (first
    | (go_at_call 8; refine (om.zb_true _ _ _ _ _ _ _ _ _ hz).mono ?_; rintro e w' ⟨rfl, rfl⟩))
  go_ret
  exact ⟨rfl, kept_refl _⟩

set_option maxRecDepth 100000 in
set_option maxHeartbeats 400000 in
theorem early3 (p s : ByteArray) (neg : Bool) (H M : Int) (wm one f : Bool) (w : World) (hz : p.size + s.size ≤ 1048576) (g0 : 0 ≤ H) (g1 : H ≤ 15) (h : M < 0) :
    Calls Try.prog 4 #[.string p, .string s, .bool neg, .int .i64 H, .int .i64 M, .bool wm, .bool one, .bool f] w fun e w' => e = .returned (.bool true) ∧ w.keptBut w' (fun _ => False) := by
  have q1 : (p.size : Int) ≤ 1048576 := by omega
  have q2 : (s.size : Int) ≤ 1048576 := by omega
  have q3 : (p.size : Int) + (s.size : Int) ≤ 1048576 := by omega
  go_enter Try.func4, Try.ntmps4
  go_wp2_with (first
    | (go_at_call 8; refine (om.zb_true _ _ _ _ _ _ _ _ _ hz).mono ?_; rintro e w' ⟨rfl, rfl⟩))
  go_ret
  exact ⟨rfl, kept_refl _⟩

set_option maxRecDepth 100000 in
set_option maxHeartbeats 400000 in
theorem early4 (p s : ByteArray) (neg : Bool) (H M : Int) (wm one f : Bool) (w : World) (hz : p.size + s.size ≤ 1048576) (g0 : 0 ≤ H) (g1 : H ≤ 15) (g2 : 0 ≤ M) (h : 59 < M) :
    Calls Try.prog 4 #[.string p, .string s, .bool neg, .int .i64 H, .int .i64 M, .bool wm, .bool one, .bool f] w fun e w' => e = .returned (.bool true) ∧ w.keptBut w' (fun _ => False) := by
  have q1 : (p.size : Int) ≤ 1048576 := by omega
  have q2 : (s.size : Int) ≤ 1048576 := by omega
  have q3 : (p.size : Int) + (s.size : Int) ≤ 1048576 := by omega
  go_enter Try.func4, Try.ntmps4
  go_wp2_with (first
    | (go_at_call 8; refine (om.zb_true _ _ _ _ _ _ _ _ _ hz).mono ?_; rintro e w' ⟨rfl, rfl⟩))
  go_ret
  exact ⟨rfl, kept_refl _⟩

set_option maxRecDepth 100000 in
set_option maxHeartbeats 400000 in
theorem early5 (p s : ByteArray) (neg : Bool) (H M : Int) (wm one f : Bool) (w : World) (hz : p.size + s.size ≤ 1048576) (g0 : 0 ≤ H) (g1 : H ≤ 15) (g2 : 0 ≤ M) (g3 : M ≤ 59) (hw : wm = false) (h : (M != 0) = true) :
    Calls Try.prog 4 #[.string p, .string s, .bool neg, .int .i64 H, .int .i64 M, .bool wm, .bool one, .bool f] w fun e w' => e = .returned (.bool true) ∧ w.keptBut w' (fun _ => False) := by
  have q1 : (p.size : Int) ≤ 1048576 := by omega
  have q2 : (s.size : Int) ≤ 1048576 := by omega
  have q3 : (p.size : Int) + (s.size : Int) ≤ 1048576 := by omega
  subst hw
  go_enter Try.func4, Try.ntmps4
  go_wp2_with (first
    | (go_at_call 8; refine (om.zb_true _ _ _ _ _ _ _ _ _ hz).mono ?_; rintro e w' ⟨rfl, rfl⟩))
  go_ret
  exact ⟨rfl, kept_refl _⟩

set_option maxRecDepth 100000 in
set_option maxHeartbeats 400000 in
theorem early6t (p s : ByteArray) (neg : Bool) (H M : Int) (wm one f : Bool) (w : World) (hz : p.size + s.size ≤ 1048576) (g0 : 0 ≤ H) (g1 : H ≤ 15) (g2 : 0 ≤ M) (g3 : M ≤ 59) (hw : wm = true) (ho : one = true) (h : 9 < H) :
    Calls Try.prog 4 #[.string p, .string s, .bool neg, .int .i64 H, .int .i64 M, .bool wm, .bool one, .bool f] w fun e w' => e = .returned (.bool true) ∧ w.keptBut w' (fun _ => False) := by
  have q1 : (p.size : Int) ≤ 1048576 := by omega
  have q2 : (s.size : Int) ≤ 1048576 := by omega
  have q3 : (p.size : Int) + (s.size : Int) ≤ 1048576 := by omega
  subst hw ho
  go_enter Try.func4, Try.ntmps4
  go_wp2_with (first
    | (go_at_call 8; refine (om.zb_true _ _ _ _ _ _ _ _ _ hz).mono ?_; rintro e w' ⟨rfl, rfl⟩))
  go_ret
  exact ⟨rfl, kept_refl _⟩

set_option maxRecDepth 100000 in
set_option maxHeartbeats 400000 in
theorem early6f (p s : ByteArray) (neg : Bool) (H M : Int) (wm one f : Bool) (w : World) (hz : p.size + s.size ≤ 1048576) (g0 : 0 ≤ H) (g1 : H ≤ 15) (g2 : 0 ≤ M) (g3 : M ≤ 59) (hw : wm = false) (hM : (M != 0) = false) (ho : one = true) (h : 9 < H) :
    Calls Try.prog 4 #[.string p, .string s, .bool neg, .int .i64 H, .int .i64 M, .bool wm, .bool one, .bool f] w fun e w' => e = .returned (.bool true) ∧ w.keptBut w' (fun _ => False) := by
  have q1 : (p.size : Int) ≤ 1048576 := by omega
  have q2 : (s.size : Int) ≤ 1048576 := by omega
  have q3 : (p.size : Int) + (s.size : Int) ≤ 1048576 := by omega
  subst hw ho
  go_enter Try.func4, Try.ntmps4
  go_wp2_with (first
    | (go_at_call 8; refine (om.zb_true _ _ _ _ _ _ _ _ _ hz).mono ?_; rintro e w' ⟨rfl, rfl⟩))
  go_ret
  exact ⟨rfl, kept_refl _⟩

set_option maxRecDepth 100000 in
set_option maxHeartbeats 400000 in
theorem early7ax (p s : ByteArray) (neg : Bool) (H M : Int) (wm one f : Bool) (w : World) (hz : p.size + s.size ≤ 1048576) (g0 : 0 ≤ H) (g1 : H ≤ 15) (g2 : 0 ≤ M) (g3 : M ≤ 59) (hw : wm = false) (hM : (M != 0) = false) (ho : one = false) (h0 : 0 < s.size) (h : ((s[0].toNat : Int) == 58) = true) :
    Calls Try.prog 4 #[.string p, .string s, .bool neg, .int .i64 H, .int .i64 M, .bool wm, .bool one, .bool f] w fun e w' => e = .returned (.bool true) ∧ w.keptBut w' (fun _ => False) := by
  have q1 : (p.size : Int) ≤ 1048576 := by omega
  have q2 : (s.size : Int) ≤ 1048576 := by omega
  have q3 : (p.size : Int) + (s.size : Int) ≤ 1048576 := by omega
  subst hw ho
  have q4 : (0 : Int) < (s.size : Int) := by omega
  go_enter Try.func4, Try.ntmps4
  go_wp2_with (first
    | (go_at_call 8; refine (om.zb_true _ _ _ _ _ _ _ _ _ hz).mono ?_; rintro e w' ⟨rfl, rfl⟩))
  go_ret
  exact ⟨rfl, kept_refl _⟩

set_option maxRecDepth 100000 in
set_option maxHeartbeats 400000 in
theorem early7bx (p s : ByteArray) (neg : Bool) (H M : Int) (wm one f : Bool) (w : World) (hz : p.size + s.size ≤ 1048576) (g0 : 0 ≤ H) (g1 : H ≤ 15) (g2 : 0 ≤ M) (g3 : M ≤ 59) (hw : wm = false) (hM : (M != 0) = false) (ho : one = false) (h0 : 0 < s.size) (hc : ((s[0].toNat : Int) == 58) = false) (h : 48 ≤ (s[0].toNat : Int) ∧ (s[0].toNat : Int) ≤ 57) :
    Calls Try.prog 4 #[.string p, .string s, .bool neg, .int .i64 H, .int .i64 M, .bool wm, .bool one, .bool f] w fun e w' => e = .returned (.bool true) ∧ w.keptBut w' (fun _ => False) := by
  have q1 : (p.size : Int) ≤ 1048576 := by omega
  have q2 : (s.size : Int) ≤ 1048576 := by omega
  have q3 : (p.size : Int) + (s.size : Int) ≤ 1048576 := by omega
  subst hw ho
  have q4 : (0 : Int) < (s.size : Int) := by omega
  go_enter Try.func4, Try.ntmps4
  go_wp2_with (first
    | (go_at_call 8; refine (om.zb_true _ _ _ _ _ _ _ _ _ hz).mono ?_; rintro e w' ⟨rfl, rfl⟩)
    | (go_at_call 6; refine (dig_yes _ _ h).mono ?_; rintro e w' ⟨rfl, rfl⟩))
  go_ret
  exact ⟨rfl, kept_refl _⟩

set_option maxRecDepth 100000 in
set_option maxHeartbeats 400000 in
theorem early7ay (p s : ByteArray) (neg : Bool) (H M : Int) (wm one f : Bool) (w : World) (hz : p.size + s.size ≤ 1048576) (g0 : 0 ≤ H) (g1 : H ≤ 15) (g2 : 0 ≤ M) (g3 : M ≤ 59) (hw : wm = false) (hM : (M != 0) = false) (ho : one = true) (h9 : H ≤ 9) (h0 : 0 < s.size) (h : ((s[0].toNat : Int) == 58) = true) :
    Calls Try.prog 4 #[.string p, .string s, .bool neg, .int .i64 H, .int .i64 M, .bool wm, .bool one, .bool f] w fun e w' => e = .returned (.bool true) ∧ w.keptBut w' (fun _ => False) := by
  have q1 : (p.size : Int) ≤ 1048576 := by omega
  have q2 : (s.size : Int) ≤ 1048576 := by omega
  have q3 : (p.size : Int) + (s.size : Int) ≤ 1048576 := by omega
  subst hw ho
  have q4 : (0 : Int) < (s.size : Int) := by omega
  go_enter Try.func4, Try.ntmps4
  go_wp2_with (first
    | (go_at_call 8; refine (om.zb_true _ _ _ _ _ _ _ _ _ hz).mono ?_; rintro e w' ⟨rfl, rfl⟩))
  go_ret
  exact ⟨rfl, kept_refl _⟩

set_option maxRecDepth 100000 in
set_option maxHeartbeats 400000 in
theorem early7by (p s : ByteArray) (neg : Bool) (H M : Int) (wm one f : Bool) (w : World) (hz : p.size + s.size ≤ 1048576) (g0 : 0 ≤ H) (g1 : H ≤ 15) (g2 : 0 ≤ M) (g3 : M ≤ 59) (hw : wm = false) (hM : (M != 0) = false) (ho : one = true) (h9 : H ≤ 9) (h0 : 0 < s.size) (hc : ((s[0].toNat : Int) == 58) = false) (h : 48 ≤ (s[0].toNat : Int) ∧ (s[0].toNat : Int) ≤ 57) :
    Calls Try.prog 4 #[.string p, .string s, .bool neg, .int .i64 H, .int .i64 M, .bool wm, .bool one, .bool f] w fun e w' => e = .returned (.bool true) ∧ w.keptBut w' (fun _ => False) := by
  have q1 : (p.size : Int) ≤ 1048576 := by omega
  have q2 : (s.size : Int) ≤ 1048576 := by omega
  have q3 : (p.size : Int) + (s.size : Int) ≤ 1048576 := by omega
  subst hw ho
  have q4 : (0 : Int) < (s.size : Int) := by omega
  go_enter Try.func4, Try.ntmps4
  go_wp2_with (first
    | (go_at_call 8; refine (om.zb_true _ _ _ _ _ _ _ _ _ hz).mono ?_; rintro e w' ⟨rfl, rfl⟩)
    | (go_at_call 6; refine (dig_yes _ _ h).mono ?_; rintro e w' ⟨rfl, rfl⟩))
  go_ret
  exact ⟨rfl, kept_refl _⟩

theorem size_of (p s T : ByteArray) (mid : List Int) (hT : T = bf.txt (bf.ints p ++ (mid ++ bf.ints s))) : T.size = p.size + mid.length + s.size := by
  rw [hT, bf.txt_size]
  simp only [List.length_append, bf.ints_length]
  omega

theorem head_ints (s : ByteArray) : ∀ y, (bf.ints s).head? = some y → ∃ h : 0 < s.size, y = (s[0].toNat : Int) := by
  intro y hy
  have hl := bf.ints_length s
  have h : 0 < s.size := by
    cases e : bf.ints s with
    | nil => rw [e] at hy; simp at hy
    | cons a l => rw [e] at hl; simp at hl; omega
  refine ⟨h, ?_⟩
  have : (bf.ints s)[0]? = some (s[0].toNat : Int) := by
    unfold bf.ints
    rw [List.getElem?_map]
    have e : s.data.toList[0]? = some s[0] := by
      rw [List.getElem?_eq_getElem (by rw [Array.length_toList]; exact h)]
      rfl
    rw [e]; rfl
  rw [List.head?_eq_getElem?, this] at hy
  exact (Option.some.inj hy).symm

open bf nu in
theorem main_all (p s : ByteArray) (neg : Bool) (H M : Int) (wm one f : Bool) (w : World) (hz : p.size + s.size ≤ 1048576) (h0 : 0 ≤ H) (h1 : H ≤ 15) (h9 : one = true → H ≤ 9) (m0 : 0 ≤ M) (m1 : M ≤ 59)
    (hw : wm = false → M = 0) (hs : wm = false → (¬ 0 < s.size ∨ ∃ h : 0 < s.size, ((s[0].toNat : Int) == 58) = false ∧ ¬ (48 ≤ (s[0].toNat : Int) ∧ (s[0].toNat : Int) ≤ 57))) :
    Calls Try.prog 4 #[.string p, .string s, .bool neg, .int .i64 H, .int .i64 M, .bool wm, .bool one, .bool f] w fun e w' => e = .returned (.bool true) ∧ w.keptBut w' (fun _ => False) := by
  have hlp := ints_length p
  have hls := ints_length s
  have bp := om.ints_bd p
  have bs := om.ints_bd s
  have hH : (tx.hourCells one H).length = 1 ∨ (tx.hourCells one H).length = 2 := by cases one <;> simp [tx.hourCells]
  have bH : ∀ x ∈ (tx.signCell neg :: tx.hourCells one H), 0 ≤ x ∧ x ≤ 255 := by
    intro x hx
    rcases List.mem_cons.1 hx with rfl | hx
    · cases neg <;> simp [tx.signCell]
    · cases one <;> simp [tx.hourCells] at hx <;> omega
  have bpre : ∀ x ∈ (ints p ++ (tx.signCell neg :: tx.hourCells one H)), 0 ≤ x ∧ x ≤ 255 := om.bd_app bp bH
  cases wm
  · -- no minutes
    have hM := hw rfl
    subst hM
    have hs := hs rfl
    have hhd : ∀ y, (ints s).head? = some y → ((y == 58) = false ∧ ¬ (48 ≤ y ∧ y ≤ 57)) := by
      intro y hy
      obtain ⟨g, rfl⟩ := head_ints s y hy
      rcases hs with hs | ⟨_, a, b⟩
      · exact absurd g hs
      · exact ⟨a, b⟩
    obtain ⟨T, hT⟩ : ∃ T, T = txt (ints p ++ (tx.signCell neg :: tx.hourCells one H ++ ints s)) := ⟨_, rfl⟩
    have hsz := size_of p s T (tx.signCell neg :: tx.hourCells one H) hT
    have hh := tx.head_of (ints p) (ints s) neg one H bp bs h0 h1 h9 (by omega) (fun _ y hy => (hhd y hy).2)
    have hn := tx.nomin_of (ints p ++ (tx.signCell neg :: tx.hourCells one H)) (ints s) bpre bs (fun y hy => (hhd y hy).1)
    rw [List.append_assoc] at hn
    rw [← hT] at hh hn
    have hlen : (ints p ++ (tx.signCell neg :: tx.hourCells one H)).length = (ints p).length + 1 + (tx.hourCells one H).length := by simp only [List.length_append, List.length_cons]; omega
    rw [hlen] at hn
    have HZ := fun W => zz_off W T (ints p).length _ _ f neg H 0 hh (.inl ⟨hn, rfl, rfl⟩)
    rw [hlp] at HZ
    have hjs : ((tx.signCell neg :: tx.hourCells one H).length) = 1 + (tx.hourCells one H).length := by simp [Nat.add_comm]
    cases neg <;> cases one
    · exact om.main_000 p s T H f _ w hz h0 h1 hs (by show T = _; rw [hT]; simp [tx.signCell, tx.hourCells]) (by omega) (by omega) HZ
    · exact om.main_010 p s T H f _ w hz h0 (h9 rfl) hs (by show T = _; rw [hT]; simp [tx.signCell, tx.hourCells]) (by omega) (by omega) HZ
    · exact om.main_100 p s T H f _ w hz h0 h1 hs (by show T = _; rw [hT]; simp [tx.signCell, tx.hourCells]) (by omega) (by omega) HZ
    · exact om.main_110 p s T H f _ w hz h0 (h9 rfl) hs (by show T = _; rw [hT]; simp [tx.signCell, tx.hourCells]) (by omega) (by omega) HZ
  · -- minutes
    have bM : ∀ x ∈ ([58, 48 + M / 10, 48 + M % 10] ++ ints s), 0 ≤ x ∧ x ≤ 255 := om.bd_app (fun x hx => by simp at hx; omega) bs
    obtain ⟨T, hT⟩ : ∃ T, T = txt (ints p ++ (tx.signCell neg :: tx.hourCells one H ++ ([58, 48 + M / 10, 48 + M % 10] ++ ints s))) := ⟨_, rfl⟩
    have hsz := size_of p s T (tx.signCell neg :: tx.hourCells one H ++ [58, 48 + M / 10, 48 + M % 10]) (by rw [hT]; simp)
    have hh := tx.head_of (ints p) ([58, 48 + M / 10, 48 + M % 10] ++ ints s) neg one H bp bM h0 h1 h9 (by simp; omega) (fun _ y hy => by simp at hy; omega)
    have hn := tx.min_of (ints p ++ (tx.signCell neg :: tx.hourCells one H)) (ints s) M bpre bs m0 m1
    rw [List.append_assoc] at hn
    rw [← hT] at hh hn
    have hlen : (ints p ++ (tx.signCell neg :: tx.hourCells one H)).length = (ints p).length + 1 + (tx.hourCells one H).length := by simp only [List.length_append, List.length_cons]; omega
    rw [hlen] at hn
    have HZ := fun W => zz_off W T (ints p).length _ _ f neg H M hh (.inr ⟨hn, rfl⟩)
    rw [hlp] at HZ
    have hjs : ((tx.signCell neg :: tx.hourCells one H ++ [58, 48 + M / 10, 48 + M % 10]).length) = 1 + (tx.hourCells one H).length + 3 := by simp [Nat.add_comm, Nat.add_left_comm]
    cases neg <;> cases one
    · exact om.main_001 p s T H M f _ w hz h0 h1 m0 m1 (by show T = _; rw [hT]; simp [tx.signCell, tx.hourCells]) (by omega) (by omega) HZ
    · exact om.main_011 p s T H M f _ w hz h0 (h9 rfl) m0 m1 (by show T = _; rw [hT]; simp [tx.signCell, tx.hourCells]) (by omega) (by omega) HZ
    · exact om.main_101 p s T H M f _ w hz h0 h1 m0 m1 (by show T = _; rw [hT]; simp [tx.signCell, tx.hourCells]) (by omega) (by omega) HZ
    · exact om.main_111 p s T H M f _ w hz h0 (h9 rfl) m0 m1 (by show T = _; rw [hT]; simp [tx.signCell, tx.hourCells]) (by omega) (by omega) HZ

theorem walk (a0 : ByteArray) (a1 : ByteArray) (a2 : Bool) (a3 : Int) (a4 : Int) (a5 : Bool) (a6 : Bool) (a7 : Bool) (w : World) :
    Calls Try.prog 4 #[.string a0, .string a1, .bool a2, .int .i64 a3, .int .i64 a4, .bool a5, .bool a6, .bool a7] w fun e w' => e = .returned (.bool true) ∧ w.keptBut w' (fun _ => False) := by
  by_cases hz : a0.size + a1.size ≤ 1048576
  · by_cases c1 : a3 < 0
    · exact early1 a0 a1 a2 a3 a4 a5 a6 a7 w hz c1
    by_cases c2 : 15 < a3
    · exact early2 a0 a1 a2 a3 a4 a5 a6 a7 w hz (by omega) c2
    by_cases c3 : a4 < 0
    · exact early3 a0 a1 a2 a3 a4 a5 a6 a7 w hz (by omega) (by omega) c3
    by_cases c4 : 59 < a4
    · exact early4 a0 a1 a2 a3 a4 a5 a6 a7 w hz (by omega) (by omega) (by omega) c4
    by_cases c5 : a5 = false ∧ a4 ≠ 0
    · exact early5 a0 a1 a2 a3 a4 a5 a6 a7 w hz (by omega) (by omega) (by omega) (by omega) c5.1 (by simpa using c5.2)
    have hM : a5 = false → a4 = 0 := fun h => Decidable.byContradiction fun g => c5 ⟨h, g⟩
    by_cases c6 : a6 = true ∧ 9 < a3
    · cases h5 : a5
      · have := early6f a0 a1 a2 a3 a4 a5 a6 a7 w hz (by omega) (by omega) (by omega) (by omega) h5 (by rw [hM h5]; rfl) c6.1 c6.2
        rwa [h5] at this
      · have := early6t a0 a1 a2 a3 a4 a5 a6 a7 w hz (by omega) (by omega) (by omega) (by omega) h5 c6.1 c6.2
        rwa [h5] at this
    have h9 : a6 = true → a3 ≤ 9 := fun h => Decidable.byContradiction fun g => c6 ⟨h, by omega⟩
    by_cases c7 : a5 = false ∧ ∃ h : 0 < a1.size, ((a1[0].toNat : Int) == 58) = true
    · obtain ⟨h5, g, hc⟩ := c7
      cases h6 : a6
      · have := early7ax a0 a1 a2 a3 a4 a5 a6 a7 w hz (by omega) (by omega) (by omega) (by omega) h5 (by rw [hM h5]; rfl) h6 g hc
        rwa [h6] at this
      · have := early7ay a0 a1 a2 a3 a4 a5 a6 a7 w hz (by omega) (by omega) (by omega) (by omega) h5 (by rw [hM h5]; rfl) h6 (h9 h6) g hc
        rwa [h6] at this
    by_cases c8 : a5 = false ∧ ∃ h : 0 < a1.size, 48 ≤ (a1[0].toNat : Int) ∧ (a1[0].toNat : Int) ≤ 57
    · obtain ⟨h5, g, hd⟩ := c8
      have hc : ((a1[0].toNat : Int) == 58) = false := by
        rw [beq_eq_false_iff_ne]; omega
      cases h6 : a6
      · have := early7bx a0 a1 a2 a3 a4 a5 a6 a7 w hz (by omega) (by omega) (by omega) (by omega) h5 (by rw [hM h5]; rfl) h6 g hc hd
        rwa [h6] at this
      · have := early7by a0 a1 a2 a3 a4 a5 a6 a7 w hz (by omega) (by omega) (by omega) (by omega) h5 (by rw [hM h5]; rfl) h6 (h9 h6) g hc hd
        rwa [h6] at this
    refine main_all a0 a1 a2 a3 a4 a5 a6 a7 w hz (by omega) (by omega) h9 (by omega) (by omega) hM ?_
    intro h5
    by_cases g : 0 < a1.size
    · right
      refine ⟨g, ?_, fun hd => c8 ⟨h5, g, hd⟩⟩
      rw [Bool.eq_false_iff]
      exact fun hc => c7 ⟨h5, g, hc⟩
    · exact .inl g
  · exact early0 a0 a1 a2 a3 a4 a5 a6 a7 w hz

/-! ### THE ROW's STEP: WRITTEN OUT: LEAVE IT -/
set_option maxRecDepth 100000 in
theorem lifted (os : Os) (started : os.Started) (H : Type) (enc : TypeId × Value → H) :
    ReturnsInHanded {} Try.checked os 4 .any (Rows.fnOffsetRoundTripSpec.pre6 enc Try.prog Try.f4 Rows.fnOffsetRoundTripRow.domain false) (Rows.fnOffsetRoundTripSpec.post enc Try.prog Try.f4 false true false false) := by
  refine returnsInHanded_of_change (C := Try.checked) own started (by kernel_rfl) Try.func4
    (ChangeSpec.witness6 (enc := enc) (C := Try.checked) false ⟨#[], #[.string ByteArray.empty, .string ByteArray.empty, .bool false, .int .i64 0, .int .i64 0, .bool false, .bool false, .bool false], []⟩ 8 (by kernel_rfl) (by kernel_rfl) (by kernel_rfl) (by kernel_rfl)) ?_
  intro W base args ds gs before hval0 hW hcnd _
  have hval : ∀ (j : Nat) t v, Try.f4.params[j]? = some t → args[j]? = some v → Value.okWide Try.prog W .any base t v := hval0
  have hW' := hW
  obtain ⟨p, q, hA0, hV, rfl, hfz, hnd⟩ := hW
  have hA : DataW.TrodAll enc Try.prog W 0 (fun _ => true) true Try.f4.params.toList args.toList ds p := hA0
  rw [Try.params4] at hA hval
  obtain ⟨v0, vs0, d0, ds0, p0, q0, hargs, rfl, rfl, h0, r0⟩ := trodAll_cons hA
  obtain ⟨v1, vs1, d1, ds1, p1, q1, rfl, rfl, rfl, h1, r1⟩ := trodAll_cons r0
  obtain ⟨v2, vs2, d2, ds2, p2, q2, rfl, rfl, rfl, h2, r2⟩ := trodAll_cons r1
  obtain ⟨v3, vs3, d3, ds3, p3, q3, rfl, rfl, rfl, h3, r3⟩ := trodAll_cons r2
  obtain ⟨v4, vs4, d4, ds4, p4, q4, rfl, rfl, rfl, h4, r4⟩ := trodAll_cons r3
  obtain ⟨v5, vs5, d5, ds5, p5, q5, rfl, rfl, rfl, h5, r5⟩ := trodAll_cons r4
  obtain ⟨v6, vs6, d6, ds6, p6, q6, rfl, rfl, rfl, h6, r6⟩ := trodAll_cons r5
  obtain ⟨v7, vs7, d7, ds7, p7, q7, rfl, rfl, rfl, h7, r7⟩ := trodAll_cons r6
  obtain ⟨rfl, rfl, rfl⟩ := trodAll_nil r7
  obtain rfl : args = #[v0, v1, v2, v3, v4, v5, v6, v7] := by cases args; simp_all
  obtain ⟨rfl, rfl⟩ := trodVars_none hV
  obtain ⟨a0, rfl, rfl, rfl, w0⟩ := open_string Try.underlying9 (hval 0 9 v0 rfl rfl) h0
  obtain ⟨a1, rfl, rfl, rfl, w1⟩ := open_string Try.underlying9 (hval 1 9 v1 rfl rfl) h1
  obtain ⟨a2, rfl, rfl, rfl⟩ := open_bool Try.underlying4 (hval 2 4 v2 rfl rfl) h2
  obtain ⟨a3, rfl, rfl, rfl, w3⟩ := open_int Try.underlying3 (hval 3 3 v3 rfl rfl) h3
  obtain ⟨a4, rfl, rfl, rfl, w4⟩ := open_int Try.underlying3 (hval 4 3 v4 rfl rfl) h4
  obtain ⟨a5, rfl, rfl, rfl⟩ := open_bool Try.underlying4 (hval 5 4 v5 rfl rfl) h5
  obtain ⟨a6, rfl, rfl, rfl⟩ := open_bool Try.underlying4 (hval 6 4 v6 rfl rfl) h6
  obtain ⟨a7, rfl, rfl, rfl⟩ := open_bool Try.underlying4 (hval 7 4 v7 rfl rfl) h7
  clear hA0 hval0
  simp only [List.append_nil] at hW'
  refine (walk a0 a1 a2 a3 a4 a5 a6 a7 W).mono fun e W' ⟨he, hg⟩ => ?_
  subst he
  exact ⟨_, rfl, _, _, _, [], [], [], hW', trodAll_mk1 (shut_bool Try.underlying4 _), (trodAll_cons_mk (shut_string Try.underlying9 w0) (trodAll_cons_mk (shut_string Try.underlying9 w1) (trodAll_cons_mk (shut_bool Try.underlying4 _) (trodAll_cons_mk (shut_int Try.underlying3 w3) (trodAll_cons_mk (shut_int Try.underlying3 w4) (trodAll_cons_mk (shut_bool Try.underlying4 _) (trodAll_cons_mk (shut_bool Try.underlying4 _) (trodAll_cons_mk (shut_bool Try.underlying4 _) trodAll_mk0)))))))), rfl, World.keptBut_mono (fun _ f => f.elim) hg, fun h => by cases h⟩

theorem over : Rows.fnOffsetRoundTripRow.holds Try.pinned (OpenSpec.ofChange Rows.fnOffsetRoundTripSpec) :=
  OpenClaim.holds_of_wide 4 Try.f4 rfl rfl rfl rfl rfl rfl rfl ⟨rfl, rfl, rfl, rfl, rfl⟩ rfl rfl rfl rfl rfl (by kernel_rfl) Try.func4 (by kernel_rfl)
    (of_decide_eq_true (by kernel_rfl)) (by unfold Func.isWrapper; first | (rw [if_pos (by decide +kernel)]; kernel_rfl) | (rw [if_neg (by decide +kernel)]; exact ⟨rfl, rfl⟩))
    (fun os started H enc _ => lifted os started H enc)

/-- ████ THE STATEMENT ████ -/
theorem proved : Rows.FnOffsetRoundTripSaid :=
  over
end Go.Proofs.Qxb6602188a.fnOffsetRoundTrip
