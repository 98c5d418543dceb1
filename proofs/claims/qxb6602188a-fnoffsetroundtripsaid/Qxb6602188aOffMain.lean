import Derived.Test.Qxb6602188aText
/-
  THE LAW 'FnOffsetRoundTrip' (function 4) inside its conditions, one theorem for each of the eight ways of writing an offset. Written by a script of mine, checked by the kernel.
-/
namespace Go.Proofs.Qxb6602188a.om
open Go.ChangeShapes Go.WideShapes Go.ChangeAt Go.RowKit
open bf nu

theorem zb_true (p s : ByteArray) (a b c d : Value) (e f : Value) (w : World) (hz : p.size + s.size ≤ 1048576) :
    Calls Try.prog 8 #[.string p, .string s, a, b, c, d, e, f] w fun e w' => e = .returned (.bool true) ∧ w' = w := by
  have q1 : (p.size : Int) ≤ 1048576 := by omega
  have q2 : (s.size : Int) ≤ 1048576 := by omega
  have q3 : (p.size : Int) + (s.size : Int) ≤ 1048576 := by omega
  go_enter Try.func8, Try.ntmps8
  go_wp2
  go_ret
  exact ⟨rfl, rfl⟩

theorem dig_no (c : Int) (w : World) (h : ¬ (48 ≤ c ∧ c ≤ 57)) : Calls Try.prog 6 #[.int .u8 c] w fun e w' => e = .returned (.bool false) ∧ w' = w := by
  by_cases h1 : 48 ≤ c
  · have q1 : decide (48 ≤ c) = true := by simpa using h1
    have q2 : decide (c ≤ 57) = false := by simp; omega
    clear h
    go_enter Try.func6, Try.ntmps6
    go_wp2
    go_ret
    exact ⟨rfl, rfl⟩
  · have q1 : decide (48 ≤ c) = false := by simpa using h1
    clear h
    go_enter Try.func6, Try.ntmps6
    go_wp2
    go_ret
    exact ⟨rfl, rfl⟩

theorem run_bf {W0 w : World} {v : Value} {xs : List Int} {T : ByteArray} (h : Bf W0 w v xs) (hne : xs ≠ []) (hx : ∀ x ∈ xs, 0 ≤ x ∧ x ≤ 255) (hT : T = txt xs) :
    Sem.run Try.prog (convert 27 9 v) w = .ok (.string T) w := by
  obtain ⟨g, cap, rfl, hc⟩ := h.shape hne
  rw [hT]
  exact run_text hx hc

theorem ints_bd (s : ByteArray) : ∀ x ∈ ints s, 0 ≤ x ∧ x ≤ 255 := by
  intro x hx
  unfold ints at hx
  obtain ⟨b, _, rfl⟩ := List.mem_map.1 hx
  have := b.toNat_lt
  omega

theorem bd_app {a b : List Int} (ha : ∀ x ∈ a, 0 ≤ x ∧ x ≤ 255) (hb : ∀ x ∈ b, 0 ≤ x ∧ x ≤ 255) : ∀ x ∈ a ++ b, 0 ≤ x ∧ x ≤ 255 := by
  intro x hx
  rcases List.mem_append.1 hx with h | h
  · exact ha x h
  · exact hb x h

set_option maxRecDepth 100000 in
set_option maxHeartbeats 1000000 in
theorem main_000 (p s T : ByteArray) (H : Int) (f : Bool) (je : Nat) (w : World) (hz : p.size + s.size ≤ 1048576) (h0 : 0 ≤ H) (h1 : H ≤ 15)
    (hs : ¬ 0 < s.size ∨ ∃ h : 0 < s.size, ((s[0].toNat : Int) == 58) = false ∧ ¬ (48 ≤ (s[0].toNat : Int) ∧ (s[0].toNat : Int) ≤ 57))
    (HT : Hid (T = txt ([] ++ ints p ++ [43] ++ [48 + H / 10, 48 + H % 10] ++ ints s))) (z1 : (T.size : Int) ≤ 1048600) (z2 : (T.size : Int) - (s.size : Int) = (je : Int))
    (HZ : Hid (∀ W, Calls Try.prog 9 #[.string T, .int .i64 p.size, .bool f] W fun e w' => e = .returned (.tuple #[.int .i64 ((H * 3600 + 0 * 60) * 1000000), .int .i64 je, .bool f]) ∧ Grown W w')) :
    Calls Try.prog 4 #[.string p, .string s, .bool false, .int .i64 H, .int .i64 0, .bool false, .bool false, .bool f] w fun e w' => e = .returned (.bool true) ∧ w.keptBut w' (fun _ => False) := by
  have q1 : (p.size : Int) ≤ 1048576 := by omega
  have q2 : (s.size : Int) ≤ 1048576 := by omega
  have q3 : (p.size : Int) + (s.size : Int) ≤ 1048576 := by omega
  have hlp : Hid ((ints p).length = p.size) := ints_length p
  have hls : Hid ((ints s).length = s.size) := ints_length s
  have HB : Hid (∀ x ∈ ([] ++ ints p ++ [43] ++ [48 + H / 10, 48 + H % 10] ++ ints s), 0 ≤ x ∧ x ≤ 255) :=
    bd_app (bd_app (bd_app (bd_app (fun x hx => by cases hx) (ints_bd p)) (fun x hx => by simp at hx; omega)) (fun x hx => by simp at hx; omega)) (ints_bd s)
  rcases hs with hs | ⟨hs, hs1, hs2⟩
  · go_enter Try.func4, Try.ntmps4
    go_wp2_with (first
      | (go_at_call 8; refine (zb_true _ _ _ _ _ _ _ _ _ hz).mono ?_; rintro e w' ⟨rfl, rfl⟩)
      | (at_make; refine wp_make _ rfl _ _ rfl .i64 .i64 _ (p.size + s.size + 8) rfl rfl (by omega) (by omega) ?_; intro w1 hb1)
      | (at_builtin; refine wp_text rfl (.tmp 98) (.tmp 99) rfl _ _ _ p rfl rfl hb1 (by have := hlp.out; simp; omega) ?_; intro v2 w2 hb2)
      | (at_builtin; refine wp_bytes rfl (.tmp 105) (.tmp 106) rfl _ _ _ _ [43] _ 1 rfl rfl rfl rfl hb2 (by have := hlp.out; simp; omega) ?_; intro v3 w3 hb3)
      | (at_builtin; refine wp_bytes rfl (.tmp 115) (.tmp 124) rfl _ _ _ _ [48 + H / 10, 48 + H % 10] _ 2 rfl rfl rfl rfl hb3 (by have := hlp.out; simp; omega) ?_; intro v4 w4 hb4)
      | (at_builtin; refine wp_text rfl (.tmp 138) (.tmp 139) rfl _ _ _ s rfl rfl hb4 (by have := hlp.out; simp; omega) ?_; intro v5 w5 hb5; have hcv := run_bf hb5 (by simp) HB.out HT.out; have hk5 := hb5.2.1; clear hb1 hb2 hb3 hb4 hb5)
      | (go_at_call 9; refine (HZ.out _).mono ?_; rintro e w6 ⟨rfl, hg6⟩))
    go_ret
    exact ⟨rfl, World.keptBut_trans ((by assumption : Below _ _ _).frame _) ((by assumption : Grown _ _).1)⟩
  · go_enter Try.func4, Try.ntmps4
    go_wp2_with (first
      | (go_at_call 8; refine (zb_true _ _ _ _ _ _ _ _ _ hz).mono ?_; rintro e w' ⟨rfl, rfl⟩)
      | (go_at_call 6; refine (dig_no _ _ hs2).mono ?_; rintro e w' ⟨rfl, rfl⟩)
      | (at_make; refine wp_make _ rfl _ _ rfl .i64 .i64 _ (p.size + s.size + 8) rfl rfl (by omega) (by omega) ?_; intro w1 hb1)
      | (at_builtin; refine wp_text rfl (.tmp 98) (.tmp 99) rfl _ _ _ p rfl rfl hb1 (by have := hlp.out; simp; omega) ?_; intro v2 w2 hb2)
      | (at_builtin; refine wp_bytes rfl (.tmp 105) (.tmp 106) rfl _ _ _ _ [43] _ 1 rfl rfl rfl rfl hb2 (by have := hlp.out; simp; omega) ?_; intro v3 w3 hb3)
      | (at_builtin; refine wp_bytes rfl (.tmp 115) (.tmp 124) rfl _ _ _ _ [48 + H / 10, 48 + H % 10] _ 2 rfl rfl rfl rfl hb3 (by have := hlp.out; simp; omega) ?_; intro v4 w4 hb4)
      | (at_builtin; refine wp_text rfl (.tmp 138) (.tmp 139) rfl _ _ _ s rfl rfl hb4 (by have := hlp.out; simp; omega) ?_; intro v5 w5 hb5; have hcv := run_bf hb5 (by simp) HB.out HT.out; have hk5 := hb5.2.1; clear hb1 hb2 hb3 hb4 hb5)
      | (go_at_call 9; refine (HZ.out _).mono ?_; rintro e w6 ⟨rfl, hg6⟩))
    go_ret
    exact ⟨rfl, World.keptBut_trans ((by assumption : Below _ _ _).frame _) ((by assumption : Grown _ _).1)⟩

set_option maxRecDepth 100000 in
set_option maxHeartbeats 1000000 in
theorem main_001 (p s T : ByteArray) (H : Int) (M : Int) (f : Bool) (je : Nat) (w : World) (hz : p.size + s.size ≤ 1048576) (h0 : 0 ≤ H) (h1 : H ≤ 15) (m0 : 0 ≤ M) (m1 : M ≤ 59)
    (HT : Hid (T = txt ([] ++ ints p ++ [43] ++ [48 + H / 10, 48 + H % 10] ++ [58, 48 + M / 10, 48 + M % 10] ++ ints s))) (z1 : (T.size : Int) ≤ 1048600) (z2 : (T.size : Int) - (s.size : Int) = (je : Int))
    (HZ : Hid (∀ W, Calls Try.prog 9 #[.string T, .int .i64 p.size, .bool f] W fun e w' => e = .returned (.tuple #[.int .i64 ((H * 3600 + M * 60) * 1000000), .int .i64 je, .bool f]) ∧ Grown W w')) :
    Calls Try.prog 4 #[.string p, .string s, .bool false, .int .i64 H, .int .i64 M, .bool true, .bool false, .bool f] w fun e w' => e = .returned (.bool true) ∧ w.keptBut w' (fun _ => False) := by
  have q1 : (p.size : Int) ≤ 1048576 := by omega
  have q2 : (s.size : Int) ≤ 1048576 := by omega
  have q3 : (p.size : Int) + (s.size : Int) ≤ 1048576 := by omega
  have hlp : Hid ((ints p).length = p.size) := ints_length p
  have hls : Hid ((ints s).length = s.size) := ints_length s
  have HB : Hid (∀ x ∈ ([] ++ ints p ++ [43] ++ [48 + H / 10, 48 + H % 10] ++ [58, 48 + M / 10, 48 + M % 10] ++ ints s), 0 ≤ x ∧ x ≤ 255) :=
    bd_app (bd_app (bd_app (bd_app (bd_app (fun x hx => by cases hx) (ints_bd p)) (fun x hx => by simp at hx; omega)) (fun x hx => by simp at hx; omega)) (fun x hx => by simp at hx; omega)) (ints_bd s)
  go_enter Try.func4, Try.ntmps4
  go_wp2_with (first
    | (go_at_call 8; refine (zb_true _ _ _ _ _ _ _ _ _ hz).mono ?_; rintro e w' ⟨rfl, rfl⟩)
    | (at_make; refine wp_make _ rfl _ _ rfl .i64 .i64 _ (p.size + s.size + 8) rfl rfl (by omega) (by omega) ?_; intro w1 hb1)
    | (at_builtin; refine wp_text rfl (.tmp 98) (.tmp 99) rfl _ _ _ p rfl rfl hb1 (by have := hlp.out; simp; omega) ?_; intro v2 w2 hb2)
    | (at_builtin; refine wp_bytes rfl (.tmp 105) (.tmp 106) rfl _ _ _ _ [43] _ 1 rfl rfl rfl rfl hb2 (by have := hlp.out; simp; omega) ?_; intro v3 w3 hb3)
    | (at_builtin; refine wp_bytes rfl (.tmp 115) (.tmp 124) rfl _ _ _ _ [48 + H / 10, 48 + H % 10] _ 2 rfl rfl rfl rfl hb3 (by have := hlp.out; simp; omega) ?_; intro v4 w4 hb4)
    | (at_builtin; refine wp_bytes rfl (.tmp 127) (.tmp 136) rfl _ _ _ _ [58, 48 + M / 10, 48 + M % 10] _ 3 rfl rfl rfl rfl hb4 (by have := hlp.out; simp; omega) ?_; intro v4b w4b hb4b)
    | (at_builtin; refine wp_text rfl (.tmp 138) (.tmp 139) rfl _ _ _ s rfl rfl hb4b (by have := hlp.out; simp; omega) ?_; intro v5 w5 hb5; have hcv := run_bf hb5 (by simp) HB.out HT.out; have hk5 := hb5.2.1; clear hb1 hb2 hb3 hb4 hb4b hb5)
    | (go_at_call 9; refine (HZ.out _).mono ?_; rintro e w6 ⟨rfl, hg6⟩))
  go_ret
  exact ⟨rfl, World.keptBut_trans ((by assumption : Below _ _ _).frame _) ((by assumption : Grown _ _).1)⟩

set_option maxRecDepth 100000 in
set_option maxHeartbeats 1000000 in
theorem main_010 (p s T : ByteArray) (H : Int) (f : Bool) (je : Nat) (w : World) (hz : p.size + s.size ≤ 1048576) (h0 : 0 ≤ H) (h1 : H ≤ 9)
    (hs : ¬ 0 < s.size ∨ ∃ h : 0 < s.size, ((s[0].toNat : Int) == 58) = false ∧ ¬ (48 ≤ (s[0].toNat : Int) ∧ (s[0].toNat : Int) ≤ 57))
    (HT : Hid (T = txt ([] ++ ints p ++ [43] ++ [48 + H] ++ ints s))) (z1 : (T.size : Int) ≤ 1048600) (z2 : (T.size : Int) - (s.size : Int) = (je : Int))
    (HZ : Hid (∀ W, Calls Try.prog 9 #[.string T, .int .i64 p.size, .bool f] W fun e w' => e = .returned (.tuple #[.int .i64 ((H * 3600 + 0 * 60) * 1000000), .int .i64 je, .bool f]) ∧ Grown W w')) :
    Calls Try.prog 4 #[.string p, .string s, .bool false, .int .i64 H, .int .i64 0, .bool false, .bool true, .bool f] w fun e w' => e = .returned (.bool true) ∧ w.keptBut w' (fun _ => False) := by
  have q1 : (p.size : Int) ≤ 1048576 := by omega
  have q2 : (s.size : Int) ≤ 1048576 := by omega
  have q3 : (p.size : Int) + (s.size : Int) ≤ 1048576 := by omega
  have hlp : Hid ((ints p).length = p.size) := ints_length p
  have hls : Hid ((ints s).length = s.size) := ints_length s
  have HB : Hid (∀ x ∈ ([] ++ ints p ++ [43] ++ [48 + H] ++ ints s), 0 ≤ x ∧ x ≤ 255) :=
    bd_app (bd_app (bd_app (bd_app (fun x hx => by cases hx) (ints_bd p)) (fun x hx => by simp at hx; omega)) (fun x hx => by simp at hx; omega)) (ints_bd s)
  rcases hs with hs | ⟨hs, hs1, hs2⟩
  · go_enter Try.func4, Try.ntmps4
    go_wp2_with (first
      | (go_at_call 8; refine (zb_true _ _ _ _ _ _ _ _ _ hz).mono ?_; rintro e w' ⟨rfl, rfl⟩)
      | (at_make; refine wp_make _ rfl _ _ rfl .i64 .i64 _ (p.size + s.size + 8) rfl rfl (by omega) (by omega) ?_; intro w1 hb1)
      | (at_builtin; refine wp_text rfl (.tmp 98) (.tmp 99) rfl _ _ _ p rfl rfl hb1 (by have := hlp.out; simp; omega) ?_; intro v2 w2 hb2)
      | (at_builtin; refine wp_bytes rfl (.tmp 105) (.tmp 106) rfl _ _ _ _ [43] _ 1 rfl rfl rfl rfl hb2 (by have := hlp.out; simp; omega) ?_; intro v3 w3 hb3)
      | (at_builtin; refine wp_bytes rfl (.tmp 109) (.tmp 113) rfl _ _ _ _ [48 + H] _ 1 rfl rfl rfl rfl hb3 (by have := hlp.out; simp; omega) ?_; intro v4 w4 hb4)
      | (at_builtin; refine wp_text rfl (.tmp 138) (.tmp 139) rfl _ _ _ s rfl rfl hb4 (by have := hlp.out; simp; omega) ?_; intro v5 w5 hb5; have hcv := run_bf hb5 (by simp) HB.out HT.out; have hk5 := hb5.2.1; clear hb1 hb2 hb3 hb4 hb5)
      | (go_at_call 9; refine (HZ.out _).mono ?_; rintro e w6 ⟨rfl, hg6⟩))
    go_ret
    exact ⟨rfl, World.keptBut_trans ((by assumption : Below _ _ _).frame _) ((by assumption : Grown _ _).1)⟩
  · go_enter Try.func4, Try.ntmps4
    go_wp2_with (first
      | (go_at_call 8; refine (zb_true _ _ _ _ _ _ _ _ _ hz).mono ?_; rintro e w' ⟨rfl, rfl⟩)
      | (go_at_call 6; refine (dig_no _ _ hs2).mono ?_; rintro e w' ⟨rfl, rfl⟩)
      | (at_make; refine wp_make _ rfl _ _ rfl .i64 .i64 _ (p.size + s.size + 8) rfl rfl (by omega) (by omega) ?_; intro w1 hb1)
      | (at_builtin; refine wp_text rfl (.tmp 98) (.tmp 99) rfl _ _ _ p rfl rfl hb1 (by have := hlp.out; simp; omega) ?_; intro v2 w2 hb2)
      | (at_builtin; refine wp_bytes rfl (.tmp 105) (.tmp 106) rfl _ _ _ _ [43] _ 1 rfl rfl rfl rfl hb2 (by have := hlp.out; simp; omega) ?_; intro v3 w3 hb3)
      | (at_builtin; refine wp_bytes rfl (.tmp 109) (.tmp 113) rfl _ _ _ _ [48 + H] _ 1 rfl rfl rfl rfl hb3 (by have := hlp.out; simp; omega) ?_; intro v4 w4 hb4)
      | (at_builtin; refine wp_text rfl (.tmp 138) (.tmp 139) rfl _ _ _ s rfl rfl hb4 (by have := hlp.out; simp; omega) ?_; intro v5 w5 hb5; have hcv := run_bf hb5 (by simp) HB.out HT.out; have hk5 := hb5.2.1; clear hb1 hb2 hb3 hb4 hb5)
      | (go_at_call 9; refine (HZ.out _).mono ?_; rintro e w6 ⟨rfl, hg6⟩))
    go_ret
    exact ⟨rfl, World.keptBut_trans ((by assumption : Below _ _ _).frame _) ((by assumption : Grown _ _).1)⟩

set_option maxRecDepth 100000 in
set_option maxHeartbeats 1000000 in
theorem main_011 (p s T : ByteArray) (H : Int) (M : Int) (f : Bool) (je : Nat) (w : World) (hz : p.size + s.size ≤ 1048576) (h0 : 0 ≤ H) (h1 : H ≤ 9) (m0 : 0 ≤ M) (m1 : M ≤ 59)
    (HT : Hid (T = txt ([] ++ ints p ++ [43] ++ [48 + H] ++ [58, 48 + M / 10, 48 + M % 10] ++ ints s))) (z1 : (T.size : Int) ≤ 1048600) (z2 : (T.size : Int) - (s.size : Int) = (je : Int))
    (HZ : Hid (∀ W, Calls Try.prog 9 #[.string T, .int .i64 p.size, .bool f] W fun e w' => e = .returned (.tuple #[.int .i64 ((H * 3600 + M * 60) * 1000000), .int .i64 je, .bool f]) ∧ Grown W w')) :
    Calls Try.prog 4 #[.string p, .string s, .bool false, .int .i64 H, .int .i64 M, .bool true, .bool true, .bool f] w fun e w' => e = .returned (.bool true) ∧ w.keptBut w' (fun _ => False) := by
  have q1 : (p.size : Int) ≤ 1048576 := by omega
  have q2 : (s.size : Int) ≤ 1048576 := by omega
  have q3 : (p.size : Int) + (s.size : Int) ≤ 1048576 := by omega
  have hlp : Hid ((ints p).length = p.size) := ints_length p
  have hls : Hid ((ints s).length = s.size) := ints_length s
  have HB : Hid (∀ x ∈ ([] ++ ints p ++ [43] ++ [48 + H] ++ [58, 48 + M / 10, 48 + M % 10] ++ ints s), 0 ≤ x ∧ x ≤ 255) :=
    bd_app (bd_app (bd_app (bd_app (bd_app (fun x hx => by cases hx) (ints_bd p)) (fun x hx => by simp at hx; omega)) (fun x hx => by simp at hx; omega)) (fun x hx => by simp at hx; omega)) (ints_bd s)
  go_enter Try.func4, Try.ntmps4
  go_wp2_with (first
    | (go_at_call 8; refine (zb_true _ _ _ _ _ _ _ _ _ hz).mono ?_; rintro e w' ⟨rfl, rfl⟩)
    | (at_make; refine wp_make _ rfl _ _ rfl .i64 .i64 _ (p.size + s.size + 8) rfl rfl (by omega) (by omega) ?_; intro w1 hb1)
    | (at_builtin; refine wp_text rfl (.tmp 98) (.tmp 99) rfl _ _ _ p rfl rfl hb1 (by have := hlp.out; simp; omega) ?_; intro v2 w2 hb2)
    | (at_builtin; refine wp_bytes rfl (.tmp 105) (.tmp 106) rfl _ _ _ _ [43] _ 1 rfl rfl rfl rfl hb2 (by have := hlp.out; simp; omega) ?_; intro v3 w3 hb3)
    | (at_builtin; refine wp_bytes rfl (.tmp 109) (.tmp 113) rfl _ _ _ _ [48 + H] _ 1 rfl rfl rfl rfl hb3 (by have := hlp.out; simp; omega) ?_; intro v4 w4 hb4)
    | (at_builtin; refine wp_bytes rfl (.tmp 127) (.tmp 136) rfl _ _ _ _ [58, 48 + M / 10, 48 + M % 10] _ 3 rfl rfl rfl rfl hb4 (by have := hlp.out; simp; omega) ?_; intro v4b w4b hb4b)
    | (at_builtin; refine wp_text rfl (.tmp 138) (.tmp 139) rfl _ _ _ s rfl rfl hb4b (by have := hlp.out; simp; omega) ?_; intro v5 w5 hb5; have hcv := run_bf hb5 (by simp) HB.out HT.out; have hk5 := hb5.2.1; clear hb1 hb2 hb3 hb4 hb4b hb5)
    | (go_at_call 9; refine (HZ.out _).mono ?_; rintro e w6 ⟨rfl, hg6⟩))
  go_ret
  exact ⟨rfl, World.keptBut_trans ((by assumption : Below _ _ _).frame _) ((by assumption : Grown _ _).1)⟩

set_option maxRecDepth 100000 in
set_option maxHeartbeats 1000000 in
theorem main_100 (p s T : ByteArray) (H : Int) (f : Bool) (je : Nat) (w : World) (hz : p.size + s.size ≤ 1048576) (h0 : 0 ≤ H) (h1 : H ≤ 15)
    (hs : ¬ 0 < s.size ∨ ∃ h : 0 < s.size, ((s[0].toNat : Int) == 58) = false ∧ ¬ (48 ≤ (s[0].toNat : Int) ∧ (s[0].toNat : Int) ≤ 57))
    (HT : Hid (T = txt ([] ++ ints p ++ [45] ++ [48 + H / 10, 48 + H % 10] ++ ints s))) (z1 : (T.size : Int) ≤ 1048600) (z2 : (T.size : Int) - (s.size : Int) = (je : Int))
    (HZ : Hid (∀ W, Calls Try.prog 9 #[.string T, .int .i64 p.size, .bool f] W fun e w' => e = .returned (.tuple #[.int .i64 (-((H * 3600 + 0 * 60) * 1000000)), .int .i64 je, .bool f]) ∧ Grown W w')) :
    Calls Try.prog 4 #[.string p, .string s, .bool true, .int .i64 H, .int .i64 0, .bool false, .bool false, .bool f] w fun e w' => e = .returned (.bool true) ∧ w.keptBut w' (fun _ => False) := by
  have q1 : (p.size : Int) ≤ 1048576 := by omega
  have q2 : (s.size : Int) ≤ 1048576 := by omega
  have q3 : (p.size : Int) + (s.size : Int) ≤ 1048576 := by omega
  have hlp : Hid ((ints p).length = p.size) := ints_length p
  have hls : Hid ((ints s).length = s.size) := ints_length s
  have HB : Hid (∀ x ∈ ([] ++ ints p ++ [45] ++ [48 + H / 10, 48 + H % 10] ++ ints s), 0 ≤ x ∧ x ≤ 255) :=
    bd_app (bd_app (bd_app (bd_app (fun x hx => by cases hx) (ints_bd p)) (fun x hx => by simp at hx; omega)) (fun x hx => by simp at hx; omega)) (ints_bd s)
  rcases hs with hs | ⟨hs, hs1, hs2⟩
  · go_enter Try.func4, Try.ntmps4
    go_wp2_with (first
      | (go_at_call 8; refine (zb_true _ _ _ _ _ _ _ _ _ hz).mono ?_; rintro e w' ⟨rfl, rfl⟩)
      | (at_make; refine wp_make _ rfl _ _ rfl .i64 .i64 _ (p.size + s.size + 8) rfl rfl (by omega) (by omega) ?_; intro w1 hb1)
      | (at_builtin; refine wp_text rfl (.tmp 98) (.tmp 99) rfl _ _ _ p rfl rfl hb1 (by have := hlp.out; simp; omega) ?_; intro v2 w2 hb2)
      | (at_builtin; refine wp_bytes rfl (.tmp 102) (.tmp 103) rfl _ _ _ _ [45] _ 1 rfl rfl rfl rfl hb2 (by have := hlp.out; simp; omega) ?_; intro v3 w3 hb3)
      | (at_builtin; refine wp_bytes rfl (.tmp 115) (.tmp 124) rfl _ _ _ _ [48 + H / 10, 48 + H % 10] _ 2 rfl rfl rfl rfl hb3 (by have := hlp.out; simp; omega) ?_; intro v4 w4 hb4)
      | (at_builtin; refine wp_text rfl (.tmp 138) (.tmp 139) rfl _ _ _ s rfl rfl hb4 (by have := hlp.out; simp; omega) ?_; intro v5 w5 hb5; have hcv := run_bf hb5 (by simp) HB.out HT.out; have hk5 := hb5.2.1; clear hb1 hb2 hb3 hb4 hb5)
      | (go_at_call 9; refine (HZ.out _).mono ?_; rintro e w6 ⟨rfl, hg6⟩))
    go_ret
    exact ⟨rfl, World.keptBut_trans ((by assumption : Below _ _ _).frame _) ((by assumption : Grown _ _).1)⟩
  · go_enter Try.func4, Try.ntmps4
    go_wp2_with (first
      | (go_at_call 8; refine (zb_true _ _ _ _ _ _ _ _ _ hz).mono ?_; rintro e w' ⟨rfl, rfl⟩)
      | (go_at_call 6; refine (dig_no _ _ hs2).mono ?_; rintro e w' ⟨rfl, rfl⟩)
      | (at_make; refine wp_make _ rfl _ _ rfl .i64 .i64 _ (p.size + s.size + 8) rfl rfl (by omega) (by omega) ?_; intro w1 hb1)
      | (at_builtin; refine wp_text rfl (.tmp 98) (.tmp 99) rfl _ _ _ p rfl rfl hb1 (by have := hlp.out; simp; omega) ?_; intro v2 w2 hb2)
      | (at_builtin; refine wp_bytes rfl (.tmp 102) (.tmp 103) rfl _ _ _ _ [45] _ 1 rfl rfl rfl rfl hb2 (by have := hlp.out; simp; omega) ?_; intro v3 w3 hb3)
      | (at_builtin; refine wp_bytes rfl (.tmp 115) (.tmp 124) rfl _ _ _ _ [48 + H / 10, 48 + H % 10] _ 2 rfl rfl rfl rfl hb3 (by have := hlp.out; simp; omega) ?_; intro v4 w4 hb4)
      | (at_builtin; refine wp_text rfl (.tmp 138) (.tmp 139) rfl _ _ _ s rfl rfl hb4 (by have := hlp.out; simp; omega) ?_; intro v5 w5 hb5; have hcv := run_bf hb5 (by simp) HB.out HT.out; have hk5 := hb5.2.1; clear hb1 hb2 hb3 hb4 hb5)
      | (go_at_call 9; refine (HZ.out _).mono ?_; rintro e w6 ⟨rfl, hg6⟩))
    go_ret
    exact ⟨rfl, World.keptBut_trans ((by assumption : Below _ _ _).frame _) ((by assumption : Grown _ _).1)⟩

set_option maxRecDepth 100000 in
set_option maxHeartbeats 1000000 in
theorem main_101 (p s T : ByteArray) (H : Int) (M : Int) (f : Bool) (je : Nat) (w : World) (hz : p.size + s.size ≤ 1048576) (h0 : 0 ≤ H) (h1 : H ≤ 15) (m0 : 0 ≤ M) (m1 : M ≤ 59)
    (HT : Hid (T = txt ([] ++ ints p ++ [45] ++ [48 + H / 10, 48 + H % 10] ++ [58, 48 + M / 10, 48 + M % 10] ++ ints s))) (z1 : (T.size : Int) ≤ 1048600) (z2 : (T.size : Int) - (s.size : Int) = (je : Int))
    (HZ : Hid (∀ W, Calls Try.prog 9 #[.string T, .int .i64 p.size, .bool f] W fun e w' => e = .returned (.tuple #[.int .i64 (-((H * 3600 + M * 60) * 1000000)), .int .i64 je, .bool f]) ∧ Grown W w')) :
    Calls Try.prog 4 #[.string p, .string s, .bool true, .int .i64 H, .int .i64 M, .bool true, .bool false, .bool f] w fun e w' => e = .returned (.bool true) ∧ w.keptBut w' (fun _ => False) := by
  have q1 : (p.size : Int) ≤ 1048576 := by omega
  have q2 : (s.size : Int) ≤ 1048576 := by omega
  have q3 : (p.size : Int) + (s.size : Int) ≤ 1048576 := by omega
  have hlp : Hid ((ints p).length = p.size) := ints_length p
  have hls : Hid ((ints s).length = s.size) := ints_length s
  have HB : Hid (∀ x ∈ ([] ++ ints p ++ [45] ++ [48 + H / 10, 48 + H % 10] ++ [58, 48 + M / 10, 48 + M % 10] ++ ints s), 0 ≤ x ∧ x ≤ 255) :=
    bd_app (bd_app (bd_app (bd_app (bd_app (fun x hx => by cases hx) (ints_bd p)) (fun x hx => by simp at hx; omega)) (fun x hx => by simp at hx; omega)) (fun x hx => by simp at hx; omega)) (ints_bd s)
  go_enter Try.func4, Try.ntmps4
  go_wp2_with (first
    | (go_at_call 8; refine (zb_true _ _ _ _ _ _ _ _ _ hz).mono ?_; rintro e w' ⟨rfl, rfl⟩)
    | (at_make; refine wp_make _ rfl _ _ rfl .i64 .i64 _ (p.size + s.size + 8) rfl rfl (by omega) (by omega) ?_; intro w1 hb1)
    | (at_builtin; refine wp_text rfl (.tmp 98) (.tmp 99) rfl _ _ _ p rfl rfl hb1 (by have := hlp.out; simp; omega) ?_; intro v2 w2 hb2)
    | (at_builtin; refine wp_bytes rfl (.tmp 102) (.tmp 103) rfl _ _ _ _ [45] _ 1 rfl rfl rfl rfl hb2 (by have := hlp.out; simp; omega) ?_; intro v3 w3 hb3)
    | (at_builtin; refine wp_bytes rfl (.tmp 115) (.tmp 124) rfl _ _ _ _ [48 + H / 10, 48 + H % 10] _ 2 rfl rfl rfl rfl hb3 (by have := hlp.out; simp; omega) ?_; intro v4 w4 hb4)
    | (at_builtin; refine wp_bytes rfl (.tmp 127) (.tmp 136) rfl _ _ _ _ [58, 48 + M / 10, 48 + M % 10] _ 3 rfl rfl rfl rfl hb4 (by have := hlp.out; simp; omega) ?_; intro v4b w4b hb4b)
    | (at_builtin; refine wp_text rfl (.tmp 138) (.tmp 139) rfl _ _ _ s rfl rfl hb4b (by have := hlp.out; simp; omega) ?_; intro v5 w5 hb5; have hcv := run_bf hb5 (by simp) HB.out HT.out; have hk5 := hb5.2.1; clear hb1 hb2 hb3 hb4 hb4b hb5)
    | (go_at_call 9; refine (HZ.out _).mono ?_; rintro e w6 ⟨rfl, hg6⟩))
  go_ret
  exact ⟨rfl, World.keptBut_trans ((by assumption : Below _ _ _).frame _) ((by assumption : Grown _ _).1)⟩

set_option maxRecDepth 100000 in
set_option maxHeartbeats 1000000 in
theorem main_110 (p s T : ByteArray) (H : Int) (f : Bool) (je : Nat) (w : World) (hz : p.size + s.size ≤ 1048576) (h0 : 0 ≤ H) (h1 : H ≤ 9)
    (hs : ¬ 0 < s.size ∨ ∃ h : 0 < s.size, ((s[0].toNat : Int) == 58) = false ∧ ¬ (48 ≤ (s[0].toNat : Int) ∧ (s[0].toNat : Int) ≤ 57))
    (HT : Hid (T = txt ([] ++ ints p ++ [45] ++ [48 + H] ++ ints s))) (z1 : (T.size : Int) ≤ 1048600) (z2 : (T.size : Int) - (s.size : Int) = (je : Int))
    (HZ : Hid (∀ W, Calls Try.prog 9 #[.string T, .int .i64 p.size, .bool f] W fun e w' => e = .returned (.tuple #[.int .i64 (-((H * 3600 + 0 * 60) * 1000000)), .int .i64 je, .bool f]) ∧ Grown W w')) :
    Calls Try.prog 4 #[.string p, .string s, .bool true, .int .i64 H, .int .i64 0, .bool false, .bool true, .bool f] w fun e w' => e = .returned (.bool true) ∧ w.keptBut w' (fun _ => False) := by
  have q1 : (p.size : Int) ≤ 1048576 := by omega
  have q2 : (s.size : Int) ≤ 1048576 := by omega
  have q3 : (p.size : Int) + (s.size : Int) ≤ 1048576 := by omega
  have hlp : Hid ((ints p).length = p.size) := ints_length p
  have hls : Hid ((ints s).length = s.size) := ints_length s
  have HB : Hid (∀ x ∈ ([] ++ ints p ++ [45] ++ [48 + H] ++ ints s), 0 ≤ x ∧ x ≤ 255) :=
    bd_app (bd_app (bd_app (bd_app (fun x hx => by cases hx) (ints_bd p)) (fun x hx => by simp at hx; omega)) (fun x hx => by simp at hx; omega)) (ints_bd s)
  rcases hs with hs | ⟨hs, hs1, hs2⟩
  · go_enter Try.func4, Try.ntmps4
    go_wp2_with (first
      | (go_at_call 8; refine (zb_true _ _ _ _ _ _ _ _ _ hz).mono ?_; rintro e w' ⟨rfl, rfl⟩)
      | (at_make; refine wp_make _ rfl _ _ rfl .i64 .i64 _ (p.size + s.size + 8) rfl rfl (by omega) (by omega) ?_; intro w1 hb1)
      | (at_builtin; refine wp_text rfl (.tmp 98) (.tmp 99) rfl _ _ _ p rfl rfl hb1 (by have := hlp.out; simp; omega) ?_; intro v2 w2 hb2)
      | (at_builtin; refine wp_bytes rfl (.tmp 102) (.tmp 103) rfl _ _ _ _ [45] _ 1 rfl rfl rfl rfl hb2 (by have := hlp.out; simp; omega) ?_; intro v3 w3 hb3)
      | (at_builtin; refine wp_bytes rfl (.tmp 109) (.tmp 113) rfl _ _ _ _ [48 + H] _ 1 rfl rfl rfl rfl hb3 (by have := hlp.out; simp; omega) ?_; intro v4 w4 hb4)
      | (at_builtin; refine wp_text rfl (.tmp 138) (.tmp 139) rfl _ _ _ s rfl rfl hb4 (by have := hlp.out; simp; omega) ?_; intro v5 w5 hb5; have hcv := run_bf hb5 (by simp) HB.out HT.out; have hk5 := hb5.2.1; clear hb1 hb2 hb3 hb4 hb5)
      | (go_at_call 9; refine (HZ.out _).mono ?_; rintro e w6 ⟨rfl, hg6⟩))
    go_ret
    exact ⟨rfl, World.keptBut_trans ((by assumption : Below _ _ _).frame _) ((by assumption : Grown _ _).1)⟩
  · go_enter Try.func4, Try.ntmps4
    go_wp2_with (first
      | (go_at_call 8; refine (zb_true _ _ _ _ _ _ _ _ _ hz).mono ?_; rintro e w' ⟨rfl, rfl⟩)
      | (go_at_call 6; refine (dig_no _ _ hs2).mono ?_; rintro e w' ⟨rfl, rfl⟩)
      | (at_make; refine wp_make _ rfl _ _ rfl .i64 .i64 _ (p.size + s.size + 8) rfl rfl (by omega) (by omega) ?_; intro w1 hb1)
      | (at_builtin; refine wp_text rfl (.tmp 98) (.tmp 99) rfl _ _ _ p rfl rfl hb1 (by have := hlp.out; simp; omega) ?_; intro v2 w2 hb2)
      | (at_builtin; refine wp_bytes rfl (.tmp 102) (.tmp 103) rfl _ _ _ _ [45] _ 1 rfl rfl rfl rfl hb2 (by have := hlp.out; simp; omega) ?_; intro v3 w3 hb3)
      | (at_builtin; refine wp_bytes rfl (.tmp 109) (.tmp 113) rfl _ _ _ _ [48 + H] _ 1 rfl rfl rfl rfl hb3 (by have := hlp.out; simp; omega) ?_; intro v4 w4 hb4)
      | (at_builtin; refine wp_text rfl (.tmp 138) (.tmp 139) rfl _ _ _ s rfl rfl hb4 (by have := hlp.out; simp; omega) ?_; intro v5 w5 hb5; have hcv := run_bf hb5 (by simp) HB.out HT.out; have hk5 := hb5.2.1; clear hb1 hb2 hb3 hb4 hb5)
      | (go_at_call 9; refine (HZ.out _).mono ?_; rintro e w6 ⟨rfl, hg6⟩))
    go_ret
    exact ⟨rfl, World.keptBut_trans ((by assumption : Below _ _ _).frame _) ((by assumption : Grown _ _).1)⟩

set_option maxRecDepth 100000 in
set_option maxHeartbeats 1000000 in
theorem main_111 (p s T : ByteArray) (H : Int) (M : Int) (f : Bool) (je : Nat) (w : World) (hz : p.size + s.size ≤ 1048576) (h0 : 0 ≤ H) (h1 : H ≤ 9) (m0 : 0 ≤ M) (m1 : M ≤ 59)
    (HT : Hid (T = txt ([] ++ ints p ++ [45] ++ [48 + H] ++ [58, 48 + M / 10, 48 + M % 10] ++ ints s))) (z1 : (T.size : Int) ≤ 1048600) (z2 : (T.size : Int) - (s.size : Int) = (je : Int))
    (HZ : Hid (∀ W, Calls Try.prog 9 #[.string T, .int .i64 p.size, .bool f] W fun e w' => e = .returned (.tuple #[.int .i64 (-((H * 3600 + M * 60) * 1000000)), .int .i64 je, .bool f]) ∧ Grown W w')) :
    Calls Try.prog 4 #[.string p, .string s, .bool true, .int .i64 H, .int .i64 M, .bool true, .bool true, .bool f] w fun e w' => e = .returned (.bool true) ∧ w.keptBut w' (fun _ => False) := by
  have q1 : (p.size : Int) ≤ 1048576 := by omega
  have q2 : (s.size : Int) ≤ 1048576 := by omega
  have q3 : (p.size : Int) + (s.size : Int) ≤ 1048576 := by omega
  have hlp : Hid ((ints p).length = p.size) := ints_length p
  have hls : Hid ((ints s).length = s.size) := ints_length s
  have HB : Hid (∀ x ∈ ([] ++ ints p ++ [45] ++ [48 + H] ++ [58, 48 + M / 10, 48 + M % 10] ++ ints s), 0 ≤ x ∧ x ≤ 255) :=
    bd_app (bd_app (bd_app (bd_app (bd_app (fun x hx => by cases hx) (ints_bd p)) (fun x hx => by simp at hx; omega)) (fun x hx => by simp at hx; omega)) (fun x hx => by simp at hx; omega)) (ints_bd s)
  go_enter Try.func4, Try.ntmps4
  go_wp2_with (first
    | (go_at_call 8; refine (zb_true _ _ _ _ _ _ _ _ _ hz).mono ?_; rintro e w' ⟨rfl, rfl⟩)
    | (at_make; refine wp_make _ rfl _ _ rfl .i64 .i64 _ (p.size + s.size + 8) rfl rfl (by omega) (by omega) ?_; intro w1 hb1)
    | (at_builtin; refine wp_text rfl (.tmp 98) (.tmp 99) rfl _ _ _ p rfl rfl hb1 (by have := hlp.out; simp; omega) ?_; intro v2 w2 hb2)
    | (at_builtin; refine wp_bytes rfl (.tmp 102) (.tmp 103) rfl _ _ _ _ [45] _ 1 rfl rfl rfl rfl hb2 (by have := hlp.out; simp; omega) ?_; intro v3 w3 hb3)
    | (at_builtin; refine wp_bytes rfl (.tmp 109) (.tmp 113) rfl _ _ _ _ [48 + H] _ 1 rfl rfl rfl rfl hb3 (by have := hlp.out; simp; omega) ?_; intro v4 w4 hb4)
    | (at_builtin; refine wp_bytes rfl (.tmp 127) (.tmp 136) rfl _ _ _ _ [58, 48 + M / 10, 48 + M % 10] _ 3 rfl rfl rfl rfl hb4 (by have := hlp.out; simp; omega) ?_; intro v4b w4b hb4b)
    | (at_builtin; refine wp_text rfl (.tmp 138) (.tmp 139) rfl _ _ _ s rfl rfl hb4b (by have := hlp.out; simp; omega) ?_; intro v5 w5 hb5; have hcv := run_bf hb5 (by simp) HB.out HT.out; have hk5 := hb5.2.1; clear hb1 hb2 hb3 hb4 hb4b hb5)
    | (go_at_call 9; refine (HZ.out _).mono ?_; rintro e w6 ⟨rfl, hg6⟩))
  go_ret
  exact ⟨rfl, World.keptBut_trans ((by assumption : Below _ _ _).frame _) ((by assumption : Grown _ _).1)⟩

end Go.Proofs.Qxb6602188a.om
