import Derived.Test.Qxb6602112aLawParts
/-
  THE LAW 'FnEightbytesMatchesClassification' (function 5), walked.
-/
namespace Go.Proofs.Qxb6602112a.fd
open Go.ChangeShapes Go.WideShapes Go.ChangeAt Go.RowKit

theorem law_long (w : World) (a : Option Addr) (len cap : Nat) (sz : Int) (hl : len ≤ 9223372036854775807) (h : 32768 < len) :
    Calls Try.prog 5 #[.int .i64 sz, .slice a len cap] w fun e w' => e = .returned (.bool true) ∧ Below w.heap.size w w' := by
  have HZ : Hid (Calls Try.prog 12 #[.int .i64 sz, .slice a len cap] w fun e w' => e = .returned (.bool (decide (len ≤ 1048576))) ∧ w' = w) := zz_any w a len cap (.int .i64 sz) hl
  generalize decide (len ≤ 1048576) = r at HZ
  go_enter Try.func5, Try.ntmps5
  go_wp2_with fail
  refine HZ.out.mono ?_
  rintro e w' ⟨rfl, rfl⟩
  cases r
  · go_wp2
    go_ret
    exact ⟨rfl, Below.refl _ _⟩
  · go_wp2
    go_ret
    exact ⟨rfl, Below.refl _ _⟩

set_option maxHeartbeats 4000000 in
theorem law_short (w : World) (a : Option Addr) (len cap : Nat) (sz : Int) (K O : Nat → Int) (P : Nat → Bool) (hin : Inp w a len K O P) (hn : len ≤ 32768) (hlo : -9223372036854775808 ≤ sz) :
    Calls Try.prog 5 #[.int .i64 sz, .slice a len cap] w fun e w' => e = .returned (.bool true) ∧ Below w.heap.size w w' := by
  have HZ : Hid (Calls Try.prog 12 #[.int .i64 sz, .slice a len cap] w fun e w' => e = .returned (.bool true) ∧ w' = w) := by
    have h := zz_any w a len cap (.int .i64 sz) (by omega)
    rw [show decide (len ≤ 1048576) = true by simp; omega] at h
    exact h
  have HB : Hid (Calls Try.prog 14 #[.int .i64 sz, .slice a len cap] w fun e w' =>
      ∃ v, e = .returned (.agg #[.int .i64 3, .int .i64 sz, .bool false, .bool false, .bool false, .pointer none, v, .bool false, .bool false, .bool false, .slice none 0 0, .int .i64 0, .string ByteArray.empty, .pointer none]) ∧ At w' v (lst len K O P) ∧ Below w.heap.size w w') := eb_any w a len cap K O P hin hn sz
  have HA0 := upto_all 0 len K O P
  have HA8 := upto_all 8 len K O P
  have HG : Hid (∀ W v, At W v (lst len K O P) → Calls Try.prog 13 #[.agg #[.int .i64 3, .int .i64 sz, .bool false, .bool false, .bool false, .pointer none, v, .bool false, .bool false, .bool false, .slice none 0 0, .int .i64 0, .string ByteArray.empty, .pointer none]] W fun e w' =>
      ∃ pv, e = .returned pv ∧ Got w' pv sz (if upto 0 (lst len K O P) len then 1 else 2) (if upto 8 (lst len K O P) len then 1 else 2) ∧ Below W.heap.size W w') := fun W v hW => by
    rw [HA0, HA8]
    exact got_any W v _ hW (by rw [lst_length]; exact hn) sz 3 hlo
  have HS0 : Hid (∀ m, m < len → upto 0 (lst len K O P) (m + 1) = (upto 0 (lst len K O P) m || (!P m && (decide (0 ≤ O m) && decide (O m < 8) && (K m == 1))))) := fun m hm => upto_succ 0 len K O P m hm
  have HS8 : Hid (∀ m, m < len → upto 8 (lst len K O P) (m + 1) = (upto 8 (lst len K O P) m || (!P m && (decide (8 ≤ O m) && decide (O m < 16) && (K m == 1))))) := fun m hm => upto_succ 8 len K O P m hm
  have HI : Hid (Inp w a len K O P) := hin
  have Hz0 : Hid (upto 0 (lst len K O P) 0 = false) := upto_zero _ _
  have Hz8 : Hid (upto 8 (lst len K O P) 0 = false) := upto_zero _ _
  generalize upto 0 (lst len K O P) = A0 at HG HS0 Hz0
  generalize upto 8 (lst len K O P) = A8 at HG HS8 Hz8
  clear HA0 HA8 hin
  go_enter Try.func5, Try.ntmps5
  go_wp2_with fail
  refine HZ.out.mono ?_
  rintro e w' ⟨rfl, rfl⟩
  have n0 : ¬ (32768 : Int) < (len : Int) := by omega
  have n1 : ¬ 32768 < len := by omega
  go_wp2_with fail
  refine HB.out.mono ?_
  rintro e w1 ⟨v, rfl, hat, hb1⟩
  go_wp2_with fail
  refine (HG.out _ _ hat).mono ?_
  rintro e w2 ⟨pv, rfl, hgot, hb2⟩
  have hbb : Below w'.heap.size w' w2 := hb1.trans (hb2.mono hb1.size)
  clear HZ HB HG hat hb1 hb2
  go_wp2_with fail
  go_loopg [6, 7, 8] len (fun gk x y i wr => ∃ m : Nat, m ≤ len ∧ gk = len - m ∧ x = .bool (A0 m) ∧ y = .bool (A8 m) ∧ i = .int .i64 m ∧ Below w2.heap.size w2 wr)
  case atStart => exact ⟨0, Nat.zero_le _, rfl, by rw [Hz0.out], by rw [Hz8.out], rfl, Below.refl _ _⟩
  case round =>
    obtain ⟨m, hm, rfl, rfl, rfl, rfl, hbl⟩ := hrel
    by_cases hml : m < len
    · obtain ⟨b, off, rfl, hf⟩ := HI.out (by omega)
      have hfr := hf.below (hbb.trans (hbl.mono hbb.size))
      have c0 := hfr.c0 m hml
      have c1 := hfr.c1 m hml
      have c2 := hfr.c2 m hml
      have blt := hfr.lt
      have s0 : Hid (A0 (m + 1) = (A0 m || (!P m && (decide (0 ≤ O m) && decide (O m < 8) && (K m == 1))))) := HS0.out m hml
      have s8 : Hid (A8 (m + 1) = (A8 m || (!P m && (decide (8 ≤ O m) && decide (O m < 16) && (K m == 1))))) := HS8.out m hml
      have hnew : Hid (∀ x, Below w2.heap.size w2 (wr.alloc x)) := fun x => hbl.alloc hbl.size x
      have e0 : (m : Int) < (len : Int) := by omega
      generalize K m = k at c0 s0 s8
      generalize O m = o at c1 s0 s8
      generalize P m = p at c2 s0 s8
      clear HS0 HS8 Hz0 Hz8 HI hf hfr hgot hbb hbl
      cases p
      · by_cases hk : k = 1
        · subst hk
          by_cases o0 : o < 0
          · have d0 : decide (0 ≤ o) = false := by simp; omega
            have d1 : decide (8 ≤ o) = false := by simp; omega
            clear o0
            have t0 : Hid (A0 (m + 1) = A0 m) := by show A0 (m + 1) = _; rw [s0.out]; simp [*]
            have t8 : Hid (A8 (m + 1) = A8 m) := by show A8 (m + 1) = _; rw [s8.out]; simp [*]
            clear s0 s8
            go_wp2
            go_roundg (len - (m + 1))
            case measure => omega
            case rel => exact ⟨m + 1, by omega, rfl, by rw [t0.out], by rw [t8.out], congrArg (Value.int IntKind.i64) (by omega), hnew.out _⟩
          by_cases o8 : o < 8
          · have d0 : decide (0 ≤ o) = true := by simp; omega
            have d1 : decide (o < 8) = true := by simp; omega
            have d2 : decide (8 ≤ o) = false := by simp; omega
            clear o0 o8
            have t0 : Hid (A0 (m + 1) = true) := by show A0 (m + 1) = _; rw [s0.out]; simp [*]
            have t8 : Hid (A8 (m + 1) = A8 m) := by show A8 (m + 1) = _; rw [s8.out]; simp [*]
            clear s0 s8
            go_wp2
            go_roundg (len - (m + 1))
            case measure => omega
            case rel => exact ⟨m + 1, by omega, rfl, by rw [t0.out], by rw [t8.out], congrArg (Value.int IntKind.i64) (by omega), hnew.out _⟩
          by_cases o16 : o < 16
          · have d0 : decide (0 ≤ o) = true := by simp; omega
            have d1 : decide (o < 8) = false := by simp; omega
            have d2 : decide (8 ≤ o) = true := by simp; omega
            have d3 : decide (o < 16) = true := by simp; omega
            clear o0 o8 o16
            have t0 : Hid (A0 (m + 1) = A0 m) := by show A0 (m + 1) = _; rw [s0.out]; simp [*]
            have t8 : Hid (A8 (m + 1) = true) := by show A8 (m + 1) = _; rw [s8.out]; simp [*]
            clear s0 s8
            go_wp2
            go_roundg (len - (m + 1))
            case measure => omega
            case rel => exact ⟨m + 1, by omega, rfl, by rw [t0.out], by rw [t8.out], congrArg (Value.int IntKind.i64) (by omega), hnew.out _⟩
          · have d0 : decide (0 ≤ o) = true := by simp; omega
            have d1 : decide (o < 8) = false := by simp; omega
            have d2 : decide (8 ≤ o) = true := by simp; omega
            have d3 : decide (o < 16) = false := by simp; omega
            clear o0 o8 o16
            have t0 : Hid (A0 (m + 1) = A0 m) := by show A0 (m + 1) = _; rw [s0.out]; simp [*]
            have t8 : Hid (A8 (m + 1) = A8 m) := by show A8 (m + 1) = _; rw [s8.out]; simp [*]
            clear s0 s8
            go_wp2
            go_roundg (len - (m + 1))
            case measure => omega
            case rel => exact ⟨m + 1, by omega, rfl, by rw [t0.out], by rw [t8.out], congrArg (Value.int IntKind.i64) (by omega), hnew.out _⟩
        · have hk' : (k == 1) = false := by simpa using hk
          have t0 : Hid (A0 (m + 1) = A0 m) := by show A0 (m + 1) = _; rw [s0.out]; simp [*]
          have t8 : Hid (A8 (m + 1) = A8 m) := by show A8 (m + 1) = _; rw [s8.out]; simp [*]
          clear s0 s8
          go_wp2
          go_roundg (len - (m + 1))
          case measure => omega
          case rel => exact ⟨m + 1, by omega, rfl, by rw [t0.out], by rw [t8.out], congrArg (Value.int IntKind.i64) (by omega), hnew.out _⟩
      · skip
        have t0 : Hid (A0 (m + 1) = A0 m) := by show A0 (m + 1) = _; rw [s0.out]; simp [*]
        have t8 : Hid (A8 (m + 1) = A8 m) := by show A8 (m + 1) = _; rw [s8.out]; simp [*]
        clear s0 s8
        go_wp2
        go_roundg (len - (m + 1))
        case measure => omega
        case rel => exact ⟨m + 1, by omega, rfl, by rw [t0.out], by rw [t8.out], congrArg (Value.int IntKind.i64) (by omega), hnew.out _⟩
    · obtain rfl : m = len := by omega
      have e0 : ¬ (m : Int) < (m : Int) := by omega
      have hgot2 := hgot.below hbl
      have hbr : Below w'.heap.size w' wr := hbb.trans (hbl.mono hbb.size)
      clear hgot hbl hbb HS0 HS8 Hz0 Hz8 HI
      generalize A0 m = q0 at hgot2 ⊢
      generalize A8 m = q1 at hgot2 ⊢
      have hne : Nonempty Ext := ⟨⟨0, []⟩⟩
      have HC0 : Hid (∀ g, Calls Try.prog 16 #[.bool q0] (ext wr g) fun r w' => r = .returned (.int .i64 (if q0 then 1 else 2)) ∧ ∃ g', w' = ext wr g') := fun g => class_ext q0 wr g
      have HC1 : Hid (∀ g, Calls Try.prog 16 #[.bool q1] (ext wr g) fun r w' => r = .returned (.int .i64 (if q1 then 1 else 2)) ∧ ∃ g', w' = ext wr g') := fun g => class_ext q1 wr g
      generalize (if q0 then (1 : Int) else 2) = k0 at hgot2 HC0
      generalize (if q1 then (1 : Int) else 2) = k1 at hgot2 HC1
      rcases hgot2 with ⟨h, rfl⟩ | ⟨h1, h2, g, cp, rfl, hp⟩ | ⟨h1, h2, g, cp, rfl, hp, hp2⟩
      · have hnil := fun w => Lib.run_eql_slice_nil (P := Try.prog) w 29 43 none 0 0 0 0 Try.underlying29
        clear HC0 HC1
        by_cases h' : sz ≤ 0
        · have d0 : decide (sz ≤ 0) = true := by simp; omega
          clear h h'
          go_wp2
          go_ret
          exact ⟨rfl, hbr⟩
        · have d0 : decide (sz ≤ 0) = false := by simp; omega
          have d1 : decide (16 < sz) = true := by simp; omega
          clear h h'
          go_wp2
          go_ret
          exact ⟨rfl, hbr⟩
      · have d0 : decide (sz ≤ 0) = false := by simp; omega
        have d1 : decide (16 < sz) = false := by simp; omega
        have d2 : decide (sz ≤ 8) = true := by simp; omega
        clear h1 h2 HC1
        have t0 : ∀ x, (ext wr x).cell? ⟨g, 0, none⟩ = some (.int .i64 k0) := ext_cell hp.c0 hp.lt
        have t1 : ∀ x, (ext wr x).cell? ⟨g, 1, none⟩ = some (.int .i64 0) := ext_cell hp.c1 hp.lt
        have t2 : ∀ x, (ext wr x).cell? ⟨g, 2, none⟩ = some (.int .i64 sz) := ext_cell hp.c2 hp.lt
        have t3 : ∀ x, (ext wr x).cell? ⟨g, 3, none⟩ = some (.string ByteArray.empty) := ext_cell hp.c3 hp.lt
        clear hp
        go_wp2_with fail
        refine wp_region_ext (by kernel_rfl) (by kernel_rfl) ?_
        repeat (go_big_quiet_step (first
          | (refine (HC0.out _).mono ?_; rintro r w' ⟨rfl, hg⟩; exact ⟨rfl, hg⟩)
          | (refine (same_ext _ _ _ _ _).mono ?_; rintro r w' ⟨rfl, hg⟩; exact ⟨rfl, hg⟩)))
        refine wpQuiet_nil ?_
        intro _ hw'
        obtain ⟨x, hw''⟩ := hw'
        subst hw''
        have hbx : Below w'.heap.size w' (ext wr x) := hbr.trans ((ext_below wr x).mono hbr.size)
        clear t0 t1 t2 t3 HC0
        go_wp2
        go_ret
        exact ⟨rfl, hbx⟩
      · have d0 : decide (sz ≤ 0) = false := by simp; omega
        have d1 : decide (16 < sz) = false := by simp; omega
        have d2 : decide (sz ≤ 8) = false := by simp; omega
        have t0 : ∀ x, (ext wr x).cell? ⟨g, 0, none⟩ = some (.int .i64 k0) := ext_cell hp.c0 hp.lt
        have t1 : ∀ x, (ext wr x).cell? ⟨g, 1, none⟩ = some (.int .i64 0) := ext_cell hp.c1 hp.lt
        have t2 : ∀ x, (ext wr x).cell? ⟨g, 2, none⟩ = some (.int .i64 8) := ext_cell hp.c2 hp.lt
        have t3 : ∀ x, (ext wr x).cell? ⟨g, 3, none⟩ = some (.string ByteArray.empty) := ext_cell hp.c3 hp.lt
        have t4 : ∀ x, (ext wr x).cell? ⟨g, 4, none⟩ = some (.int .i64 k1) := ext_cell hp2.c0 hp2.lt
        have t5 : ∀ x, (ext wr x).cell? ⟨g, 5, none⟩ = some (.int .i64 8) := ext_cell hp2.c1 hp2.lt
        have t6 : ∀ x, (ext wr x).cell? ⟨g, 6, none⟩ = some (.int .i64 (sz - 8)) := ext_cell hp2.c2 hp2.lt
        have t7 : ∀ x, (ext wr x).cell? ⟨g, 7, none⟩ = some (.string ByteArray.empty) := ext_cell hp2.c3 hp2.lt
        clear hp hp2
        go_wp2_with fail
        refine wp_region_ext (by kernel_rfl) (by kernel_rfl) ?_
        repeat (go_big_quiet_step (first
          | (refine (HC0.out _).mono ?_; rintro r w' ⟨rfl, hg⟩; exact ⟨rfl, hg⟩)
          | (refine (HC1.out _).mono ?_; rintro r w' ⟨rfl, hg⟩; exact ⟨rfl, hg⟩)
          | (refine (same_ext _ _ _ _ _).mono ?_; rintro r w' ⟨rfl, hg⟩; exact ⟨rfl, hg⟩)))
        refine wpQuiet_nil ?_
        intro _ hw'
        obtain ⟨x, hw''⟩ := hw'
        subst hw''
        have hbx : Below w'.heap.size w' (ext wr x) := hbr.trans ((ext_below wr x).mono hbr.size)
        clear t0 t1 t2 t3 t4 t5 t6 t7 HC0 HC1
        go_wp2
        go_ret
        exact ⟨rfl, hbx⟩
end Go.Proofs.Qxb6602112a.fd
