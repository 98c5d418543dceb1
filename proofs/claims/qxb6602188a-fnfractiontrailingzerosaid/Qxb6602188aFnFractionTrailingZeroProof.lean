/-
  'Rows.FnFractionTrailingZeroSaid': the shell's frame (the given tool's), the walk filled in over the contract of 'ZZScannerFraction' (Qxb6602188aZzFrac).
-/
import Derived.Test.Qxb6602188aRows
import Derived.WalkKit
import Derived.ProofKit
import Derived.OpenShut
import Derived.ShutString
import Derived.Test.Qxb6602188aZzFrac
namespace Go.Proofs.Qxb6602188a.fnFractionTrailingZero
open Go.ChangeShapes Go.WideShapes Go.ChangeAt Go.RowKit
open Go.ChangeMaps (open_string shut_string)
set_option linter.unusedVariables false      -- a walk need not use every 'w<i>' (that an integer argument fits its kind)

theorem own : ownKnob Try.prog.godebug = none := by kernel_rfl

theorem grown_trans {a b c : World} (h1 : Grown a b) (h2 : Grown b c) : Grown a c :=
  ⟨World.keptBut_trans h1.1 h2.1, fun x => (h2.2.1 x).trans (h1.2.1 x), Nat.le_trans h1.2.2 h2.2.2⟩

/-! ### THE PLAIN SIDE: where the run of digits ends; the text with one more nought -/
theorem run_end (s : ByteArray) : ∀ (k i : Nat), i ≤ s.size → s.size - i = k → ∃ j, i ≤ j ∧ j ≤ s.size ∧
    (∀ m, (h : m < s.size) → i ≤ m → m < j → 48 ≤ (s[m].toNat : Int) ∧ (s[m].toNat : Int) ≤ 57) ∧
    ((h : j < s.size) → ¬ (48 ≤ (s[j].toNat : Int) ∧ (s[j].toNat : Int) ≤ 57))
  | 0, i, hi, hk => ⟨i, Nat.le_refl _, hi, fun m h h1 h2 => absurd h1 (by omega), fun h => absurd h (by omega)⟩
  | k + 1, i, hi, hk => by
    by_cases c : 48 ≤ ((s[i]'(by omega)).toNat : Int) ∧ ((s[i]'(by omega)).toNat : Int) ≤ 57
    · obtain ⟨j, h1, h2, h3, h4⟩ := run_end s k (i + 1) (by omega) (by omega)
      refine ⟨j, by omega, h2, fun m h g1 g2 => ?_, h4⟩
      by_cases e : m = i
      · subst e; exact c
      · exact h3 m h (by omega) g2
    · exact ⟨i, Nat.le_refl _, hi, fun m h h1 h2 => absurd h1 (by omega), fun _ => c⟩

/-- the text with one more nought at j -/
def put0 (s : ByteArray) (j : Nat) : ByteArray := s.extract 0 j ++ ⟨#[48]⟩ ++ s.extract j s.size

theorem put0_size (s : ByteArray) (j : Nat) (hj : j ≤ s.size) : (put0 s j).size = s.size + 1 := by
  unfold put0
  have e : (⟨#[48]⟩ : ByteArray).size = 1 := rfl
  simp [ByteArray.size_append, ByteArray.size_extract, e]
  omega
theorem put0_lt (s : ByteArray) (j m : Nat) (hj : j ≤ s.size) (hm : m < j) (h : m < (put0 s j).size) : (put0 s j)[m] = s[m]'(by omega) := by
  have e : (⟨#[48]⟩ : ByteArray).size = 1 := rfl
  simp only [put0]
  rw [ByteArray.getElem_append_left (by simp [ByteArray.size_append, ByteArray.size_extract, e]; omega), ByteArray.getElem_append_left (by simp [ByteArray.size_extract]; omega), ByteArray.getElem_extract]
  simp
theorem put0_at (s : ByteArray) (j : Nat) (hj : j ≤ s.size) (h : j < (put0 s j).size) : (put0 s j)[j] = 48 := by
  have e : (⟨#[48]⟩ : ByteArray).size = 1 := rfl
  simp only [put0]
  rw [ByteArray.getElem_append_left (by simp [ByteArray.size_append, ByteArray.size_extract, e]; omega), ByteArray.getElem_append_right (by simp [ByteArray.size_extract]; omega)]
  have : j - (s.extract 0 j).size = 0 := by simp [ByteArray.size_extract]; omega
  simp only [this]
  rfl
theorem put0_gt (s : ByteArray) (j : Nat) (hj : j < s.size) (h : j + 1 < (put0 s j).size) : (put0 s j)[j + 1] = s[j] := by
  have e : (⟨#[48]⟩ : ByteArray).size = 1 := rfl
  simp only [put0]
  rw [ByteArray.getElem_append_right (by simp [ByteArray.size_append, ByteArray.size_extract, e]; omega), ByteArray.getElem_extract]
  have : j + (j + 1 - (s.extract 0 j ++ ⟨#[48]⟩).size) = j := by simp [ByteArray.size_append, ByteArray.size_extract, e]; omega
  simp only [this]

theorem put0_dv (s : ByteArray) (i j : Nat) (hij : i ≤ j) (hj : j ≤ s.size) (m : Nat) : pl.dv ((put0 s j).extract i (j + 1)) m = pl.dv (s.extract i j) m := by
  have z := put0_size s j hj
  by_cases h : m < j - i
  · rw [pl.dv_in _ _ (by simp [ByteArray.size_extract]; omega), pl.dv_in _ _ (by simp [ByteArray.size_extract]; omega), ByteArray.getElem_extract, ByteArray.getElem_extract, put0_lt s j (i + m) hj (by omega)]
  · rw [pl.dv_out (s.extract i j) m (by simp [ByteArray.size_extract]; omega)]
    by_cases h2 : m = j - i
    · subst h2
      rw [pl.dv_in _ _ (by simp [ByteArray.size_extract]; omega), ByteArray.getElem_extract]
      have e : i + (j - i) = j := by omega
      simp only [e]
      rw [put0_at s j hj]; rfl
    · exact pl.dv_out _ _ (by simp [ByteArray.size_extract]; omega)

/-! ### THE WALK -/
set_option maxHeartbeats 1000000 in
theorem walk_in (s : ByteArray) (i j : Nat) (f f1 : Bool) (U : Int)
    (HA : Hid (∀ W, Calls Try.prog 7 #[.string s, .int .i64 i, .bool f] W fun e w' => e = .returned (.tuple #[.int .i64 U, .int .i64 j, .bool f1]) ∧ Grown W w'))
    (HB : Hid (∀ W, Calls Try.prog 7 #[.string (s.extract 0 j ++ ⟨#[48]⟩ ++ s.extract j s.size), .int .i64 i, .bool f] W fun e w' => e = .returned (.tuple #[.int .i64 U, .int .i64 ((j : Int) + 1), .bool f]) ∧ Grown W w'))
    (cs : Hid ((i = j ∧ U = 0) ∨ (i < j ∧ f1 = f))) (hs : s.size ≤ 1048576) (hij : i ≤ j) (hj : j ≤ s.size)
    (hd : ∀ m, (h : m < s.size) → i ≤ m → m < j → 48 ≤ (s[m].toNat : Int) ∧ (s[m].toNat : Int) ≤ 57)
    (he : (h : j < s.size) → ¬ (48 ≤ (s[j].toNat : Int) ∧ (s[j].toNat : Int) ≤ 57)) (w : World) :
    Calls Try.prog 3 #[.string s, .int .i64 i, .bool f] w fun e w' => e = .returned (.bool true) ∧ Grown w w' := by
  have hi : i ≤ s.size := by omega
  go_enter Try.func3, Try.ntmps3
  go_wp2
  go_loop [7] (fun x => ∃ k : Nat, i ≤ k ∧ k ≤ j ∧ x = .int .i64 k) (fun x => j - (intOf x).toNat)
  case atStart => exact ⟨i, Nat.le_refl _, hij, rfl⟩
  case round =>
    obtain ⟨k, hik, hkj, rfl⟩ := hrel
    by_cases hlt : k < j
    · have hk : k < s.size := by omega
      obtain ⟨d1, d2⟩ := hd k hk hik hlt
      clear hd he
      have q0 : (k : Int) < (s.size : Int) := by omega
      go_wp2
      go_round
      case rel => exact ⟨k + 1, by omega, by omega, by go_num⟩
      case measure => simp [intOf]; omega
    · obtain rfl : k = j := by omega
      have hw := fr.way_out he
      rcases hw with ⟨hsz, q0⟩ | ⟨hsz, q0, q1⟩ | ⟨hsz, q0, q1, q2⟩
      all_goals
        clear he hd
        go_wp2
        go_quiet (fail)
        go_wp2_with fail
        refine (HA.out _).mono ?_
        rintro e wa ⟨rfl, ga⟩
        go_wp2_with fail
        refine (HB.out _).mono ?_
        rintro e wb ⟨rfl, gb⟩
        have hgr : Grown w wb := grown_trans (grown_trans (sc.grown_drewN (Grown.refl w) _) ga) gb
        clear HA HB ga gb
        rcases cs.out with ⟨hk, hU⟩ | ⟨hk, hf⟩
        · clear cs
          subst hk hU
          go_wp2
          go_ret
          exact ⟨rfl, hgr⟩
        · clear cs
          subst hf
          have q : ((k : Int) == (i : Int)) = false := by simp; omega
          go_wp2
          go_ret
          exact ⟨rfl, hgr⟩

theorem walk (a0 : ByteArray) (a1 : Int) (a2 : Bool) (w0 : a0.size ≤ maxLen) (w1 : (Lit.int .i64 a1).wf = true) (w : World) :
    Calls Try.prog 3 #[.string a0, .int .i64 a1, .bool a2] w fun e w' => e = .returned (.bool true) ∧ Grown w w' := by
  unfold maxLen at w0
  by_cases hs : 1048576 < a0.size
  · clear w1
    go_enter Try.func3, Try.ntmps3
    go_wp2
    go_ret
    exact ⟨rfl, Grown.refl _⟩
  by_cases h0 : a1 < 0
  · clear w1
    go_enter Try.func3, Try.ntmps3
    go_wp2
    go_ret
    exact ⟨rfl, Grown.refl _⟩
  obtain ⟨i, rfl⟩ := Int.eq_ofNat_of_zero_le (by omega : 0 ≤ a1)
  by_cases h1 : a0.size < i
  · clear w1
    go_enter Try.func3, Try.ntmps3
    go_wp2
    go_ret
    exact ⟨rfl, Grown.refl _⟩
  obtain ⟨j, hij, hj, hd, he⟩ := run_end a0 _ i (by omega) rfl
  have z := put0_size a0 j hj
  have hd' : ∀ m, (h : m < (put0 a0 j).size) → i ≤ m → m < j + 1 → 48 ≤ ((put0 a0 j)[m].toNat : Int) ∧ ((put0 a0 j)[m].toNat : Int) ≤ 57 := by
    intro m h g1 g2
    by_cases e : m = j
    · subst e; rw [put0_at a0 m hj]; decide
    · rw [put0_lt a0 j m hj (by omega)]; exact hd m (by omega) g1 (by omega)
  have he' : (h : j + 1 < (put0 a0 j).size) → ¬ (48 ≤ ((put0 a0 j)[j + 1].toNat : Int) ∧ ((put0 a0 j)[j + 1].toNat : Int) ≤ 57) := by
    intro h
    rw [put0_gt a0 j (by omega)]
    exact he (by omega)
  have HB : ∀ U, pl.usD (a0.extract i j) = U → Hid (∀ W, Calls Try.prog 7 #[.string (a0.extract 0 j ++ ⟨#[48]⟩ ++ a0.extract j a0.size), .int .i64 i, .bool a2] W fun e w' => e = .returned (.tuple #[.int .i64 U, .int .i64 ((j : Int) + 1), .bool a2]) ∧ Grown W w') := by
    intro U hU W
    exact fr.zz_yes W (put0 a0 j) i (j + 1) a2 U ((pl.usD_congr (put0_dv a0 i j hij hj)).trans hU) (by omega) (by omega) (by omega) hd' he'
  by_cases e : i = j
  · have h0 : pl.usD (a0.extract i j) = 0 := pl.usD_zero fun m => pl.dv_out _ _ (by simp [ByteArray.size_extract]; omega)
    subst e
    exact walk_in a0 i i a2 true 0 (fun W => fr.zz_no W a0 i a2 hj he) (HB 0 h0) (Or.inl ⟨rfl, rfl⟩) (by omega) hij hj hd he w
  · exact walk_in a0 i j a2 a2 (pl.usD (a0.extract i j)) (fun W => fr.zz_yes W a0 i j a2 _ rfl (by omega) (by omega) hj hd he) (HB _ rfl) (Or.inr ⟨by omega, rfl⟩) (by omega) hij hj hd he w

/-! ### THE ROW's STEP: WRITTEN OUT: LEAVE IT -/
set_option maxRecDepth 100000 in
theorem lifted (os : Os) (started : os.Started) (H : Type) (enc : TypeId × Value → H) :
    ReturnsInHanded {} Try.checked os 3 .any (Rows.fnFractionTrailingZeroSpec.pre6 enc Try.prog Try.f3 Rows.fnFractionTrailingZeroRow.domain false) (Rows.fnFractionTrailingZeroSpec.post enc Try.prog Try.f3 false true false false) := by
  refine returnsInHanded_of_change (C := Try.checked) own started (by kernel_rfl) Try.func3
    (ChangeSpec.witness6 (enc := enc) (C := Try.checked) false ⟨#[], #[.string ByteArray.empty, .int .i64 0, .bool false], []⟩ 8 (by kernel_rfl) (by kernel_rfl) (by kernel_rfl) (by kernel_rfl)) ?_
  intro W base args ds gs before hval0 hW hcnd _
  have hval : ∀ (j : Nat) t v, Try.f3.params[j]? = some t → args[j]? = some v → Value.okWide Try.prog W .any base t v := hval0
  have hW' := hW
  obtain ⟨p, q, hA0, hV, rfl, hfz, hnd⟩ := hW
  have hA : DataW.TrodAll enc Try.prog W 0 (fun _ => true) true Try.f3.params.toList args.toList ds p := hA0
  rw [Try.params3] at hA hval
  obtain ⟨v0, vs0, d0, ds0, p0, q0, hargs, rfl, rfl, h0, r0⟩ := trodAll_cons hA
  obtain ⟨v1, vs1, d1, ds1, p1, q1, rfl, rfl, rfl, h1, r1⟩ := trodAll_cons r0
  obtain ⟨v2, vs2, d2, ds2, p2, q2, rfl, rfl, rfl, h2, r2⟩ := trodAll_cons r1
  obtain ⟨rfl, rfl, rfl⟩ := trodAll_nil r2
  obtain rfl : args = #[v0, v1, v2] := by cases args; simp_all
  obtain ⟨rfl, rfl⟩ := trodVars_none hV
  obtain ⟨a0, rfl, rfl, rfl, w0⟩ := open_string Try.underlying9 (hval 0 9 v0 rfl rfl) h0
  obtain ⟨a1, rfl, rfl, rfl, w1⟩ := open_int Try.underlying3 (hval 1 3 v1 rfl rfl) h1
  obtain ⟨a2, rfl, rfl, rfl⟩ := open_bool Try.underlying4 (hval 2 4 v2 rfl rfl) h2
  clear hA0 hval0
  simp only [List.append_nil] at hW'
  refine (walk a0 a1 a2 w0 w1 W).mono fun e W' ⟨he, hg⟩ => ?_
  subst he
  exact ⟨_, rfl, post_of_same (pa := []) (pv := []) hW' (fun _ _ _ => (trodAll_cons_mk (shut_bool Try.underlying4 _) trodAll_mk0)) (fun sp _ => (trodAll_cons_mk (shut_string Try.underlying9 w0) (trodAll_cons_mk (shut_int Try.underlying3 w1) (trodAll_cons_mk (shut_bool Try.underlying4 _) trodAll_mk0)))) (fun _ _ => rfl) rfl
    (hg.frame _) hg.2.1 (ok_one (by kernel_rfl) rfl (okWide_bool_mk Try.underlying4 _))⟩

theorem over : Rows.fnFractionTrailingZeroRow.holds Try.pinned (OpenSpec.ofChange Rows.fnFractionTrailingZeroSpec) :=
  OpenClaim.holds_of_wide 3 Try.f3 rfl rfl rfl rfl rfl rfl rfl ⟨rfl, rfl, rfl, rfl, rfl⟩ rfl rfl rfl rfl rfl (by kernel_rfl) Try.func3 (by kernel_rfl)
    (of_decide_eq_true (by kernel_rfl)) (by unfold Func.isWrapper; first | (rw [if_pos (by decide +kernel)]; kernel_rfl) | (rw [if_neg (by decide +kernel)]; exact ⟨rfl, rfl⟩))
    (fun os started H enc _ => lifted os started H enc)

/-- ████ THE STATEMENT ████ -/
theorem proved : Rows.FnFractionTrailingZeroSaid :=
  over
end Go.Proofs.Qxb6602188a.fnFractionTrailingZero
