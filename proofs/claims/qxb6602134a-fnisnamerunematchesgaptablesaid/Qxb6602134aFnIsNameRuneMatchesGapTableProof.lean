/-
  'Rows.FnIsNameRuneMatchesGapTableSaid': the shell's frame (the given tool's), the walk filled in over the contracts of 'isNameRune' and 'b1InNameGap'.
-/
import Derived.Test.Qxb6602134aRows
import Derived.WalkKit
import Derived.ProofKit
import Derived.OpenShut
import Derived.ShutString
import Derived.Test.Qxb6602134aNameWalk
import Derived.Test.Qxb6602134aGapWalk
namespace Go.Proofs.Qxb6602134a.fnIsNameRuneMatchesGapTable
open Go.ChangeShapes Go.WideShapes Go.ChangeAt Go.RowKit
open Go.ChangeMaps (open_string shut_string)
set_option linter.unusedVariables false      -- a walk need not use every 'w<i>' (that an integer argument fits its kind)

theorem own : ownKnob Try.prog.godebug = none := by kernel_rfl

/-! ### THE WALK -/
theorem zz (r : Int) (st : Bool) (w : World) :
    Calls Try.prog 6 #[.int .i32 r, .bool st] w fun e w' => e = .returned (.bool (nm.nmB r st)) ∧ w' = w := by
  go_enter Try.func6, Try.ntmps6
  go_wp2_with (go_at_call 11; refine (nm.name_any _ _ _).mono ?_; rintro e w' ⟨rfl, rfl⟩)
  go_ret
  exact ⟨rfl, rfl⟩

theorem ret_b {a b : Bool} {P : World → Prop} {e : Ending} {w : World} (h : a = b) (he : e = .returned (.bool a) ∧ P w) : e = .returned (.bool b) ∧ P w := h ▸ he

/-- 'b1ModelNameRune' answers what 'isNameRune' answers -/
theorem model_false (r : Int) (w : World) :
    Calls Try.prog 7 #[.int .i32 r, .bool false] w fun e w' => e = .returned (.bool (nm.nmB r false)) ∧ w' = w := by
  by_cases c1 : r < 183
  · have hb : false = nm.nmB r false := by simp [nm.nmB]; omega
    have e1 : decide (r < 183) = true := by simp; omega
    refine Calls.mono ?_ fun e w' h => ret_b (P := fun x => x = w) hb h
    clear c1 hb
    go_enter Try.func7, Try.ntmps7
    go_wp2_with (go_at_call 12; refine (gp.gap_any _ _).mono ?_; rintro e w' ⟨rfl, rfl⟩)
    go_ret
    exact ⟨rfl, rfl⟩
  have e1 : decide (r < 183) = false := by simp; omega
  by_cases c2 : 983039 < r
  · have hb : false = nm.nmB r false := by simp [nm.nmB]; omega
    have e2 : decide (983039 < r) = true := by simp; omega
    refine Calls.mono ?_ fun e w' h => ret_b (P := fun x => x = w) hb h
    clear c1 c2 hb
    go_enter Try.func7, Try.ntmps7
    go_wp2_with (go_at_call 12; refine (gp.gap_any _ _).mono ?_; rintro e w' ⟨rfl, rfl⟩)
    go_ret
    exact ⟨rfl, rfl⟩
  have e2 : decide (983039 < r) = false := by simp; omega
  by_cases c3 : gp.gapB r = true
  · have hb : false = nm.nmB r false := by simp [nm.nmB, gp.gapB] at c3 ⊢; omega
    refine Calls.mono ?_ fun e w' h => ret_b (P := fun x => x = w) hb h
    clear c1 c2 hb
    go_enter Try.func7, Try.ntmps7
    go_wp2_with (go_at_call 12; refine (gp.gap_any _ _).mono ?_; rintro e w' ⟨rfl, rfl⟩)
    go_ret
    exact ⟨rfl, rfl⟩
  have hb : true = nm.nmB r false := by simp [nm.nmB, gp.gapB] at c3 ⊢; omega
  have e3 : gp.gapB r = false := by simpa using c3
  refine Calls.mono ?_ fun e w' h => ret_b (P := fun x => x = w) hb h
  clear c1 c2 c3 hb
  go_enter Try.func7, Try.ntmps7
  go_wp2_with (go_at_call 12; refine (gp.gap_any _ _).mono ?_; rintro e w' ⟨rfl, rfl⟩)
  go_ret
  exact ⟨rfl, rfl⟩

theorem model_true (r : Int) (w : World) :
    Calls Try.prog 7 #[.int .i32 r, .bool true] w fun e w' => e = .returned (.bool (nm.nmB r true)) ∧ w' = w := by
  by_cases c1 : r < 192
  · have hb : false = nm.nmB r true := by simp [nm.nmB]; omega
    have e1 : decide (r < 192) = true := by simp; omega
    refine Calls.mono ?_ fun e w' h => ret_b (P := fun x => x = w) hb h
    clear c1 hb
    go_enter Try.func7, Try.ntmps7
    go_wp2_with (go_at_call 12; refine (gp.gap_any _ _).mono ?_; rintro e w' ⟨rfl, rfl⟩)
    go_ret
    exact ⟨rfl, rfl⟩
  have e1 : decide (r < 192) = false := by simp; omega
  by_cases c2 : 983039 < r
  · have hb : false = nm.nmB r true := by simp [nm.nmB]; omega
    have e2 : decide (983039 < r) = true := by simp; omega
    refine Calls.mono ?_ fun e w' h => ret_b (P := fun x => x = w) hb h
    clear c1 c2 hb
    go_enter Try.func7, Try.ntmps7
    go_wp2_with (go_at_call 12; refine (gp.gap_any _ _).mono ?_; rintro e w' ⟨rfl, rfl⟩)
    go_ret
    exact ⟨rfl, rfl⟩
  have e2 : decide (983039 < r) = false := by simp; omega
  by_cases c3 : gp.gapB r = true
  · have hb : false = nm.nmB r true := by simp [nm.nmB, gp.gapB] at c3 ⊢; omega
    refine Calls.mono ?_ fun e w' h => ret_b (P := fun x => x = w) hb h
    clear c1 c2 hb
    go_enter Try.func7, Try.ntmps7
    go_wp2_with (go_at_call 12; refine (gp.gap_any _ _).mono ?_; rintro e w' ⟨rfl, rfl⟩)
    go_ret
    exact ⟨rfl, rfl⟩
  have e3 : gp.gapB r = false := by simpa using c3
  by_cases c4 : 768 ≤ r ∧ r ≤ 879
  · have hb : false = nm.nmB r true := by simp [nm.nmB]; omega
    have e4 : decide (768 ≤ r) = true := by simp; omega
    have e5 : decide (r ≤ 879) = true := by simp; omega
    refine Calls.mono ?_ fun e w' h => ret_b (P := fun x => x = w) hb h
    clear c1 c2 c3 c4 hb
    go_enter Try.func7, Try.ntmps7
    go_wp2_with (go_at_call 12; refine (gp.gap_any _ _).mono ?_; rintro e w' ⟨rfl, rfl⟩)
    go_ret
    exact ⟨rfl, rfl⟩
  by_cases c5 : 8255 ≤ r ∧ r ≤ 8256
  · have hb : false = nm.nmB r true := by simp [nm.nmB]; omega
    have e4 : decide (768 ≤ r) = true := by simp; omega
    have e5 : decide (r ≤ 879) = false := by simp; omega
    have e6 : decide (8255 ≤ r) = true := by simp; omega
    have e7 : decide (r ≤ 8256) = true := by simp; omega
    refine Calls.mono ?_ fun e w' h => ret_b (P := fun x => x = w) hb h
    clear c1 c2 c3 c4 c5 hb
    go_enter Try.func7, Try.ntmps7
    go_wp2_with (go_at_call 12; refine (gp.gap_any _ _).mono ?_; rintro e w' ⟨rfl, rfl⟩)
    go_ret
    exact ⟨rfl, rfl⟩
  have hb : true = nm.nmB r true := by simp [nm.nmB, gp.gapB] at c3 ⊢; omega
  have key : ∀ (b1 b2 b3 b4 : Bool), decide (768 ≤ r) = b1 → decide (r ≤ 879) = b2 → decide (8255 ≤ r) = b3 → decide (r ≤ 8256) = b4 → (b1 = true → b2 = false) → (b3 = true → b4 = false) →
      Calls Try.prog 7 #[.int .i32 r, .bool true] w fun e w' => e = .returned (.bool true) ∧ w' = w := by
    intro b1 b2 b3 b4 e4 e5 e6 e7 x1 x2
    clear c1 c2 c3 c4 c5 hb
    cases b1 <;> cases b3
    all_goals first | (simp at x1; subst x1) | clear x1
    all_goals first | (simp at x2; subst x2) | clear x2
    all_goals
      go_enter Try.func7, Try.ntmps7
      go_wp2_with (go_at_call 12; refine (gp.gap_any _ _).mono ?_; rintro e w' ⟨rfl, rfl⟩)
      go_ret
      exact ⟨rfl, rfl⟩
  exact (key _ _ _ _ rfl rfl rfl rfl (by simp; omega) (by simp; omega)).mono fun e w' h => ret_b (P := fun x => x = w) hb h

theorem model_any (r : Int) (st : Bool) (w : World) :
    Calls Try.prog 7 #[.int .i32 r, .bool st] w fun e w' => e = .returned (.bool (nm.nmB r st)) ∧ w' = w := by
  cases st
  · exact model_false r w
  · exact model_true r w

theorem walk (a0 : Int) (a1 : Bool) (w0 : (Lit.int .i32 a0).wf = true) (w : World) :
    Calls Try.prog 3 #[.int .i32 a0, .bool a1] w fun e w' => e = .returned (.bool true) ∧ Grown w w' := by
  clear w0
  go_enter Try.func3, Try.ntmps3
  go_wp2_with (first | (go_at_call 6; refine (zz _ _ _).mono ?_; rintro e w' ⟨rfl, rfl⟩) | (go_at_call 7; refine (model_any _ _ _).mono ?_; rintro e w' ⟨rfl, rfl⟩))
  go_ret
  exact ⟨rfl, by repeat (first | exact Grown.refl _ | apply Grown.drew | apply Grown.alloc)⟩

/-! ### THE ROW's STEP: WRITTEN OUT: LEAVE IT -/
set_option maxRecDepth 100000 in
theorem lifted (os : Os) (started : os.Started) (H : Type) (enc : TypeId × Value → H) :
    ReturnsInHanded {} Try.checked os 3 .any (Rows.fnIsNameRuneMatchesGapTableSpec.pre6 enc Try.prog Try.f3 Rows.fnIsNameRuneMatchesGapTableRow.domain false) (Rows.fnIsNameRuneMatchesGapTableSpec.post enc Try.prog Try.f3 false true false false) := by
  refine returnsInHanded_of_change (C := Try.checked) own started (by kernel_rfl) Try.func3
    (ChangeSpec.witness6 (enc := enc) (C := Try.checked) false ⟨#[], #[.int .i32 0, .bool false], []⟩ 8 (by kernel_rfl) (by kernel_rfl) (by kernel_rfl) (by kernel_rfl)) ?_
  intro W base args ds gs before hval0 hW hcnd _
  have hval : ∀ (j : Nat) t v, Try.f3.params[j]? = some t → args[j]? = some v → Value.okWide Try.prog W .any base t v := hval0
  have hW' := hW
  obtain ⟨p, q, hA0, hV, rfl, hfz, hnd⟩ := hW
  have hA : DataW.TrodAll enc Try.prog W 0 (fun _ => true) true Try.f3.params.toList args.toList ds p := hA0
  rw [Try.params3] at hA hval
  obtain ⟨v0, vs0, d0, ds0, p0, q0, hargs, rfl, rfl, h0, r0⟩ := trodAll_cons hA
  obtain ⟨v1, vs1, d1, ds1, p1, q1, rfl, rfl, rfl, h1, r1⟩ := trodAll_cons r0
  obtain ⟨rfl, rfl, rfl⟩ := trodAll_nil r1
  obtain rfl : args = #[v0, v1] := by cases args; simp_all
  obtain ⟨rfl, rfl⟩ := trodVars_none hV
  obtain ⟨a0, rfl, rfl, rfl, w0⟩ := open_int Try.underlying21 (hval 0 21 v0 rfl rfl) h0
  obtain ⟨a1, rfl, rfl, rfl⟩ := open_bool Try.underlying4 (hval 1 4 v1 rfl rfl) h1
  clear hA0 hval0
  simp only [List.append_nil] at hW'
  refine (walk a0 a1 w0 W).mono fun e W' ⟨he, hg⟩ => ?_
  subst he
  exact ⟨_, rfl, post_of_same (pa := []) (pv := []) hW' (fun _ _ _ => (trodAll_cons_mk (shut_bool Try.underlying4 _) trodAll_mk0)) (fun sp _ => (trodAll_cons_mk (shut_int Try.underlying21 w0) (trodAll_cons_mk (shut_bool Try.underlying4 _) trodAll_mk0))) (fun _ _ => rfl) rfl
    (hg.frame _) hg.2.1 (ok_one (by kernel_rfl) rfl (okWide_bool_mk Try.underlying4 _))⟩

theorem over : Rows.fnIsNameRuneMatchesGapTableRow.holds Try.pinned (OpenSpec.ofChange Rows.fnIsNameRuneMatchesGapTableSpec) :=
  OpenClaim.holds_of_wide 3 Try.f3 rfl rfl rfl rfl rfl rfl rfl ⟨rfl, rfl, rfl, rfl, rfl⟩ rfl rfl rfl rfl rfl (by kernel_rfl) Try.func3 (by kernel_rfl)
    (of_decide_eq_true (by kernel_rfl)) (by unfold Func.isWrapper; first | (rw [if_pos (by decide +kernel)]; kernel_rfl) | (rw [if_neg (by decide +kernel)]; exact ⟨rfl, rfl⟩))
    (fun os started H enc _ => lifted os started H enc)

/-- ████ THE STATEMENT ████ -/
theorem proved : Rows.FnIsNameRuneMatchesGapTableSaid :=
  over
end Go.Proofs.Qxb6602134a.fnIsNameRuneMatchesGapTable
