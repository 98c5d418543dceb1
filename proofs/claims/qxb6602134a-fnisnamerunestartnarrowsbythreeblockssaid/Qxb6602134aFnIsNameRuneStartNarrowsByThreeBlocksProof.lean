/-
  'Rows.FnIsNameRuneStartNarrowsByThreeBlocksSaid': the shell's frame (the given tool's), the walk filled in over the contract of 'isNameRune' (Qxb6602134aNameWalk).
-/
import Derived.Test.Qxb6602134aRows
import Derived.WalkKit
import Derived.ProofKit
import Derived.OpenShut
import Derived.ShutString
import Derived.Test.Qxb6602134aNameWalk
namespace Go.Proofs.Qxb6602134a.fnIsNameRuneStartNarrowsByThreeBlocks
open Go.ChangeShapes Go.WideShapes Go.ChangeAt Go.RowKit
open Go.ChangeMaps (open_string shut_string)
set_option linter.unusedVariables false      -- a walk need not use every 'w<i>' (that an integer argument fits its kind)

theorem own : ownKnob Try.prog.godebug = none := by kernel_rfl

/-! ### THE WALK -/
theorem zz (r : Int) (st : Bool) (w : World) :
    Calls Try.prog 6 #[.int .i32 r, .bool st] w fun e w' => e = .returned (.bool (nm.nmB r st)) ∧ w' = w := by
  go_enter Try.func6, Try.ntmps6
  go_wp2_with (go_at_call 11; refine (nm.name_any _ _ _).mono ?_; rintro e w' ⟨rfl, rfl⟩)
  go_ret
  exact ⟨rfl, rfl⟩

theorem walk (a0 : Int) (w0 : (Lit.int .i32 a0).wf = true) (w : World) :
    Calls Try.prog 4 #[.int .i32 a0] w fun e w' => e = .returned (.bool true) ∧ Grown w w' := by
  by_cases c1 : a0 = 183
  · subst c1
    have hs : nm.nmB 183 true = false := by decide
    have hc : nm.nmB 183 false = true := by decide
    clear w0
    go_enter Try.func4, Try.ntmps4
    go_wp2_with (go_at_call 6; refine (zz _ _ _).mono ?_; rintro e w' ⟨rfl, rfl⟩)
    go_ret
    exact ⟨rfl, by repeat (first | exact Grown.refl _ | apply Grown.drew | apply Grown.alloc)⟩
  by_cases c2 : (768 ≤ a0 ∧ a0 ≤ 879) ∨ (8255 ≤ a0 ∧ a0 ≤ 8256)
  · have hs : nm.nmB a0 true = false := by simp [nm.nmB]; omega
    have hc : nm.nmB a0 false = true := by simp [nm.nmB]; omega
    have e0 : (a0 == 183) = false := by simp; omega
    rcases c2 with ⟨x, y⟩ | ⟨x, y⟩
    · have e1 : decide (768 ≤ a0) = true := by simp; omega
      have e2 : decide (a0 ≤ 879) = true := by simp; omega
      clear w0 c1 x y
      go_enter Try.func4, Try.ntmps4
      go_wp2_with (go_at_call 6; refine (zz _ _ _).mono ?_; rintro e w' ⟨rfl, rfl⟩)
      go_ret
      exact ⟨rfl, by repeat (first | exact Grown.refl _ | apply Grown.drew | apply Grown.alloc)⟩
    · have e1 : decide (768 ≤ a0) = true := by simp; omega
      have e2 : decide (a0 ≤ 879) = false := by simp; omega
      have e3 : decide (8255 ≤ a0) = true := by simp; omega
      have e4 : decide (a0 ≤ 8256) = true := by simp; omega
      clear w0 c1 x y
      go_enter Try.func4, Try.ntmps4
      go_wp2_with (go_at_call 6; refine (zz _ _ _).mono ?_; rintro e w' ⟨rfl, rfl⟩)
      go_ret
      exact ⟨rfl, by repeat (first | exact Grown.refl _ | apply Grown.drew | apply Grown.alloc)⟩
  · have e0 : (a0 == 183) = false := by simp; omega
    have hsc : nm.nmB a0 false = nm.nmB a0 true := by simp [nm.nmB]; omega
    have key : ∀ b, nm.nmB a0 true = b → nm.nmB a0 false = b → ∀ (b1 b2 b3 b4 : Bool), decide (768 ≤ a0) = b1 → decide (a0 ≤ 879) = b2 → decide (8255 ≤ a0) = b3 → decide (a0 ≤ 8256) = b4 → (b1 = true → b2 = false) → (b3 = true → b4 = false) →
        Calls Try.prog 4 #[.int .i32 a0] w fun e w' => e = .returned (.bool true) ∧ Grown w w' := by
      intro b hs hc b1 b2 b3 b4 e1 e2 e3 e4 x1 x2
      clear w0 c1 c2 hsc
      cases b <;> cases b1 <;> cases b3
      all_goals first | (simp at x1; subst x1) | clear x1
      all_goals first | (simp at x2; subst x2) | clear x2
      all_goals
        go_enter Try.func4, Try.ntmps4
        go_wp2_with (go_at_call 6; refine (zz _ _ _).mono ?_; rintro e w' ⟨rfl, rfl⟩)
        go_ret
        exact ⟨rfl, by repeat (first | exact Grown.refl _ | apply Grown.drew | apply Grown.alloc)⟩
    exact key _ rfl hsc _ _ _ _ rfl rfl rfl rfl (by simp; omega) (by simp; omega)

/-! ### THE ROW's STEP: WRITTEN OUT: LEAVE IT -/
set_option maxRecDepth 100000 in
theorem lifted (os : Os) (started : os.Started) (H : Type) (enc : TypeId × Value → H) :
    ReturnsInHanded {} Try.checked os 4 .any (Rows.fnIsNameRuneStartNarrowsByThreeBlocksSpec.pre6 enc Try.prog Try.f4 Rows.fnIsNameRuneStartNarrowsByThreeBlocksRow.domain false) (Rows.fnIsNameRuneStartNarrowsByThreeBlocksSpec.post enc Try.prog Try.f4 false true false false) := by
  refine returnsInHanded_of_change (C := Try.checked) own started (by kernel_rfl) Try.func4
    (ChangeSpec.witness6 (enc := enc) (C := Try.checked) false ⟨#[], #[.int .i32 0], []⟩ 8 (by kernel_rfl) (by kernel_rfl) (by kernel_rfl) (by kernel_rfl)) ?_
  intro W base args ds gs before hval0 hW hcnd _
  have hval : ∀ (j : Nat) t v, Try.f4.params[j]? = some t → args[j]? = some v → Value.okWide Try.prog W .any base t v := hval0
  have hW' := hW
  obtain ⟨p, q, hA0, hV, rfl, hfz, hnd⟩ := hW
  have hA : DataW.TrodAll enc Try.prog W 0 (fun _ => true) true Try.f4.params.toList args.toList ds p := hA0
  rw [Try.params4] at hA hval
  obtain ⟨v0, vs0, d0, ds0, p0, q0, hargs, rfl, rfl, h0, r0⟩ := trodAll_cons hA
  obtain ⟨rfl, rfl, rfl⟩ := trodAll_nil r0
  obtain rfl : args = #[v0] := by cases args; simp_all
  obtain ⟨rfl, rfl⟩ := trodVars_none hV
  obtain ⟨a0, rfl, rfl, rfl, w0⟩ := open_int Try.underlying21 (hval 0 21 v0 rfl rfl) h0
  clear hA0 hval0
  simp only [List.append_nil] at hW'
  refine (walk a0 w0 W).mono fun e W' ⟨he, hg⟩ => ?_
  subst he
  exact ⟨_, rfl, post_of_same (pa := []) (pv := []) hW' (fun _ _ _ => (trodAll_cons_mk (shut_bool Try.underlying4 _) trodAll_mk0)) (fun sp _ => (trodAll_cons_mk (shut_int Try.underlying21 w0) trodAll_mk0)) (fun _ _ => rfl) rfl
    (hg.frame _) hg.2.1 (ok_one (by kernel_rfl) rfl (okWide_bool_mk Try.underlying4 _))⟩

theorem over : Rows.fnIsNameRuneStartNarrowsByThreeBlocksRow.holds Try.pinned (OpenSpec.ofChange Rows.fnIsNameRuneStartNarrowsByThreeBlocksSpec) :=
  OpenClaim.holds_of_wide 4 Try.f4 rfl rfl rfl rfl rfl rfl rfl ⟨rfl, rfl, rfl, rfl, rfl⟩ rfl rfl rfl rfl rfl (by kernel_rfl) Try.func4 (by kernel_rfl)
    (of_decide_eq_true (by kernel_rfl)) (by unfold Func.isWrapper; first | (rw [if_pos (by decide +kernel)]; kernel_rfl) | (rw [if_neg (by decide +kernel)]; exact ⟨rfl, rfl⟩))
    (fun os started H enc _ => lifted os started H enc)

/-- ████ THE STATEMENT ████ -/
theorem proved : Rows.FnIsNameRuneStartNarrowsByThreeBlocksSaid :=
  over
end Go.Proofs.Qxb6602134a.fnIsNameRuneStartNarrowsByThreeBlocks
