import Derived.Test.Qxb6602188aSc
import Derived.Test.Qxb6602188aPlain
import Derived.Deep.QuietTactic
import Derived.BigQuiet
import Derived.Deep.LoopGhost
import Derived.Deep.Light
import Derived.WalkSpells
namespace Go.Proofs.Qxb6602188a.fr
open Go.ChangeShapes Go.WideShapes Go.ChangeAt Go.RowKit
open sc

theorem way_out {s : ByteArray} {j : Nat} (he : (h : j < s.size) → ¬ (48 ≤ (s[j].toNat : Int) ∧ (s[j].toNat : Int) ≤ 57)) :
    (¬ j < s.size ∧ decide ((j : Int) < (s.size : Int)) = false) ∨ (∃ h : j < s.size, (j : Int) < (s.size : Int) ∧ decide (48 ≤ (s[j].toNat : Int)) = false) ∨
    (∃ h : j < s.size, (j : Int) < (s.size : Int) ∧ 48 ≤ (s[j].toNat : Int) ∧ decide ((s[j].toNat : Int) ≤ 57) = false) := by
  by_cases h : j < s.size
  · have hn := he h
    by_cases h1 : 48 ≤ (s[j].toNat : Int)
    · exact .inr (.inr ⟨h, by omega, h1, by simp; omega⟩)
    · exact .inr (.inl ⟨h, by omega, by simp; omega⟩)
  · exact .inl ⟨h, by simp; omega⟩

theorem dig_of {s : ByteArray} {i j : Nat} (hd : ∀ m, (h : m < s.size) → i ≤ m → m < j → 48 ≤ (s[m].toNat : Int) ∧ (s[m].toNat : Int) ≤ 57) (hj : j ≤ s.size) : pl.Dig (s.extract i j) := by
  intro m h
  have hm : i + m < j := by simp at h; omega
  have e : (s.extract i j)[m] = s[i + m]'(by omega) := by simp [ByteArray.getElem_extract]
  rw [e]
  exact hd (i + m) (by omega) (by omega) hm

theorem emp_false {D : ByteArray} (h : 0 < D.size) : D.toList.isEmpty = false := by
  rw [ByteArray.toList_eq]
  cases e : D.data.toList with
  | nil => have : D.data.size = 0 := by rw [← Array.length_toList, e]; rfl
           exact absurd h (by show ¬ 0 < D.data.size; omega)
  | cons x l => rfl

theorem ret_int {k : IntKind} {a b : Int} (h : a = b) : Ending.returned (.int k a) = .returned (.int k b) := by rw [h]

/-- the scanner stands at no digit -/
theorem frac_no (w0 w : World) (b : Nat) (s : ByteArray) (i : Nat) (f : Bool) (hsc : Sc w0 w b s i f) (hj : i ≤ s.size)
    (he : (h : i < s.size) → ¬ (48 ≤ (s[i].toNat : Int) ∧ (s[i].toNat : Int) ≤ 57)) :
    Calls Try.prog 10 #[.pointer (some ⟨b, 0, none⟩)] w fun e w' => e = .returned (.int .i64 0) ∧ Sc w0 w' b s i true := by
  have c0 := hsc.c0
  have c1 := hsc.c1
  have c2 := hsc.c2
  have z1 := hsc.z1
  have z2 := hsc.z2
  have hemp : (s.extract i i).toList.isEmpty = true := by simp
  have hw := way_out he
  clear he
  go_enter Try.func10, Try.ntmps10
  go_wp2
  refine wp_loop_rounds 1 ?_
  rw [rounds_succ]
  rcases hw with ⟨hsz, q0⟩ | ⟨hsz, q0, q1⟩ | ⟨hsz, q0, q1, q2⟩
  all_goals
    go_wp2
    go_quiet (fail)
    go_wp2
    go_quiet (fail)
    go_wp2
    go_ret
    exact ⟨rfl, (hsc.drewN _).setF _⟩

set_option maxHeartbeats 1000000 in
theorem frac_yes0 (w0 w : World) (b : Nat) (s : ByteArray) (i j : Nat) (f : Bool) (D : ByteArray) (HD : Hid (s.extract i j = D)) (hsc : Sc w0 w b s i f)
    (hs : s.size ≤ 2097152) (hij : i < j) (hj : j ≤ s.size)
    (hd : ∀ m, (h : m < s.size) → i ≤ m → m < j → 48 ≤ (s[m].toNat : Int) ∧ (s[m].toNat : Int) ≤ 57)
    (he : (h : j < s.size) → ¬ (48 ≤ (s[j].toNat : Int) ∧ (s[j].toNat : Int) ≤ 57)) :
    Calls Try.prog 10 #[.pointer (some ⟨b, 0, none⟩)] w fun e w' => e = .returned (.int .i64 (pl.usD D)) ∧ Sc w0 w' b s j f := by
  have hemp : (s.extract i j).toList.isEmpty = false := by
    exact emp_false (by simp; omega)
  have hDig : pl.Dig D := by have := dig_of hd hj; rwa [HD.out] at this
  have c1 := hsc.c1
  go_enter Try.func10, Try.ntmps10
  go_wp2
  go_loopg [] (j - i) (fun gk wr => ∃ k : Nat, i ≤ k ∧ k ≤ j ∧ gk = j - k ∧ Sc w0 wr b s k f)
  case atStart => exact ⟨i, Nat.le_refl _, by omega, rfl, hsc⟩
  case round =>
    clear c1 hsc
    obtain ⟨k, hik, hkj, rfl, hsc⟩ := hrel
    have c0 := hsc.c0
    have c1 := hsc.c1
    have c2 := hsc.c2
    have z1 := hsc.z1
    have z2 := hsc.z2
    by_cases hlt : k < j
    · have hk : k < s.size := by omega
      obtain ⟨d1, d2⟩ := hd k hk hik hlt
      clear hd he hemp hDig HD
      have q0 : (k : Int) < (s.size : Int) := by omega
      go_wp2
      go_quiet (fail)
      go_wp2
      go_roundg (j - (k + 1))
      case measure => omega
      case rel => exact ⟨k + 1, by omega, by omega, rfl, (hsc.drewN _).setI _⟩
    · obtain rfl : k = j := by omega
      have hw := way_out he
      clear he hd
      rcases hw with ⟨hsz, q0⟩ | ⟨hsz, q0, q1⟩ | ⟨hsz, q0, q1, q2⟩
      all_goals
        go_wp2
        go_quiet (fail)
        go_wp2
        go_quiet (fail)
        go_wp2
        rw [HD.out]
        clear hemp
        go_loop [5, 67] (fun u x => ∃ m : Nat, m ≤ 6 ∧ x = .int .i64 m ∧ u = .int .i64 (pl.usTo D m)) (fun _ x => 6 - (intOf x).toNat)
        case atStart => exact ⟨0, by omega, rfl, rfl⟩
        case round =>
          obtain ⟨m, hm, rfl, rfl⟩ := hrel
          have hub := pl.usTo_bd hDig m hm
          by_cases h6 : m < 6
          · by_cases hin : m < D.size
            · have hdg := hDig m hin
              have HE : Hid (pl.usTo D (m + 1) = pl.usTo D m * 10 + ((D[m].toNat : Int) - 48)) := by show pl.usTo D m * 10 + pl.dv D m = _; rw [pl.dv_in D m hin]
              clear hDig
              go_wp2
              go_round
              case rel => exact ⟨m + 1, by omega, by go_num, congrArg (Value.int IntKind.i64) (by rw [HE.out])⟩
              case measure => simp [intOf]; omega
            · have HE : Hid (pl.usTo D (m + 1) = pl.usTo D m * 10) := by show pl.usTo D m * 10 + pl.dv D m = _; rw [pl.dv_out D m hin]; omega
              clear hDig
              go_wp2
              go_round
              case rel => exact ⟨m + 1, by omega, by go_num, congrArg (Value.int IntKind.i64) (by rw [HE.out])⟩
              case measure => simp [intOf]; omega
          · obtain rfl : m = 6 := by omega
            by_cases hin : 6 < D.size
            · have hdg := hDig 6 hin
              by_cases h5 : 53 ≤ (D[6].toNat : Int)
              · have HE : Hid (pl.usD D = pl.usTo D 6 + 1) := by show pl.usD D = _; unfold pl.usD; rw [if_pos (by rw [pl.dv_in D 6 hin]; omega)]
                clear hDig
                go_wp2
                go_ret
                exact ⟨ret_int HE.out.symm, hsc.drewN _⟩
              · have HE : Hid (pl.usD D = pl.usTo D 6) := by show pl.usD D = _; unfold pl.usD; rw [if_neg (by rw [pl.dv_in D 6 hin]; omega)]
                clear hDig
                go_wp2
                go_ret
                exact ⟨ret_int HE.out.symm, hsc.drewN _⟩
            · have HE : Hid (pl.usD D = pl.usTo D 6) := by show pl.usD D = _; unfold pl.usD; rw [if_neg (by rw [pl.dv_out D 6 hin]; omega)]
              clear hDig
              go_wp2
              go_ret
              exact ⟨ret_int HE.out.symm, hsc.drewN _⟩

theorem frac_yes (w0 w : World) (b : Nat) (s : ByteArray) (i j : Nat) (f : Bool) (hsc : Sc w0 w b s i f)
    (hs : s.size ≤ 2097152) (hij : i < j) (hj : j ≤ s.size)
    (hd : ∀ m, (h : m < s.size) → i ≤ m → m < j → 48 ≤ (s[m].toNat : Int) ∧ (s[m].toNat : Int) ≤ 57)
    (he : (h : j < s.size) → ¬ (48 ≤ (s[j].toNat : Int) ∧ (s[j].toNat : Int) ≤ 57)) :
    Calls Try.prog 10 #[.pointer (some ⟨b, 0, none⟩)] w fun e w' => e = .returned (.int .i64 (pl.usD (s.extract i j))) ∧ Sc w0 w' b s j f :=
  frac_yes0 w0 w b s i j f (s.extract i j) (by show s.extract i j = s.extract i j; rfl) hsc hs hij hj hd he
end Go.Proofs.Qxb6602188a.fr
