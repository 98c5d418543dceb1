import Derived.Test.Qxb6602188aOff
import Derived.Test.Qxb6602188aBuf
/-
  THE TEXT THAT THE LAW WRITES, read back: 'Head', 'NoMin', 'Min' of it. No Go in sight.
-/
namespace Go.Proofs.Qxb6602188a.tx
open bf nu

def Byte (x : Int) : Prop := 0 ≤ x ∧ x ≤ 255

/-- of a text 'pre ++ mid': place pre.length + m reads mid's place m -/
theorem at_mid {pre mid : List Int} (hp : ∀ x ∈ pre, 0 ≤ x ∧ x ≤ 255) (hm : ∀ x ∈ mid, 0 ≤ x ∧ x ≤ 255) (m : Nat) (h : pre.length + m < (txt (pre ++ mid)).size) :
    ((txt (pre ++ mid))[pre.length + m].toNat : Int) = mid.getD m 0 := by
  rw [txt_get _ (by intro x hx; rcases List.mem_append.1 hx with hx | hx; exact hp x hx; exact hm x hx)]
  rw [List.getD_eq_getElem?_getD, List.getD_eq_getElem?_getD, List.getElem?_append_right (by omega), Nat.add_sub_cancel_left]

theorem dv_mid {pre mid : List Int} (hp : ∀ x ∈ pre, 0 ≤ x ∧ x ≤ 255) (hm : ∀ x ∈ mid, 0 ≤ x ∧ x ≤ 255) (m : Nat) (h : m < mid.length) :
    pl.dv (txt (pre ++ mid)) (pre.length + m) = mid.getD m 0 - 48 := by
  have hs : pre.length + m < (txt (pre ++ mid)).size := by rw [txt_size, List.length_append]; omega
  rw [pl.dv_in _ _ hs, at_mid hp hm m hs]

/-- the sign, then one digit or two -/
def hourCells (one : Bool) (H : Int) : List Int := if one then [48 + H] else [48 + H / 10, 48 + H % 10]
def signCell (neg : Bool) : Int := if neg then 45 else 43

theorem head_of (pre rest : List Int) (neg one : Bool) (H : Int) (hp : ∀ x ∈ pre, 0 ≤ x ∧ x ≤ 255) (hr : ∀ x ∈ rest, 0 ≤ x ∧ x ≤ 255) (h0 : 0 ≤ H) (h1 : H ≤ 15) (h9 : one = true → H ≤ 9)
    (hsz : pre.length + rest.length ≤ 1048600) (hstop : one = true → ∀ y, rest.head? = some y → ¬ (48 ≤ y ∧ y ≤ 57)) :
    Head (txt (pre ++ (signCell neg :: hourCells one H ++ rest))) pre.length (pre.length + 1 + (hourCells one H).length) neg H := by
  have hs : ∀ x ∈ (signCell neg :: hourCells one H ++ rest), 0 ≤ x ∧ x ≤ 255 := by
    intro x hx
    have : x = signCell neg ∨ x ∈ hourCells one H ∨ x ∈ rest := by simpa [or_assoc] using hx
    rcases this with rfl | hx | hx
    · cases neg <;> simp [signCell]
    · cases one <;> simp [hourCells] at hx <;> omega
    · exact hr x hx
  have hl : (hourCells one H).length = 1 ∨ (hourCells one H).length = 2 := by cases one <;> simp [hourCells]
  have hz : (txt (pre ++ (signCell neg :: hourCells one H ++ rest))).size = pre.length + (1 + (hourCells one H).length + rest.length) := by
    rw [txt_size]; simp only [List.length_append, List.length_cons]; omega
  have g0 : ∀ h : pre.length < (txt (pre ++ (signCell neg :: hourCells one H ++ rest))).size, ((txt (pre ++ (signCell neg :: hourCells one H ++ rest)))[pre.length].toNat : Int) = signCell neg := by
    intro h
    have := at_mid hp hs 0 (by omega)
    simpa using this
  have gd : ∀ m, m < (hourCells one H).length → (signCell neg :: hourCells one H ++ rest).getD (1 + m) 0 = (hourCells one H).getD m 0 := by
    intro m hm
    rw [List.cons_append, Nat.add_comm 1 m, List.getD_cons_succ, List.getD_eq_getElem?_getD, List.getD_eq_getElem?_getD, List.getElem?_append_left hm]
  have db : ∀ m, m < (hourCells one H).length → 48 ≤ (hourCells one H).getD m 0 ∧ (hourCells one H).getD m 0 ≤ 57 := by
    intro m hm
    cases one
    · have : m = 0 ∨ m = 1 := by simp [hourCells] at hm; omega
      rcases this with rfl | rfl <;> simp [hourCells] <;> omega
    · have : m = 0 := by simp [hourCells] at hm; omega
      have := h9 rfl
      subst m; simp [hourCells]; omega
  refine ⟨by omega, by omega, by omega, by omega, ?_, ?_, ?_, ?_, ?_, h0, h1⟩
  · intro h; rw [g0 h]; cases neg <;> rfl
  · intro hn h; rw [g0 h, hn]; rfl
  · intro m h h2 h3
    obtain ⟨q, rfl⟩ : ∃ q, m = pre.length + (1 + q) := ⟨m - pre.length - 1, by omega⟩
    rw [at_mid hp hs (1 + q) h, gd q (by omega)]
    exact db q (by omega)
  · cases one
    · left; rfl
    · right
      intro h
      have e : pre.length + 1 + (hourCells true H).length = pre.length + 2 := rfl
      have hq := hstop rfl
      have e2 : (signCell neg :: hourCells true H ++ rest).getD 2 0 = rest.getD 0 0 := by simp [hourCells]
      have e3 : ((txt (pre ++ (signCell neg :: hourCells true H ++ rest)))[pre.length + 2]'(by omega)).toNat = (((txt (pre ++ (signCell neg :: hourCells true H ++ rest)))[pre.length + 1 + (hourCells true H).length]'h).toNat) := rfl
      have := at_mid hp hs 2 (by omega)
      rw [e2] at this
      rw [← e3, this]
      cases rest with
      | nil => simp [hourCells] at hz h; omega
      | cons y l => exact hq y rfl
  · cases one
    · have d0 := dv_mid hp hs 1 (by simp [hourCells])
      have d1 := dv_mid hp hs 2 (by simp [hourCells])
      have e : pre.length + 1 + (hourCells false H).length - (pre.length + 1) = 2 := by simp [hourCells]
      rw [e]
      simp only [vT]
      rw [Nat.add_zero, d0, show pre.length + 1 + 1 = pre.length + 2 from rfl, d1]
      simp [hourCells]
      omega
    · have d0 := dv_mid hp hs 1 (by simp [hourCells])
      have e : pre.length + 1 + (hourCells true H).length - (pre.length + 1) = 1 := by simp [hourCells]
      rw [e]
      simp only [vT]
      rw [Nat.add_zero, d0]
      simp [hourCells]
      omega

/-- no minutes, and what follows is no ':' -/
theorem nomin_of (pre rest : List Int) (hp : ∀ x ∈ pre, 0 ≤ x ∧ x ≤ 255) (hr : ∀ x ∈ rest, 0 ≤ x ∧ x ≤ 255) (hc : ∀ y, rest.head? = some y → (y == 58) = false) : NoMin (txt (pre ++ rest)) pre.length := by
  cases rest with
  | nil => left; rw [txt_size]; simp
  | cons y l =>
    right
    have hz : pre.length < (txt (pre ++ y :: l)).size := by rw [txt_size]; simp
    refine ⟨hz, ?_⟩
    have := at_mid hp hr 0 (by omega)
    have e : ((txt (pre ++ y :: l))[pre.length].toNat : Int) = y := by simpa using this
    rw [e]
    exact hc y rfl

theorem min_of (pre rest : List Int) (M : Int) (hp : ∀ x ∈ pre, 0 ≤ x ∧ x ≤ 255) (hr : ∀ x ∈ rest, 0 ≤ x ∧ x ≤ 255) (h0 : 0 ≤ M) (h1 : M ≤ 59) : Min (txt (pre ++ ([58, 48 + M / 10, 48 + M % 10] ++ rest))) pre.length M := by
  have hs : ∀ x ∈ ([58, 48 + M / 10, 48 + M % 10] ++ rest), 0 ≤ x ∧ x ≤ 255 := by
    intro x hx
    have : x = 58 ∨ x = 48 + M / 10 ∨ x = 48 + M % 10 ∨ x ∈ rest := by simpa using hx
    rcases this with rfl | rfl | rfl | hx
    · omega
    · omega
    · omega
    · exact hr x hx
  have hz : (txt (pre ++ ([58, 48 + M / 10, 48 + M % 10] ++ rest))).size = pre.length + (3 + rest.length) := by
    rw [txt_size]; simp only [List.length_append, List.length_cons, List.length_nil]
  refine ⟨by omega, ?_, ?_, ?_, h0, h1⟩
  · intro h
    have := at_mid hp hs 0 (by omega)
    have e : ((txt (pre ++ ([58, 48 + M / 10, 48 + M % 10] ++ rest)))[pre.length].toNat : Int) = 58 := by simpa using this
    rw [e]; rfl
  · intro m h h2 h3
    have : m = pre.length + 1 ∨ m = pre.length + 2 := by omega
    rcases this with rfl | rfl
    · rw [at_mid hp hs 1 h]; simp; omega
    · rw [at_mid hp hs 2 h]; simp; omega
  · have d0 := dv_mid hp hs 1 (by simp)
    have d1 := dv_mid hp hs 2 (by simp)
    have e : pre.length + 3 - (pre.length + 1) = 2 := by omega
    rw [e]
    simp only [vT]
    rw [Nat.add_zero, d0, show pre.length + 1 + 1 = pre.length + 2 from rfl, d1]
    simp
    omega
end Go.Proofs.Qxb6602188a.tx
