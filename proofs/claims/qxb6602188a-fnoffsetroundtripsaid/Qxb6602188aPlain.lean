/-
  THE PLAIN SIDE OF 'fraction': no Go in sight.
-/
namespace Go.Proofs.Qxb6602188a.pl

/-- the value of byte m of D as a digit; 0 behind the end -/
def dv (D : ByteArray) (m : Nat) : Int := if h : m < D.size then (D[m].toNat : Int) - 48 else 0
def usTo (D : ByteArray) : Nat → Int
  | 0 => 0
  | m + 1 => usTo D m * 10 + dv D m
def usD (D : ByteArray) : Int := if 5 ≤ dv D 6 then usTo D 6 + 1 else usTo D 6

/-- all bytes are digits -/
def Dig (D : ByteArray) : Prop := ∀ m, (h : m < D.size) → 48 ≤ (D[m].toNat : Int) ∧ (D[m].toNat : Int) ≤ 57

theorem dv_in (D : ByteArray) (m : Nat) (h : m < D.size) : dv D m = (D[m].toNat : Int) - 48 := by unfold dv; rw [dif_pos h]
theorem dv_out (D : ByteArray) (m : Nat) (h : ¬ m < D.size) : dv D m = 0 := by unfold dv; rw [dif_neg h]
theorem dv_bd {D : ByteArray} (hD : Dig D) (m : Nat) : 0 ≤ dv D m ∧ dv D m ≤ 9 := by
  by_cases h : m < D.size
  · rw [dv_in D m h]; have := hD m h; omega
  · rw [dv_out D m h]; omega
theorem usTo_bd {D : ByteArray} (hD : Dig D) (m : Nat) (hm : m ≤ 6) : 0 ≤ usTo D m ∧ usTo D m ≤ 999999 := by
  have b0 := dv_bd hD 0
  have b1 := dv_bd hD 1
  have b2 := dv_bd hD 2
  have b3 := dv_bd hD 3
  have b4 := dv_bd hD 4
  have b5 := dv_bd hD 5
  match m, hm with
  | 0, _ => simp [usTo]
  | 1, _ => simp [usTo]; omega
  | 2, _ => simp [usTo]; omega
  | 3, _ => simp [usTo]; omega
  | 4, _ => simp [usTo]; omega
  | 5, _ => simp [usTo]; omega
  | 6, _ => simp [usTo]; omega
  | n + 7, h => exact absurd h (by omega)
theorem usTo_congr {D E : ByteArray} (h : ∀ m, dv D m = dv E m) : ∀ m, usTo D m = usTo E m
  | 0 => rfl
  | m + 1 => by simp only [usTo]; rw [usTo_congr h m, h m]
theorem usD_congr {D E : ByteArray} (h : ∀ m, dv D m = dv E m) : usD D = usD E := by
  unfold usD; rw [h 6, usTo_congr h 6]
theorem usD_zero {D : ByteArray} (h : ∀ m, dv D m = 0) : usD D = 0 := by
  unfold usD; rw [h 6]; simp [usTo, h]
end Go.Proofs.Qxb6602188a.pl
