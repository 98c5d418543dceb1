import Derived.Test.Qxb6602187aRows
import Derived.WalkKit
import Derived.ProofKit
import Derived.Below
/-
  THE TOKENS AS THEY CAME IN, and the two functions that only count them ('zzBytes_..', function 5; 'b1Bytes', function 6).
-/
namespace Go.Proofs.Qxb6602187a.tk
open Go.ChangeShapes Go.WideShapes Go.ChangeAt Go.RowKit

/-- a row of len tokens of five cells each, from (b, off) on -/
structure Toks (W : World) (b off len : Nat) (K : Nat → Int) (Q : Nat → Bool) (X : Nat → ByteArray) (A E : Nat → Int) : Prop where
  lt : b < W.heap.size
  kd : ∀ i, i < len → W.cell? ⟨b, off + i * 5, none⟩ = some (.int .u8 (K i))
  ql : ∀ i, i < len → W.cell? ⟨b, off + i * 5 + 1, none⟩ = some (.bool (Q i))
  tx : ∀ i, i < len → W.cell? ⟨b, off + i * 5 + 2, none⟩ = some (.string (X i))
  pl : ∀ i, i < len → W.cell? ⟨b, off + i * 5 + 3, none⟩ = some (.int .i64 (A i))
  en : ∀ i, i < len → W.cell? ⟨b, off + i * 5 + 4, none⟩ = some (.int .i64 (E i))
  sz : ∀ i, i < len → (X i).size ≤ 9223372036854775807

/-- it returns some Bool -/
def IsB (e : Ending) : Prop := ∃ r : Bool, e = .returned (.bool r)
theorem isB (r : Bool) : IsB (.returned (.bool r)) := ⟨r, rfl⟩
/-- it returns some int -/
def IsI (e : Ending) : Prop := ∃ r : Int, e = .returned (.int .i64 r)
theorem isI (r : Int) : IsI (.returned (.int .i64 r)) := ⟨r, rfl⟩

set_option maxHeartbeats 400000 in
theorem zz_any (w : World) (b off len cap : Nat) (K : Nat → Int) (Q : Nat → Bool) (X : Nat → ByteArray) (A E : Nat → Int) (i j k l : Value) (ht : Toks w b off len K Q X A E) (hl : len ≤ 9223372036854775807) :
    Calls Try.prog 5 #[.slice (some ⟨b, off, none⟩) len cap, i, j, k, l] w fun e w' => IsB e ∧ w' = w := by
  by_cases h1 : 1048576 < len
  · go_enter Try.func5, Try.ntmps5
    go_wp2
    go_ret
    exact ⟨isB _, rfl⟩
  · go_enter Try.func5, Try.ntmps5
    go_wp2
    go_loop [11, 12] (fun n x => ∃ (m : Nat) (N : Int), m ≤ len ∧ 0 ≤ N ∧ N ≤ 1048576 ∧ x = .int .i64 m ∧ n = .int .i64 N) (fun _ x => len - (intOf x).toNat)
    case atStart => exact ⟨0, len, by omega, by omega, by omega, rfl, rfl⟩
    case round =>
      obtain ⟨m, N, hm, hN0, hN1, rfl, rfl⟩ := hrel
      by_cases hlt : m < len
      · have c2 := ht.tx m hlt
        have z2 := ht.sz m hlt
        generalize X m = s at c2 z2
        clear ht
        have q0 : (m : Int) < (len : Int) := by omega
        by_cases g1 : 1048576 < s.size
        · go_wp2
          go_ret
          exact ⟨isB _, rfl⟩
        · by_cases g2 : 1048576 < N + s.size
          · go_wp2
            go_ret
            exact ⟨isB _, rfl⟩
          · go_wp2
            go_round
            case rel => exact ⟨m + 1, N + s.size, by omega, by omega, by omega, by go_num, rfl⟩
            case measure => simp [intOf]; omega
      · have q0 : ¬ (m : Int) < (len : Int) := by omega
        go_wp2
        go_ret
        exact ⟨isB _, rfl⟩

set_option maxHeartbeats 400000 in
theorem bytes_any (w : World) (b off len cap : Nat) (K : Nat → Int) (Q : Nat → Bool) (X : Nat → ByteArray) (A E : Nat → Int) (ht : Toks w b off len K Q X A E) (hl : len ≤ 65536) :
    Calls Try.prog 6 #[.slice (some ⟨b, off, none⟩) len cap] w fun e w' => IsI e ∧ w' = w := by
  go_enter Try.func6, Try.ntmps6
  go_wp2
  go_loop [3, 4] (fun n x => ∃ (m : Nat) (N : Int), m ≤ len ∧ 0 ≤ N ∧ N ≤ 1048576 ∧ x = .int .i64 m ∧ n = .int .i64 N) (fun _ x => len - (intOf x).toNat)
  case atStart => exact ⟨0, 0, by omega, by omega, by omega, rfl, rfl⟩
  case round =>
    obtain ⟨m, N, hm, hN0, hN1, rfl, rfl⟩ := hrel
    by_cases hlt : m < len
    · have c2 := ht.tx m hlt
      have z2 := ht.sz m hlt
      generalize X m = s at c2 z2
      clear ht
      have q0 : (m : Int) < (len : Int) := by omega
      by_cases g1 : 1048576 < s.size
      · go_wp2
        go_ret
        exact ⟨isI _, rfl⟩
      · by_cases g2 : 1048576 < N + (40 + s.size)
        · go_wp2
          go_ret
          exact ⟨isI _, rfl⟩
        · go_wp2
          go_round
          case rel => exact ⟨m + 1, N + (40 + s.size), by omega, by omega, by omega, by go_num, rfl⟩
          case measure => simp [intOf]; omega
    · have q0 : ¬ (m : Int) < (len : Int) := by omega
      go_wp2
      go_ret
      exact ⟨isI _, rfl⟩
end Go.Proofs.Qxb6602187a.tk
