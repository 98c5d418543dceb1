import Derived.Test.Qxb6602134aRows
import Derived.WalkKit
import Derived.ProofKit
import Derived.BigGuardPart
/-
  THE WALK OF 'input.isNameRune' (function 11), one small theorem for each stretch of the line of runes on which every test of the text is decided. Written by a script of mine (the stretches and the facts), checked by the kernel.
  'dsimp only [List.append]' behind 'go_enter': a region of more than 64 operations lies in the loaded program as two lists appended; the walk's quick steps look for one plain list.
-/
namespace Go.Proofs.Qxb6602134a.nm
open Go.ChangeShapes Go.WideShapes Go.ChangeAt Go.RowKit

set_option maxRecDepth 100000 in
set_option maxHeartbeats 400000 in
theorem s0 (r : Int) (w : World) (h2 : r ≤ 182) :
    Calls Try.prog 11 #[.int .i32 r, .bool true] w fun e w' => e = .returned (.bool false) ∧ w' = w := by
  have e0 : decide (192 ≤ r) = false := by simp; omega
  have e1 : decide (216 ≤ r) = false := by simp; omega
  have e2 : decide (248 ≤ r) = false := by simp; omega
  have e3 : decide (880 ≤ r) = false := by simp; omega
  have e4 : decide (895 ≤ r) = false := by simp; omega
  have e5 : decide (8204 ≤ r) = false := by simp; omega
  have e6 : decide (8304 ≤ r) = false := by simp; omega
  have e7 : decide (11264 ≤ r) = false := by simp; omega
  have e8 : decide (12289 ≤ r) = false := by simp; omega
  have e9 : decide (63744 ≤ r) = false := by simp; omega
  have e10 : decide (65008 ≤ r) = false := by simp; omega
  have e11 : decide (65536 ≤ r) = false := by simp; omega
  clear h2
  go_enter Try.func11, Try.ntmps11
  dsimp only [List.append]
  go_wp2
  go_ret
  exact ⟨rfl, rfl⟩

set_option maxRecDepth 100000 in
set_option maxHeartbeats 400000 in
theorem c0 (r : Int) (w : World) (h2 : r ≤ 182) :
    Calls Try.prog 11 #[.int .i32 r, .bool false] w fun e w' => e = .returned (.bool false) ∧ w' = w := by
  have e0 : decide (192 ≤ r) = false := by simp; omega
  have e1 : decide (216 ≤ r) = false := by simp; omega
  have e2 : decide (248 ≤ r) = false := by simp; omega
  have e3 : decide (880 ≤ r) = false := by simp; omega
  have e4 : decide (895 ≤ r) = false := by simp; omega
  have e5 : decide (8204 ≤ r) = false := by simp; omega
  have e6 : decide (8304 ≤ r) = false := by simp; omega
  have e7 : decide (11264 ≤ r) = false := by simp; omega
  have e8 : decide (12289 ≤ r) = false := by simp; omega
  have e9 : decide (63744 ≤ r) = false := by simp; omega
  have e10 : decide (65008 ≤ r) = false := by simp; omega
  have e11 : decide (65536 ≤ r) = false := by simp; omega
  have e12 : (r == 183) = false := by simp; omega
  have e13 : decide (768 ≤ r) = false := by simp; omega
  have e14 : decide (8255 ≤ r) = false := by simp; omega
  clear h2
  go_enter Try.func11, Try.ntmps11
  dsimp only [List.append]
  go_wp2
  go_ret
  exact ⟨rfl, rfl⟩

set_option maxRecDepth 100000 in
set_option maxHeartbeats 400000 in
theorem s1 (r : Int) (w : World) (h1 : 183 ≤ r) (h2 : r ≤ 183) :
    Calls Try.prog 11 #[.int .i32 r, .bool true] w fun e w' => e = .returned (.bool false) ∧ w' = w := by
  have e0 : decide (192 ≤ r) = false := by simp; omega
  have e1 : decide (216 ≤ r) = false := by simp; omega
  have e2 : decide (248 ≤ r) = false := by simp; omega
  have e3 : decide (880 ≤ r) = false := by simp; omega
  have e4 : decide (895 ≤ r) = false := by simp; omega
  have e5 : decide (8204 ≤ r) = false := by simp; omega
  have e6 : decide (8304 ≤ r) = false := by simp; omega
  have e7 : decide (11264 ≤ r) = false := by simp; omega
  have e8 : decide (12289 ≤ r) = false := by simp; omega
  have e9 : decide (63744 ≤ r) = false := by simp; omega
  have e10 : decide (65008 ≤ r) = false := by simp; omega
  have e11 : decide (65536 ≤ r) = false := by simp; omega
  clear h1 h2
  go_enter Try.func11, Try.ntmps11
  dsimp only [List.append]
  go_wp2
  go_ret
  exact ⟨rfl, rfl⟩

set_option maxRecDepth 100000 in
set_option maxHeartbeats 400000 in
theorem c1 (r : Int) (w : World) (h1 : 183 ≤ r) (h2 : r ≤ 183) :
    Calls Try.prog 11 #[.int .i32 r, .bool false] w fun e w' => e = .returned (.bool true) ∧ w' = w := by
  have e0 : decide (192 ≤ r) = false := by simp; omega
  have e1 : decide (216 ≤ r) = false := by simp; omega
  have e2 : decide (248 ≤ r) = false := by simp; omega
  have e3 : decide (880 ≤ r) = false := by simp; omega
  have e4 : decide (895 ≤ r) = false := by simp; omega
  have e5 : decide (8204 ≤ r) = false := by simp; omega
  have e6 : decide (8304 ≤ r) = false := by simp; omega
  have e7 : decide (11264 ≤ r) = false := by simp; omega
  have e8 : decide (12289 ≤ r) = false := by simp; omega
  have e9 : decide (63744 ≤ r) = false := by simp; omega
  have e10 : decide (65008 ≤ r) = false := by simp; omega
  have e11 : decide (65536 ≤ r) = false := by simp; omega
  have e12 : (r == 183) = true := by simp; omega
  clear h1 h2
  go_enter Try.func11, Try.ntmps11
  dsimp only [List.append]
  go_wp2
  go_ret
  exact ⟨rfl, rfl⟩

set_option maxRecDepth 100000 in
set_option maxHeartbeats 400000 in
theorem s2 (r : Int) (w : World) (h1 : 184 ≤ r) (h2 : r ≤ 191) :
    Calls Try.prog 11 #[.int .i32 r, .bool true] w fun e w' => e = .returned (.bool false) ∧ w' = w := by
  have e0 : decide (192 ≤ r) = false := by simp; omega
  have e1 : decide (216 ≤ r) = false := by simp; omega
  have e2 : decide (248 ≤ r) = false := by simp; omega
  have e3 : decide (880 ≤ r) = false := by simp; omega
  have e4 : decide (895 ≤ r) = false := by simp; omega
  have e5 : decide (8204 ≤ r) = false := by simp; omega
  have e6 : decide (8304 ≤ r) = false := by simp; omega
  have e7 : decide (11264 ≤ r) = false := by simp; omega
  have e8 : decide (12289 ≤ r) = false := by simp; omega
  have e9 : decide (63744 ≤ r) = false := by simp; omega
  have e10 : decide (65008 ≤ r) = false := by simp; omega
  have e11 : decide (65536 ≤ r) = false := by simp; omega
  clear h1 h2
  go_enter Try.func11, Try.ntmps11
  dsimp only [List.append]
  go_wp2
  go_ret
  exact ⟨rfl, rfl⟩

set_option maxRecDepth 100000 in
set_option maxHeartbeats 400000 in
theorem c2 (r : Int) (w : World) (h1 : 184 ≤ r) (h2 : r ≤ 191) :
    Calls Try.prog 11 #[.int .i32 r, .bool false] w fun e w' => e = .returned (.bool false) ∧ w' = w := by
  have e0 : decide (192 ≤ r) = false := by simp; omega
  have e1 : decide (216 ≤ r) = false := by simp; omega
  have e2 : decide (248 ≤ r) = false := by simp; omega
  have e3 : decide (880 ≤ r) = false := by simp; omega
  have e4 : decide (895 ≤ r) = false := by simp; omega
  have e5 : decide (8204 ≤ r) = false := by simp; omega
  have e6 : decide (8304 ≤ r) = false := by simp; omega
  have e7 : decide (11264 ≤ r) = false := by simp; omega
  have e8 : decide (12289 ≤ r) = false := by simp; omega
  have e9 : decide (63744 ≤ r) = false := by simp; omega
  have e10 : decide (65008 ≤ r) = false := by simp; omega
  have e11 : decide (65536 ≤ r) = false := by simp; omega
  have e12 : (r == 183) = false := by simp; omega
  have e13 : decide (768 ≤ r) = false := by simp; omega
  have e14 : decide (8255 ≤ r) = false := by simp; omega
  clear h1 h2
  go_enter Try.func11, Try.ntmps11
  dsimp only [List.append]
  go_wp2
  go_ret
  exact ⟨rfl, rfl⟩

set_option maxRecDepth 100000 in
set_option maxHeartbeats 400000 in
theorem y3 (r : Int) (st : Bool) (w : World) (h1 : 192 ≤ r) (h2 : r ≤ 214) :
    Calls Try.prog 11 #[.int .i32 r, .bool st] w fun e w' => e = .returned (.bool true) ∧ w' = w := by
  have e0 : decide (192 ≤ r) = true := by simp; omega
  have e1 : decide (r ≤ 214) = true := by simp; omega
  clear h1 h2
  go_enter Try.func11, Try.ntmps11
  dsimp only [List.append]
  go_wp2
  go_ret
  exact ⟨rfl, rfl⟩

set_option maxRecDepth 100000 in
set_option maxHeartbeats 400000 in
theorem s4 (r : Int) (w : World) (h1 : 215 ≤ r) (h2 : r ≤ 215) :
    Calls Try.prog 11 #[.int .i32 r, .bool true] w fun e w' => e = .returned (.bool false) ∧ w' = w := by
  have e0 : decide (192 ≤ r) = true := by simp; omega
  have e1 : decide (r ≤ 214) = false := by simp; omega
  have e2 : decide (216 ≤ r) = false := by simp; omega
  have e3 : decide (248 ≤ r) = false := by simp; omega
  have e4 : decide (880 ≤ r) = false := by simp; omega
  have e5 : decide (895 ≤ r) = false := by simp; omega
  have e6 : decide (8204 ≤ r) = false := by simp; omega
  have e7 : decide (8304 ≤ r) = false := by simp; omega
  have e8 : decide (11264 ≤ r) = false := by simp; omega
  have e9 : decide (12289 ≤ r) = false := by simp; omega
  have e10 : decide (63744 ≤ r) = false := by simp; omega
  have e11 : decide (65008 ≤ r) = false := by simp; omega
  have e12 : decide (65536 ≤ r) = false := by simp; omega
  clear h1 h2
  go_enter Try.func11, Try.ntmps11
  dsimp only [List.append]
  go_wp2
  go_ret
  exact ⟨rfl, rfl⟩

set_option maxRecDepth 100000 in
set_option maxHeartbeats 400000 in
theorem c4 (r : Int) (w : World) (h1 : 215 ≤ r) (h2 : r ≤ 215) :
    Calls Try.prog 11 #[.int .i32 r, .bool false] w fun e w' => e = .returned (.bool false) ∧ w' = w := by
  have e0 : decide (192 ≤ r) = true := by simp; omega
  have e1 : decide (r ≤ 214) = false := by simp; omega
  have e2 : decide (216 ≤ r) = false := by simp; omega
  have e3 : decide (248 ≤ r) = false := by simp; omega
  have e4 : decide (880 ≤ r) = false := by simp; omega
  have e5 : decide (895 ≤ r) = false := by simp; omega
  have e6 : decide (8204 ≤ r) = false := by simp; omega
  have e7 : decide (8304 ≤ r) = false := by simp; omega
  have e8 : decide (11264 ≤ r) = false := by simp; omega
  have e9 : decide (12289 ≤ r) = false := by simp; omega
  have e10 : decide (63744 ≤ r) = false := by simp; omega
  have e11 : decide (65008 ≤ r) = false := by simp; omega
  have e12 : decide (65536 ≤ r) = false := by simp; omega
  have e13 : (r == 183) = false := by simp; omega
  have e14 : decide (768 ≤ r) = false := by simp; omega
  have e15 : decide (8255 ≤ r) = false := by simp; omega
  clear h1 h2
  go_enter Try.func11, Try.ntmps11
  dsimp only [List.append]
  go_wp2
  go_ret
  exact ⟨rfl, rfl⟩

set_option maxRecDepth 100000 in
set_option maxHeartbeats 400000 in
theorem y5 (r : Int) (st : Bool) (w : World) (h1 : 216 ≤ r) (h2 : r ≤ 246) :
    Calls Try.prog 11 #[.int .i32 r, .bool st] w fun e w' => e = .returned (.bool true) ∧ w' = w := by
  have e0 : decide (192 ≤ r) = true := by simp; omega
  have e1 : decide (r ≤ 214) = false := by simp; omega
  have e2 : decide (216 ≤ r) = true := by simp; omega
  have e3 : decide (r ≤ 246) = true := by simp; omega
  clear h1 h2
  go_enter Try.func11, Try.ntmps11
  dsimp only [List.append]
  go_wp2
  go_ret
  exact ⟨rfl, rfl⟩

set_option maxRecDepth 100000 in
set_option maxHeartbeats 400000 in
theorem s6 (r : Int) (w : World) (h1 : 247 ≤ r) (h2 : r ≤ 247) :
    Calls Try.prog 11 #[.int .i32 r, .bool true] w fun e w' => e = .returned (.bool false) ∧ w' = w := by
  have e0 : decide (192 ≤ r) = true := by simp; omega
  have e1 : decide (r ≤ 214) = false := by simp; omega
  have e2 : decide (216 ≤ r) = true := by simp; omega
  have e3 : decide (r ≤ 246) = false := by simp; omega
  have e4 : decide (248 ≤ r) = false := by simp; omega
  have e5 : decide (880 ≤ r) = false := by simp; omega
  have e6 : decide (895 ≤ r) = false := by simp; omega
  have e7 : decide (8204 ≤ r) = false := by simp; omega
  have e8 : decide (8304 ≤ r) = false := by simp; omega
  have e9 : decide (11264 ≤ r) = false := by simp; omega
  have e10 : decide (12289 ≤ r) = false := by simp; omega
  have e11 : decide (63744 ≤ r) = false := by simp; omega
  have e12 : decide (65008 ≤ r) = false := by simp; omega
  have e13 : decide (65536 ≤ r) = false := by simp; omega
  clear h1 h2
  go_enter Try.func11, Try.ntmps11
  dsimp only [List.append]
  go_wp2
  go_ret
  exact ⟨rfl, rfl⟩

set_option maxRecDepth 100000 in
set_option maxHeartbeats 400000 in
theorem c6 (r : Int) (w : World) (h1 : 247 ≤ r) (h2 : r ≤ 247) :
    Calls Try.prog 11 #[.int .i32 r, .bool false] w fun e w' => e = .returned (.bool false) ∧ w' = w := by
  have e0 : decide (192 ≤ r) = true := by simp; omega
  have e1 : decide (r ≤ 214) = false := by simp; omega
  have e2 : decide (216 ≤ r) = true := by simp; omega
  have e3 : decide (r ≤ 246) = false := by simp; omega
  have e4 : decide (248 ≤ r) = false := by simp; omega
  have e5 : decide (880 ≤ r) = false := by simp; omega
  have e6 : decide (895 ≤ r) = false := by simp; omega
  have e7 : decide (8204 ≤ r) = false := by simp; omega
  have e8 : decide (8304 ≤ r) = false := by simp; omega
  have e9 : decide (11264 ≤ r) = false := by simp; omega
  have e10 : decide (12289 ≤ r) = false := by simp; omega
  have e11 : decide (63744 ≤ r) = false := by simp; omega
  have e12 : decide (65008 ≤ r) = false := by simp; omega
  have e13 : decide (65536 ≤ r) = false := by simp; omega
  have e14 : (r == 183) = false := by simp; omega
  have e15 : decide (768 ≤ r) = false := by simp; omega
  have e16 : decide (8255 ≤ r) = false := by simp; omega
  clear h1 h2
  go_enter Try.func11, Try.ntmps11
  dsimp only [List.append]
  go_wp2
  go_ret
  exact ⟨rfl, rfl⟩

set_option maxRecDepth 100000 in
set_option maxHeartbeats 400000 in
theorem y7 (r : Int) (st : Bool) (w : World) (h1 : 248 ≤ r) (h2 : r ≤ 767) :
    Calls Try.prog 11 #[.int .i32 r, .bool st] w fun e w' => e = .returned (.bool true) ∧ w' = w := by
  have e0 : decide (192 ≤ r) = true := by simp; omega
  have e1 : decide (r ≤ 214) = false := by simp; omega
  have e2 : decide (216 ≤ r) = true := by simp; omega
  have e3 : decide (r ≤ 246) = false := by simp; omega
  have e4 : decide (248 ≤ r) = true := by simp; omega
  have e5 : decide (r ≤ 767) = true := by simp; omega
  clear h1 h2
  go_enter Try.func11, Try.ntmps11
  dsimp only [List.append]
  go_wp2
  go_ret
  exact ⟨rfl, rfl⟩

set_option maxRecDepth 100000 in
set_option maxHeartbeats 400000 in
theorem s8 (r : Int) (w : World) (h1 : 768 ≤ r) (h2 : r ≤ 879) :
    Calls Try.prog 11 #[.int .i32 r, .bool true] w fun e w' => e = .returned (.bool false) ∧ w' = w := by
  have e0 : decide (192 ≤ r) = true := by simp; omega
  have e1 : decide (r ≤ 214) = false := by simp; omega
  have e2 : decide (216 ≤ r) = true := by simp; omega
  have e3 : decide (r ≤ 246) = false := by simp; omega
  have e4 : decide (248 ≤ r) = true := by simp; omega
  have e5 : decide (r ≤ 767) = false := by simp; omega
  have e6 : decide (880 ≤ r) = false := by simp; omega
  have e7 : decide (895 ≤ r) = false := by simp; omega
  have e8 : decide (8204 ≤ r) = false := by simp; omega
  have e9 : decide (8304 ≤ r) = false := by simp; omega
  have e10 : decide (11264 ≤ r) = false := by simp; omega
  have e11 : decide (12289 ≤ r) = false := by simp; omega
  have e12 : decide (63744 ≤ r) = false := by simp; omega
  have e13 : decide (65008 ≤ r) = false := by simp; omega
  have e14 : decide (65536 ≤ r) = false := by simp; omega
  clear h1 h2
  go_enter Try.func11, Try.ntmps11
  dsimp only [List.append]
  go_wp2
  go_ret
  exact ⟨rfl, rfl⟩

set_option maxRecDepth 100000 in
set_option maxHeartbeats 400000 in
theorem c8 (r : Int) (w : World) (h1 : 768 ≤ r) (h2 : r ≤ 879) :
    Calls Try.prog 11 #[.int .i32 r, .bool false] w fun e w' => e = .returned (.bool true) ∧ w' = w := by
  have e0 : decide (192 ≤ r) = true := by simp; omega
  have e1 : decide (r ≤ 214) = false := by simp; omega
  have e2 : decide (216 ≤ r) = true := by simp; omega
  have e3 : decide (r ≤ 246) = false := by simp; omega
  have e4 : decide (248 ≤ r) = true := by simp; omega
  have e5 : decide (r ≤ 767) = false := by simp; omega
  have e6 : decide (880 ≤ r) = false := by simp; omega
  have e7 : decide (895 ≤ r) = false := by simp; omega
  have e8 : decide (8204 ≤ r) = false := by simp; omega
  have e9 : decide (8304 ≤ r) = false := by simp; omega
  have e10 : decide (11264 ≤ r) = false := by simp; omega
  have e11 : decide (12289 ≤ r) = false := by simp; omega
  have e12 : decide (63744 ≤ r) = false := by simp; omega
  have e13 : decide (65008 ≤ r) = false := by simp; omega
  have e14 : decide (65536 ≤ r) = false := by simp; omega
  have e15 : (r == 183) = false := by simp; omega
  have e16 : decide (768 ≤ r) = true := by simp; omega
  have e17 : decide (r ≤ 879) = true := by simp; omega
  clear h1 h2
  go_enter Try.func11, Try.ntmps11
  dsimp only [List.append]
  go_wp2
  go_ret
  exact ⟨rfl, rfl⟩

set_option maxRecDepth 100000 in
set_option maxHeartbeats 400000 in
theorem y9 (r : Int) (st : Bool) (w : World) (h1 : 880 ≤ r) (h2 : r ≤ 893) :
    Calls Try.prog 11 #[.int .i32 r, .bool st] w fun e w' => e = .returned (.bool true) ∧ w' = w := by
  have e0 : decide (192 ≤ r) = true := by simp; omega
  have e1 : decide (r ≤ 214) = false := by simp; omega
  have e2 : decide (216 ≤ r) = true := by simp; omega
  have e3 : decide (r ≤ 246) = false := by simp; omega
  have e4 : decide (248 ≤ r) = true := by simp; omega
  have e5 : decide (r ≤ 767) = false := by simp; omega
  have e6 : decide (880 ≤ r) = true := by simp; omega
  have e7 : decide (r ≤ 893) = true := by simp; omega
  clear h1 h2
  go_enter Try.func11, Try.ntmps11
  dsimp only [List.append]
  go_wp2
  go_ret
  exact ⟨rfl, rfl⟩

set_option maxRecDepth 100000 in
set_option maxHeartbeats 400000 in
theorem s10 (r : Int) (w : World) (h1 : 894 ≤ r) (h2 : r ≤ 894) :
    Calls Try.prog 11 #[.int .i32 r, .bool true] w fun e w' => e = .returned (.bool false) ∧ w' = w := by
  have e0 : decide (192 ≤ r) = true := by simp; omega
  have e1 : decide (r ≤ 214) = false := by simp; omega
  have e2 : decide (216 ≤ r) = true := by simp; omega
  have e3 : decide (r ≤ 246) = false := by simp; omega
  have e4 : decide (248 ≤ r) = true := by simp; omega
  have e5 : decide (r ≤ 767) = false := by simp; omega
  have e6 : decide (880 ≤ r) = true := by simp; omega
  have e7 : decide (r ≤ 893) = false := by simp; omega
  have e8 : decide (895 ≤ r) = false := by simp; omega
  have e9 : decide (8204 ≤ r) = false := by simp; omega
  have e10 : decide (8304 ≤ r) = false := by simp; omega
  have e11 : decide (11264 ≤ r) = false := by simp; omega
  have e12 : decide (12289 ≤ r) = false := by simp; omega
  have e13 : decide (63744 ≤ r) = false := by simp; omega
  have e14 : decide (65008 ≤ r) = false := by simp; omega
  have e15 : decide (65536 ≤ r) = false := by simp; omega
  clear h1 h2
  go_enter Try.func11, Try.ntmps11
  dsimp only [List.append]
  go_wp2
  go_ret
  exact ⟨rfl, rfl⟩

set_option maxRecDepth 100000 in
set_option maxHeartbeats 400000 in
theorem c10 (r : Int) (w : World) (h1 : 894 ≤ r) (h2 : r ≤ 894) :
    Calls Try.prog 11 #[.int .i32 r, .bool false] w fun e w' => e = .returned (.bool false) ∧ w' = w := by
  have e0 : decide (192 ≤ r) = true := by simp; omega
  have e1 : decide (r ≤ 214) = false := by simp; omega
  have e2 : decide (216 ≤ r) = true := by simp; omega
  have e3 : decide (r ≤ 246) = false := by simp; omega
  have e4 : decide (248 ≤ r) = true := by simp; omega
  have e5 : decide (r ≤ 767) = false := by simp; omega
  have e6 : decide (880 ≤ r) = true := by simp; omega
  have e7 : decide (r ≤ 893) = false := by simp; omega
  have e8 : decide (895 ≤ r) = false := by simp; omega
  have e9 : decide (8204 ≤ r) = false := by simp; omega
  have e10 : decide (8304 ≤ r) = false := by simp; omega
  have e11 : decide (11264 ≤ r) = false := by simp; omega
  have e12 : decide (12289 ≤ r) = false := by simp; omega
  have e13 : decide (63744 ≤ r) = false := by simp; omega
  have e14 : decide (65008 ≤ r) = false := by simp; omega
  have e15 : decide (65536 ≤ r) = false := by simp; omega
  have e16 : (r == 183) = false := by simp; omega
  have e17 : decide (768 ≤ r) = true := by simp; omega
  have e18 : decide (r ≤ 879) = false := by simp; omega
  have e19 : decide (8255 ≤ r) = false := by simp; omega
  clear h1 h2
  go_enter Try.func11, Try.ntmps11
  dsimp only [List.append]
  go_wp2
  go_ret
  exact ⟨rfl, rfl⟩

set_option maxRecDepth 100000 in
set_option maxHeartbeats 400000 in
theorem y11 (r : Int) (st : Bool) (w : World) (h1 : 895 ≤ r) (h2 : r ≤ 8191) :
    Calls Try.prog 11 #[.int .i32 r, .bool st] w fun e w' => e = .returned (.bool true) ∧ w' = w := by
  have e0 : decide (192 ≤ r) = true := by simp; omega
  have e1 : decide (r ≤ 214) = false := by simp; omega
  have e2 : decide (216 ≤ r) = true := by simp; omega
  have e3 : decide (r ≤ 246) = false := by simp; omega
  have e4 : decide (248 ≤ r) = true := by simp; omega
  have e5 : decide (r ≤ 767) = false := by simp; omega
  have e6 : decide (880 ≤ r) = true := by simp; omega
  have e7 : decide (r ≤ 893) = false := by simp; omega
  have e8 : decide (895 ≤ r) = true := by simp; omega
  have e9 : decide (r ≤ 8191) = true := by simp; omega
  clear h1 h2
  go_enter Try.func11, Try.ntmps11
  dsimp only [List.append]
  go_wp2
  go_ret
  exact ⟨rfl, rfl⟩

set_option maxRecDepth 100000 in
set_option maxHeartbeats 400000 in
theorem s12 (r : Int) (w : World) (h1 : 8192 ≤ r) (h2 : r ≤ 8203) :
    Calls Try.prog 11 #[.int .i32 r, .bool true] w fun e w' => e = .returned (.bool false) ∧ w' = w := by
  have e0 : decide (192 ≤ r) = true := by simp; omega
  have e1 : decide (r ≤ 214) = false := by simp; omega
  have e2 : decide (216 ≤ r) = true := by simp; omega
  have e3 : decide (r ≤ 246) = false := by simp; omega
  have e4 : decide (248 ≤ r) = true := by simp; omega
  have e5 : decide (r ≤ 767) = false := by simp; omega
  have e6 : decide (880 ≤ r) = true := by simp; omega
  have e7 : decide (r ≤ 893) = false := by simp; omega
  have e8 : decide (895 ≤ r) = true := by simp; omega
  have e9 : decide (r ≤ 8191) = false := by simp; omega
  have e10 : decide (8204 ≤ r) = false := by simp; omega
  have e11 : decide (8304 ≤ r) = false := by simp; omega
  have e12 : decide (11264 ≤ r) = false := by simp; omega
  have e13 : decide (12289 ≤ r) = false := by simp; omega
  have e14 : decide (63744 ≤ r) = false := by simp; omega
  have e15 : decide (65008 ≤ r) = false := by simp; omega
  have e16 : decide (65536 ≤ r) = false := by simp; omega
  clear h1 h2
  go_enter Try.func11, Try.ntmps11
  dsimp only [List.append]
  go_wp2
  go_ret
  exact ⟨rfl, rfl⟩

set_option maxRecDepth 100000 in
set_option maxHeartbeats 400000 in
theorem c12 (r : Int) (w : World) (h1 : 8192 ≤ r) (h2 : r ≤ 8203) :
    Calls Try.prog 11 #[.int .i32 r, .bool false] w fun e w' => e = .returned (.bool false) ∧ w' = w := by
  have e0 : decide (192 ≤ r) = true := by simp; omega
  have e1 : decide (r ≤ 214) = false := by simp; omega
  have e2 : decide (216 ≤ r) = true := by simp; omega
  have e3 : decide (r ≤ 246) = false := by simp; omega
  have e4 : decide (248 ≤ r) = true := by simp; omega
  have e5 : decide (r ≤ 767) = false := by simp; omega
  have e6 : decide (880 ≤ r) = true := by simp; omega
  have e7 : decide (r ≤ 893) = false := by simp; omega
  have e8 : decide (895 ≤ r) = true := by simp; omega
  have e9 : decide (r ≤ 8191) = false := by simp; omega
  have e10 : decide (8204 ≤ r) = false := by simp; omega
  have e11 : decide (8304 ≤ r) = false := by simp; omega
  have e12 : decide (11264 ≤ r) = false := by simp; omega
  have e13 : decide (12289 ≤ r) = false := by simp; omega
  have e14 : decide (63744 ≤ r) = false := by simp; omega
  have e15 : decide (65008 ≤ r) = false := by simp; omega
  have e16 : decide (65536 ≤ r) = false := by simp; omega
  have e17 : (r == 183) = false := by simp; omega
  have e18 : decide (768 ≤ r) = true := by simp; omega
  have e19 : decide (r ≤ 879) = false := by simp; omega
  have e20 : decide (8255 ≤ r) = false := by simp; omega
  clear h1 h2
  go_enter Try.func11, Try.ntmps11
  dsimp only [List.append]
  go_wp2
  go_ret
  exact ⟨rfl, rfl⟩

set_option maxRecDepth 100000 in
set_option maxHeartbeats 400000 in
theorem y13 (r : Int) (st : Bool) (w : World) (h1 : 8204 ≤ r) (h2 : r ≤ 8205) :
    Calls Try.prog 11 #[.int .i32 r, .bool st] w fun e w' => e = .returned (.bool true) ∧ w' = w := by
  have e0 : decide (192 ≤ r) = true := by simp; omega
  have e1 : decide (r ≤ 214) = false := by simp; omega
  have e2 : decide (216 ≤ r) = true := by simp; omega
  have e3 : decide (r ≤ 246) = false := by simp; omega
  have e4 : decide (248 ≤ r) = true := by simp; omega
  have e5 : decide (r ≤ 767) = false := by simp; omega
  have e6 : decide (880 ≤ r) = true := by simp; omega
  have e7 : decide (r ≤ 893) = false := by simp; omega
  have e8 : decide (895 ≤ r) = true := by simp; omega
  have e9 : decide (r ≤ 8191) = false := by simp; omega
  have e10 : decide (8204 ≤ r) = true := by simp; omega
  have e11 : decide (r ≤ 8205) = true := by simp; omega
  clear h1 h2
  go_enter Try.func11, Try.ntmps11
  dsimp only [List.append]
  go_wp2
  go_ret
  exact ⟨rfl, rfl⟩

set_option maxRecDepth 100000 in
set_option maxHeartbeats 400000 in
theorem s14 (r : Int) (w : World) (h1 : 8206 ≤ r) (h2 : r ≤ 8254) :
    Calls Try.prog 11 #[.int .i32 r, .bool true] w fun e w' => e = .returned (.bool false) ∧ w' = w := by
  have e0 : decide (192 ≤ r) = true := by simp; omega
  have e1 : decide (r ≤ 214) = false := by simp; omega
  have e2 : decide (216 ≤ r) = true := by simp; omega
  have e3 : decide (r ≤ 246) = false := by simp; omega
  have e4 : decide (248 ≤ r) = true := by simp; omega
  have e5 : decide (r ≤ 767) = false := by simp; omega
  have e6 : decide (880 ≤ r) = true := by simp; omega
  have e7 : decide (r ≤ 893) = false := by simp; omega
  have e8 : decide (895 ≤ r) = true := by simp; omega
  have e9 : decide (r ≤ 8191) = false := by simp; omega
  have e10 : decide (8204 ≤ r) = true := by simp; omega
  have e11 : decide (r ≤ 8205) = false := by simp; omega
  have e12 : decide (8304 ≤ r) = false := by simp; omega
  have e13 : decide (11264 ≤ r) = false := by simp; omega
  have e14 : decide (12289 ≤ r) = false := by simp; omega
  have e15 : decide (63744 ≤ r) = false := by simp; omega
  have e16 : decide (65008 ≤ r) = false := by simp; omega
  have e17 : decide (65536 ≤ r) = false := by simp; omega
  clear h1 h2
  go_enter Try.func11, Try.ntmps11
  dsimp only [List.append]
  go_wp2
  go_ret
  exact ⟨rfl, rfl⟩

set_option maxRecDepth 100000 in
set_option maxHeartbeats 400000 in
theorem c14 (r : Int) (w : World) (h1 : 8206 ≤ r) (h2 : r ≤ 8254) :
    Calls Try.prog 11 #[.int .i32 r, .bool false] w fun e w' => e = .returned (.bool false) ∧ w' = w := by
  have e0 : decide (192 ≤ r) = true := by simp; omega
  have e1 : decide (r ≤ 214) = false := by simp; omega
  have e2 : decide (216 ≤ r) = true := by simp; omega
  have e3 : decide (r ≤ 246) = false := by simp; omega
  have e4 : decide (248 ≤ r) = true := by simp; omega
  have e5 : decide (r ≤ 767) = false := by simp; omega
  have e6 : decide (880 ≤ r) = true := by simp; omega
  have e7 : decide (r ≤ 893) = false := by simp; omega
  have e8 : decide (895 ≤ r) = true := by simp; omega
  have e9 : decide (r ≤ 8191) = false := by simp; omega
  have e10 : decide (8204 ≤ r) = true := by simp; omega
  have e11 : decide (r ≤ 8205) = false := by simp; omega
  have e12 : decide (8304 ≤ r) = false := by simp; omega
  have e13 : decide (11264 ≤ r) = false := by simp; omega
  have e14 : decide (12289 ≤ r) = false := by simp; omega
  have e15 : decide (63744 ≤ r) = false := by simp; omega
  have e16 : decide (65008 ≤ r) = false := by simp; omega
  have e17 : decide (65536 ≤ r) = false := by simp; omega
  have e18 : (r == 183) = false := by simp; omega
  have e19 : decide (768 ≤ r) = true := by simp; omega
  have e20 : decide (r ≤ 879) = false := by simp; omega
  have e21 : decide (8255 ≤ r) = false := by simp; omega
  clear h1 h2
  go_enter Try.func11, Try.ntmps11
  dsimp only [List.append]
  go_wp2
  go_ret
  exact ⟨rfl, rfl⟩

set_option maxRecDepth 100000 in
set_option maxHeartbeats 400000 in
theorem s15 (r : Int) (w : World) (h1 : 8255 ≤ r) (h2 : r ≤ 8256) :
    Calls Try.prog 11 #[.int .i32 r, .bool true] w fun e w' => e = .returned (.bool false) ∧ w' = w := by
  have e0 : decide (192 ≤ r) = true := by simp; omega
  have e1 : decide (r ≤ 214) = false := by simp; omega
  have e2 : decide (216 ≤ r) = true := by simp; omega
  have e3 : decide (r ≤ 246) = false := by simp; omega
  have e4 : decide (248 ≤ r) = true := by simp; omega
  have e5 : decide (r ≤ 767) = false := by simp; omega
  have e6 : decide (880 ≤ r) = true := by simp; omega
  have e7 : decide (r ≤ 893) = false := by simp; omega
  have e8 : decide (895 ≤ r) = true := by simp; omega
  have e9 : decide (r ≤ 8191) = false := by simp; omega
  have e10 : decide (8204 ≤ r) = true := by simp; omega
  have e11 : decide (r ≤ 8205) = false := by simp; omega
  have e12 : decide (8304 ≤ r) = false := by simp; omega
  have e13 : decide (11264 ≤ r) = false := by simp; omega
  have e14 : decide (12289 ≤ r) = false := by simp; omega
  have e15 : decide (63744 ≤ r) = false := by simp; omega
  have e16 : decide (65008 ≤ r) = false := by simp; omega
  have e17 : decide (65536 ≤ r) = false := by simp; omega
  clear h1 h2
  go_enter Try.func11, Try.ntmps11
  dsimp only [List.append]
  go_wp2
  go_ret
  exact ⟨rfl, rfl⟩

set_option maxRecDepth 100000 in
set_option maxHeartbeats 400000 in
theorem c15 (r : Int) (w : World) (h1 : 8255 ≤ r) (h2 : r ≤ 8256) :
    Calls Try.prog 11 #[.int .i32 r, .bool false] w fun e w' => e = .returned (.bool true) ∧ w' = w := by
  have e0 : decide (192 ≤ r) = true := by simp; omega
  have e1 : decide (r ≤ 214) = false := by simp; omega
  have e2 : decide (216 ≤ r) = true := by simp; omega
  have e3 : decide (r ≤ 246) = false := by simp; omega
  have e4 : decide (248 ≤ r) = true := by simp; omega
  have e5 : decide (r ≤ 767) = false := by simp; omega
  have e6 : decide (880 ≤ r) = true := by simp; omega
  have e7 : decide (r ≤ 893) = false := by simp; omega
  have e8 : decide (895 ≤ r) = true := by simp; omega
  have e9 : decide (r ≤ 8191) = false := by simp; omega
  have e10 : decide (8204 ≤ r) = true := by simp; omega
  have e11 : decide (r ≤ 8205) = false := by simp; omega
  have e12 : decide (8304 ≤ r) = false := by simp; omega
  have e13 : decide (11264 ≤ r) = false := by simp; omega
  have e14 : decide (12289 ≤ r) = false := by simp; omega
  have e15 : decide (63744 ≤ r) = false := by simp; omega
  have e16 : decide (65008 ≤ r) = false := by simp; omega
  have e17 : decide (65536 ≤ r) = false := by simp; omega
  have e18 : (r == 183) = false := by simp; omega
  have e19 : decide (768 ≤ r) = true := by simp; omega
  have e20 : decide (r ≤ 879) = false := by simp; omega
  have e21 : decide (8255 ≤ r) = true := by simp; omega
  have e22 : decide (r ≤ 8256) = true := by simp; omega
  clear h1 h2
  go_enter Try.func11, Try.ntmps11
  dsimp only [List.append]
  go_wp2
  go_ret
  exact ⟨rfl, rfl⟩

set_option maxRecDepth 100000 in
set_option maxHeartbeats 400000 in
theorem s16 (r : Int) (w : World) (h1 : 8257 ≤ r) (h2 : r ≤ 8303) :
    Calls Try.prog 11 #[.int .i32 r, .bool true] w fun e w' => e = .returned (.bool false) ∧ w' = w := by
  have e0 : decide (192 ≤ r) = true := by simp; omega
  have e1 : decide (r ≤ 214) = false := by simp; omega
  have e2 : decide (216 ≤ r) = true := by simp; omega
  have e3 : decide (r ≤ 246) = false := by simp; omega
  have e4 : decide (248 ≤ r) = true := by simp; omega
  have e5 : decide (r ≤ 767) = false := by simp; omega
  have e6 : decide (880 ≤ r) = true := by simp; omega
  have e7 : decide (r ≤ 893) = false := by simp; omega
  have e8 : decide (895 ≤ r) = true := by simp; omega
  have e9 : decide (r ≤ 8191) = false := by simp; omega
  have e10 : decide (8204 ≤ r) = true := by simp; omega
  have e11 : decide (r ≤ 8205) = false := by simp; omega
  have e12 : decide (8304 ≤ r) = false := by simp; omega
  have e13 : decide (11264 ≤ r) = false := by simp; omega
  have e14 : decide (12289 ≤ r) = false := by simp; omega
  have e15 : decide (63744 ≤ r) = false := by simp; omega
  have e16 : decide (65008 ≤ r) = false := by simp; omega
  have e17 : decide (65536 ≤ r) = false := by simp; omega
  clear h1 h2
  go_enter Try.func11, Try.ntmps11
  dsimp only [List.append]
  go_wp2
  go_ret
  exact ⟨rfl, rfl⟩

set_option maxRecDepth 100000 in
set_option maxHeartbeats 400000 in
theorem c16 (r : Int) (w : World) (h1 : 8257 ≤ r) (h2 : r ≤ 8303) :
    Calls Try.prog 11 #[.int .i32 r, .bool false] w fun e w' => e = .returned (.bool false) ∧ w' = w := by
  have e0 : decide (192 ≤ r) = true := by simp; omega
  have e1 : decide (r ≤ 214) = false := by simp; omega
  have e2 : decide (216 ≤ r) = true := by simp; omega
  have e3 : decide (r ≤ 246) = false := by simp; omega
  have e4 : decide (248 ≤ r) = true := by simp; omega
  have e5 : decide (r ≤ 767) = false := by simp; omega
  have e6 : decide (880 ≤ r) = true := by simp; omega
  have e7 : decide (r ≤ 893) = false := by simp; omega
  have e8 : decide (895 ≤ r) = true := by simp; omega
  have e9 : decide (r ≤ 8191) = false := by simp; omega
  have e10 : decide (8204 ≤ r) = true := by simp; omega
  have e11 : decide (r ≤ 8205) = false := by simp; omega
  have e12 : decide (8304 ≤ r) = false := by simp; omega
  have e13 : decide (11264 ≤ r) = false := by simp; omega
  have e14 : decide (12289 ≤ r) = false := by simp; omega
  have e15 : decide (63744 ≤ r) = false := by simp; omega
  have e16 : decide (65008 ≤ r) = false := by simp; omega
  have e17 : decide (65536 ≤ r) = false := by simp; omega
  have e18 : (r == 183) = false := by simp; omega
  have e19 : decide (768 ≤ r) = true := by simp; omega
  have e20 : decide (r ≤ 879) = false := by simp; omega
  have e21 : decide (8255 ≤ r) = true := by simp; omega
  have e22 : decide (r ≤ 8256) = false := by simp; omega
  clear h1 h2
  go_enter Try.func11, Try.ntmps11
  dsimp only [List.append]
  go_wp2
  go_ret
  exact ⟨rfl, rfl⟩

set_option maxRecDepth 100000 in
set_option maxHeartbeats 400000 in
theorem y17 (r : Int) (st : Bool) (w : World) (h1 : 8304 ≤ r) (h2 : r ≤ 8591) :
    Calls Try.prog 11 #[.int .i32 r, .bool st] w fun e w' => e = .returned (.bool true) ∧ w' = w := by
  have e0 : decide (192 ≤ r) = true := by simp; omega
  have e1 : decide (r ≤ 214) = false := by simp; omega
  have e2 : decide (216 ≤ r) = true := by simp; omega
  have e3 : decide (r ≤ 246) = false := by simp; omega
  have e4 : decide (248 ≤ r) = true := by simp; omega
  have e5 : decide (r ≤ 767) = false := by simp; omega
  have e6 : decide (880 ≤ r) = true := by simp; omega
  have e7 : decide (r ≤ 893) = false := by simp; omega
  have e8 : decide (895 ≤ r) = true := by simp; omega
  have e9 : decide (r ≤ 8191) = false := by simp; omega
  have e10 : decide (8204 ≤ r) = true := by simp; omega
  have e11 : decide (r ≤ 8205) = false := by simp; omega
  have e12 : decide (8304 ≤ r) = true := by simp; omega
  have e13 : decide (r ≤ 8591) = true := by simp; omega
  clear h1 h2
  go_enter Try.func11, Try.ntmps11
  dsimp only [List.append]
  go_wp2
  go_ret
  exact ⟨rfl, rfl⟩

set_option maxRecDepth 100000 in
set_option maxHeartbeats 400000 in
theorem s18 (r : Int) (w : World) (h1 : 8592 ≤ r) (h2 : r ≤ 11263) :
    Calls Try.prog 11 #[.int .i32 r, .bool true] w fun e w' => e = .returned (.bool false) ∧ w' = w := by
  have e0 : decide (192 ≤ r) = true := by simp; omega
  have e1 : decide (r ≤ 214) = false := by simp; omega
  have e2 : decide (216 ≤ r) = true := by simp; omega
  have e3 : decide (r ≤ 246) = false := by simp; omega
  have e4 : decide (248 ≤ r) = true := by simp; omega
  have e5 : decide (r ≤ 767) = false := by simp; omega
  have e6 : decide (880 ≤ r) = true := by simp; omega
  have e7 : decide (r ≤ 893) = false := by simp; omega
  have e8 : decide (895 ≤ r) = true := by simp; omega
  have e9 : decide (r ≤ 8191) = false := by simp; omega
  have e10 : decide (8204 ≤ r) = true := by simp; omega
  have e11 : decide (r ≤ 8205) = false := by simp; omega
  have e12 : decide (8304 ≤ r) = true := by simp; omega
  have e13 : decide (r ≤ 8591) = false := by simp; omega
  have e14 : decide (11264 ≤ r) = false := by simp; omega
  have e15 : decide (12289 ≤ r) = false := by simp; omega
  have e16 : decide (63744 ≤ r) = false := by simp; omega
  have e17 : decide (65008 ≤ r) = false := by simp; omega
  have e18 : decide (65536 ≤ r) = false := by simp; omega
  clear h1 h2
  go_enter Try.func11, Try.ntmps11
  dsimp only [List.append]
  go_wp2
  go_ret
  exact ⟨rfl, rfl⟩

set_option maxRecDepth 100000 in
set_option maxHeartbeats 400000 in
theorem c18 (r : Int) (w : World) (h1 : 8592 ≤ r) (h2 : r ≤ 11263) :
    Calls Try.prog 11 #[.int .i32 r, .bool false] w fun e w' => e = .returned (.bool false) ∧ w' = w := by
  have e0 : decide (192 ≤ r) = true := by simp; omega
  have e1 : decide (r ≤ 214) = false := by simp; omega
  have e2 : decide (216 ≤ r) = true := by simp; omega
  have e3 : decide (r ≤ 246) = false := by simp; omega
  have e4 : decide (248 ≤ r) = true := by simp; omega
  have e5 : decide (r ≤ 767) = false := by simp; omega
  have e6 : decide (880 ≤ r) = true := by simp; omega
  have e7 : decide (r ≤ 893) = false := by simp; omega
  have e8 : decide (895 ≤ r) = true := by simp; omega
  have e9 : decide (r ≤ 8191) = false := by simp; omega
  have e10 : decide (8204 ≤ r) = true := by simp; omega
  have e11 : decide (r ≤ 8205) = false := by simp; omega
  have e12 : decide (8304 ≤ r) = true := by simp; omega
  have e13 : decide (r ≤ 8591) = false := by simp; omega
  have e14 : decide (11264 ≤ r) = false := by simp; omega
  have e15 : decide (12289 ≤ r) = false := by simp; omega
  have e16 : decide (63744 ≤ r) = false := by simp; omega
  have e17 : decide (65008 ≤ r) = false := by simp; omega
  have e18 : decide (65536 ≤ r) = false := by simp; omega
  have e19 : (r == 183) = false := by simp; omega
  have e20 : decide (768 ≤ r) = true := by simp; omega
  have e21 : decide (r ≤ 879) = false := by simp; omega
  have e22 : decide (8255 ≤ r) = true := by simp; omega
  have e23 : decide (r ≤ 8256) = false := by simp; omega
  clear h1 h2
  go_enter Try.func11, Try.ntmps11
  dsimp only [List.append]
  go_wp2
  go_ret
  exact ⟨rfl, rfl⟩

set_option maxRecDepth 100000 in
set_option maxHeartbeats 400000 in
theorem y19 (r : Int) (st : Bool) (w : World) (h1 : 11264 ≤ r) (h2 : r ≤ 12271) :
    Calls Try.prog 11 #[.int .i32 r, .bool st] w fun e w' => e = .returned (.bool true) ∧ w' = w := by
  have e0 : decide (192 ≤ r) = true := by simp; omega
  have e1 : decide (r ≤ 214) = false := by simp; omega
  have e2 : decide (216 ≤ r) = true := by simp; omega
  have e3 : decide (r ≤ 246) = false := by simp; omega
  have e4 : decide (248 ≤ r) = true := by simp; omega
  have e5 : decide (r ≤ 767) = false := by simp; omega
  have e6 : decide (880 ≤ r) = true := by simp; omega
  have e7 : decide (r ≤ 893) = false := by simp; omega
  have e8 : decide (895 ≤ r) = true := by simp; omega
  have e9 : decide (r ≤ 8191) = false := by simp; omega
  have e10 : decide (8204 ≤ r) = true := by simp; omega
  have e11 : decide (r ≤ 8205) = false := by simp; omega
  have e12 : decide (8304 ≤ r) = true := by simp; omega
  have e13 : decide (r ≤ 8591) = false := by simp; omega
  have e14 : decide (11264 ≤ r) = true := by simp; omega
  have e15 : decide (r ≤ 12271) = true := by simp; omega
  clear h1 h2
  go_enter Try.func11, Try.ntmps11
  dsimp only [List.append]
  go_wp2
  go_ret
  exact ⟨rfl, rfl⟩

set_option maxRecDepth 100000 in
set_option maxHeartbeats 400000 in
theorem s20 (r : Int) (w : World) (h1 : 12272 ≤ r) (h2 : r ≤ 12288) :
    Calls Try.prog 11 #[.int .i32 r, .bool true] w fun e w' => e = .returned (.bool false) ∧ w' = w := by
  have e0 : decide (192 ≤ r) = true := by simp; omega
  have e1 : decide (r ≤ 214) = false := by simp; omega
  have e2 : decide (216 ≤ r) = true := by simp; omega
  have e3 : decide (r ≤ 246) = false := by simp; omega
  have e4 : decide (248 ≤ r) = true := by simp; omega
  have e5 : decide (r ≤ 767) = false := by simp; omega
  have e6 : decide (880 ≤ r) = true := by simp; omega
  have e7 : decide (r ≤ 893) = false := by simp; omega
  have e8 : decide (895 ≤ r) = true := by simp; omega
  have e9 : decide (r ≤ 8191) = false := by simp; omega
  have e10 : decide (8204 ≤ r) = true := by simp; omega
  have e11 : decide (r ≤ 8205) = false := by simp; omega
  have e12 : decide (8304 ≤ r) = true := by simp; omega
  have e13 : decide (r ≤ 8591) = false := by simp; omega
  have e14 : decide (11264 ≤ r) = true := by simp; omega
  have e15 : decide (r ≤ 12271) = false := by simp; omega
  have e16 : decide (12289 ≤ r) = false := by simp; omega
  have e17 : decide (63744 ≤ r) = false := by simp; omega
  have e18 : decide (65008 ≤ r) = false := by simp; omega
  have e19 : decide (65536 ≤ r) = false := by simp; omega
  clear h1 h2
  go_enter Try.func11, Try.ntmps11
  dsimp only [List.append]
  go_wp2
  go_ret
  exact ⟨rfl, rfl⟩

set_option maxRecDepth 100000 in
set_option maxHeartbeats 400000 in
theorem c20 (r : Int) (w : World) (h1 : 12272 ≤ r) (h2 : r ≤ 12288) :
    Calls Try.prog 11 #[.int .i32 r, .bool false] w fun e w' => e = .returned (.bool false) ∧ w' = w := by
  have e0 : decide (192 ≤ r) = true := by simp; omega
  have e1 : decide (r ≤ 214) = false := by simp; omega
  have e2 : decide (216 ≤ r) = true := by simp; omega
  have e3 : decide (r ≤ 246) = false := by simp; omega
  have e4 : decide (248 ≤ r) = true := by simp; omega
  have e5 : decide (r ≤ 767) = false := by simp; omega
  have e6 : decide (880 ≤ r) = true := by simp; omega
  have e7 : decide (r ≤ 893) = false := by simp; omega
  have e8 : decide (895 ≤ r) = true := by simp; omega
  have e9 : decide (r ≤ 8191) = false := by simp; omega
  have e10 : decide (8204 ≤ r) = true := by simp; omega
  have e11 : decide (r ≤ 8205) = false := by simp; omega
  have e12 : decide (8304 ≤ r) = true := by simp; omega
  have e13 : decide (r ≤ 8591) = false := by simp; omega
  have e14 : decide (11264 ≤ r) = true := by simp; omega
  have e15 : decide (r ≤ 12271) = false := by simp; omega
  have e16 : decide (12289 ≤ r) = false := by simp; omega
  have e17 : decide (63744 ≤ r) = false := by simp; omega
  have e18 : decide (65008 ≤ r) = false := by simp; omega
  have e19 : decide (65536 ≤ r) = false := by simp; omega
  have e20 : (r == 183) = false := by simp; omega
  have e21 : decide (768 ≤ r) = true := by simp; omega
  have e22 : decide (r ≤ 879) = false := by simp; omega
  have e23 : decide (8255 ≤ r) = true := by simp; omega
  have e24 : decide (r ≤ 8256) = false := by simp; omega
  clear h1 h2
  go_enter Try.func11, Try.ntmps11
  dsimp only [List.append]
  go_wp2
  go_ret
  exact ⟨rfl, rfl⟩

set_option maxRecDepth 100000 in
set_option maxHeartbeats 400000 in
theorem y21 (r : Int) (st : Bool) (w : World) (h1 : 12289 ≤ r) (h2 : r ≤ 55295) :
    Calls Try.prog 11 #[.int .i32 r, .bool st] w fun e w' => e = .returned (.bool true) ∧ w' = w := by
  have e0 : decide (192 ≤ r) = true := by simp; omega
  have e1 : decide (r ≤ 214) = false := by simp; omega
  have e2 : decide (216 ≤ r) = true := by simp; omega
  have e3 : decide (r ≤ 246) = false := by simp; omega
  have e4 : decide (248 ≤ r) = true := by simp; omega
  have e5 : decide (r ≤ 767) = false := by simp; omega
  have e6 : decide (880 ≤ r) = true := by simp; omega
  have e7 : decide (r ≤ 893) = false := by simp; omega
  have e8 : decide (895 ≤ r) = true := by simp; omega
  have e9 : decide (r ≤ 8191) = false := by simp; omega
  have e10 : decide (8204 ≤ r) = true := by simp; omega
  have e11 : decide (r ≤ 8205) = false := by simp; omega
  have e12 : decide (8304 ≤ r) = true := by simp; omega
  have e13 : decide (r ≤ 8591) = false := by simp; omega
  have e14 : decide (11264 ≤ r) = true := by simp; omega
  have e15 : decide (r ≤ 12271) = false := by simp; omega
  have e16 : decide (12289 ≤ r) = true := by simp; omega
  have e17 : decide (r ≤ 55295) = true := by simp; omega
  clear h1 h2
  go_enter Try.func11, Try.ntmps11
  dsimp only [List.append]
  go_wp2
  go_ret
  exact ⟨rfl, rfl⟩

set_option maxRecDepth 100000 in
set_option maxHeartbeats 400000 in
theorem s22 (r : Int) (w : World) (h1 : 55296 ≤ r) (h2 : r ≤ 63743) :
    Calls Try.prog 11 #[.int .i32 r, .bool true] w fun e w' => e = .returned (.bool false) ∧ w' = w := by
  have e0 : decide (192 ≤ r) = true := by simp; omega
  have e1 : decide (r ≤ 214) = false := by simp; omega
  have e2 : decide (216 ≤ r) = true := by simp; omega
  have e3 : decide (r ≤ 246) = false := by simp; omega
  have e4 : decide (248 ≤ r) = true := by simp; omega
  have e5 : decide (r ≤ 767) = false := by simp; omega
  have e6 : decide (880 ≤ r) = true := by simp; omega
  have e7 : decide (r ≤ 893) = false := by simp; omega
  have e8 : decide (895 ≤ r) = true := by simp; omega
  have e9 : decide (r ≤ 8191) = false := by simp; omega
  have e10 : decide (8204 ≤ r) = true := by simp; omega
  have e11 : decide (r ≤ 8205) = false := by simp; omega
  have e12 : decide (8304 ≤ r) = true := by simp; omega
  have e13 : decide (r ≤ 8591) = false := by simp; omega
  have e14 : decide (11264 ≤ r) = true := by simp; omega
  have e15 : decide (r ≤ 12271) = false := by simp; omega
  have e16 : decide (12289 ≤ r) = true := by simp; omega
  have e17 : decide (r ≤ 55295) = false := by simp; omega
  have e18 : decide (63744 ≤ r) = false := by simp; omega
  have e19 : decide (65008 ≤ r) = false := by simp; omega
  have e20 : decide (65536 ≤ r) = false := by simp; omega
  clear h1 h2
  go_enter Try.func11, Try.ntmps11
  dsimp only [List.append]
  go_wp2
  go_ret
  exact ⟨rfl, rfl⟩

set_option maxRecDepth 100000 in
set_option maxHeartbeats 400000 in
theorem c22 (r : Int) (w : World) (h1 : 55296 ≤ r) (h2 : r ≤ 63743) :
    Calls Try.prog 11 #[.int .i32 r, .bool false] w fun e w' => e = .returned (.bool false) ∧ w' = w := by
  have e0 : decide (192 ≤ r) = true := by simp; omega
  have e1 : decide (r ≤ 214) = false := by simp; omega
  have e2 : decide (216 ≤ r) = true := by simp; omega
  have e3 : decide (r ≤ 246) = false := by simp; omega
  have e4 : decide (248 ≤ r) = true := by simp; omega
  have e5 : decide (r ≤ 767) = false := by simp; omega
  have e6 : decide (880 ≤ r) = true := by simp; omega
  have e7 : decide (r ≤ 893) = false := by simp; omega
  have e8 : decide (895 ≤ r) = true := by simp; omega
  have e9 : decide (r ≤ 8191) = false := by simp; omega
  have e10 : decide (8204 ≤ r) = true := by simp; omega
  have e11 : decide (r ≤ 8205) = false := by simp; omega
  have e12 : decide (8304 ≤ r) = true := by simp; omega
  have e13 : decide (r ≤ 8591) = false := by simp; omega
  have e14 : decide (11264 ≤ r) = true := by simp; omega
  have e15 : decide (r ≤ 12271) = false := by simp; omega
  have e16 : decide (12289 ≤ r) = true := by simp; omega
  have e17 : decide (r ≤ 55295) = false := by simp; omega
  have e18 : decide (63744 ≤ r) = false := by simp; omega
  have e19 : decide (65008 ≤ r) = false := by simp; omega
  have e20 : decide (65536 ≤ r) = false := by simp; omega
  have e21 : (r == 183) = false := by simp; omega
  have e22 : decide (768 ≤ r) = true := by simp; omega
  have e23 : decide (r ≤ 879) = false := by simp; omega
  have e24 : decide (8255 ≤ r) = true := by simp; omega
  have e25 : decide (r ≤ 8256) = false := by simp; omega
  clear h1 h2
  go_enter Try.func11, Try.ntmps11
  dsimp only [List.append]
  go_wp2
  go_ret
  exact ⟨rfl, rfl⟩

set_option maxRecDepth 100000 in
set_option maxHeartbeats 400000 in
theorem y23 (r : Int) (st : Bool) (w : World) (h1 : 63744 ≤ r) (h2 : r ≤ 64975) :
    Calls Try.prog 11 #[.int .i32 r, .bool st] w fun e w' => e = .returned (.bool true) ∧ w' = w := by
  have e0 : decide (192 ≤ r) = true := by simp; omega
  have e1 : decide (r ≤ 214) = false := by simp; omega
  have e2 : decide (216 ≤ r) = true := by simp; omega
  have e3 : decide (r ≤ 246) = false := by simp; omega
  have e4 : decide (248 ≤ r) = true := by simp; omega
  have e5 : decide (r ≤ 767) = false := by simp; omega
  have e6 : decide (880 ≤ r) = true := by simp; omega
  have e7 : decide (r ≤ 893) = false := by simp; omega
  have e8 : decide (895 ≤ r) = true := by simp; omega
  have e9 : decide (r ≤ 8191) = false := by simp; omega
  have e10 : decide (8204 ≤ r) = true := by simp; omega
  have e11 : decide (r ≤ 8205) = false := by simp; omega
  have e12 : decide (8304 ≤ r) = true := by simp; omega
  have e13 : decide (r ≤ 8591) = false := by simp; omega
  have e14 : decide (11264 ≤ r) = true := by simp; omega
  have e15 : decide (r ≤ 12271) = false := by simp; omega
  have e16 : decide (12289 ≤ r) = true := by simp; omega
  have e17 : decide (r ≤ 55295) = false := by simp; omega
  have e18 : decide (63744 ≤ r) = true := by simp; omega
  have e19 : decide (r ≤ 64975) = true := by simp; omega
  clear h1 h2
  go_enter Try.func11, Try.ntmps11
  dsimp only [List.append]
  go_wp2
  go_ret
  exact ⟨rfl, rfl⟩

set_option maxRecDepth 100000 in
set_option maxHeartbeats 400000 in
theorem s24 (r : Int) (w : World) (h1 : 64976 ≤ r) (h2 : r ≤ 65007) :
    Calls Try.prog 11 #[.int .i32 r, .bool true] w fun e w' => e = .returned (.bool false) ∧ w' = w := by
  have e0 : decide (192 ≤ r) = true := by simp; omega
  have e1 : decide (r ≤ 214) = false := by simp; omega
  have e2 : decide (216 ≤ r) = true := by simp; omega
  have e3 : decide (r ≤ 246) = false := by simp; omega
  have e4 : decide (248 ≤ r) = true := by simp; omega
  have e5 : decide (r ≤ 767) = false := by simp; omega
  have e6 : decide (880 ≤ r) = true := by simp; omega
  have e7 : decide (r ≤ 893) = false := by simp; omega
  have e8 : decide (895 ≤ r) = true := by simp; omega
  have e9 : decide (r ≤ 8191) = false := by simp; omega
  have e10 : decide (8204 ≤ r) = true := by simp; omega
  have e11 : decide (r ≤ 8205) = false := by simp; omega
  have e12 : decide (8304 ≤ r) = true := by simp; omega
  have e13 : decide (r ≤ 8591) = false := by simp; omega
  have e14 : decide (11264 ≤ r) = true := by simp; omega
  have e15 : decide (r ≤ 12271) = false := by simp; omega
  have e16 : decide (12289 ≤ r) = true := by simp; omega
  have e17 : decide (r ≤ 55295) = false := by simp; omega
  have e18 : decide (63744 ≤ r) = true := by simp; omega
  have e19 : decide (r ≤ 64975) = false := by simp; omega
  have e20 : decide (65008 ≤ r) = false := by simp; omega
  have e21 : decide (65536 ≤ r) = false := by simp; omega
  clear h1 h2
  go_enter Try.func11, Try.ntmps11
  dsimp only [List.append]
  go_wp2
  go_ret
  exact ⟨rfl, rfl⟩

set_option maxRecDepth 100000 in
set_option maxHeartbeats 400000 in
theorem c24 (r : Int) (w : World) (h1 : 64976 ≤ r) (h2 : r ≤ 65007) :
    Calls Try.prog 11 #[.int .i32 r, .bool false] w fun e w' => e = .returned (.bool false) ∧ w' = w := by
  have e0 : decide (192 ≤ r) = true := by simp; omega
  have e1 : decide (r ≤ 214) = false := by simp; omega
  have e2 : decide (216 ≤ r) = true := by simp; omega
  have e3 : decide (r ≤ 246) = false := by simp; omega
  have e4 : decide (248 ≤ r) = true := by simp; omega
  have e5 : decide (r ≤ 767) = false := by simp; omega
  have e6 : decide (880 ≤ r) = true := by simp; omega
  have e7 : decide (r ≤ 893) = false := by simp; omega
  have e8 : decide (895 ≤ r) = true := by simp; omega
  have e9 : decide (r ≤ 8191) = false := by simp; omega
  have e10 : decide (8204 ≤ r) = true := by simp; omega
  have e11 : decide (r ≤ 8205) = false := by simp; omega
  have e12 : decide (8304 ≤ r) = true := by simp; omega
  have e13 : decide (r ≤ 8591) = false := by simp; omega
  have e14 : decide (11264 ≤ r) = true := by simp; omega
  have e15 : decide (r ≤ 12271) = false := by simp; omega
  have e16 : decide (12289 ≤ r) = true := by simp; omega
  have e17 : decide (r ≤ 55295) = false := by simp; omega
  have e18 : decide (63744 ≤ r) = true := by simp; omega
  have e19 : decide (r ≤ 64975) = false := by simp; omega
  have e20 : decide (65008 ≤ r) = false := by simp; omega
  have e21 : decide (65536 ≤ r) = false := by simp; omega
  have e22 : (r == 183) = false := by simp; omega
  have e23 : decide (768 ≤ r) = true := by simp; omega
  have e24 : decide (r ≤ 879) = false := by simp; omega
  have e25 : decide (8255 ≤ r) = true := by simp; omega
  have e26 : decide (r ≤ 8256) = false := by simp; omega
  clear h1 h2
  go_enter Try.func11, Try.ntmps11
  dsimp only [List.append]
  go_wp2
  go_ret
  exact ⟨rfl, rfl⟩

set_option maxRecDepth 100000 in
set_option maxHeartbeats 400000 in
theorem y25 (r : Int) (st : Bool) (w : World) (h1 : 65008 ≤ r) (h2 : r ≤ 65533) :
    Calls Try.prog 11 #[.int .i32 r, .bool st] w fun e w' => e = .returned (.bool true) ∧ w' = w := by
  have e0 : decide (192 ≤ r) = true := by simp; omega
  have e1 : decide (r ≤ 214) = false := by simp; omega
  have e2 : decide (216 ≤ r) = true := by simp; omega
  have e3 : decide (r ≤ 246) = false := by simp; omega
  have e4 : decide (248 ≤ r) = true := by simp; omega
  have e5 : decide (r ≤ 767) = false := by simp; omega
  have e6 : decide (880 ≤ r) = true := by simp; omega
  have e7 : decide (r ≤ 893) = false := by simp; omega
  have e8 : decide (895 ≤ r) = true := by simp; omega
  have e9 : decide (r ≤ 8191) = false := by simp; omega
  have e10 : decide (8204 ≤ r) = true := by simp; omega
  have e11 : decide (r ≤ 8205) = false := by simp; omega
  have e12 : decide (8304 ≤ r) = true := by simp; omega
  have e13 : decide (r ≤ 8591) = false := by simp; omega
  have e14 : decide (11264 ≤ r) = true := by simp; omega
  have e15 : decide (r ≤ 12271) = false := by simp; omega
  have e16 : decide (12289 ≤ r) = true := by simp; omega
  have e17 : decide (r ≤ 55295) = false := by simp; omega
  have e18 : decide (63744 ≤ r) = true := by simp; omega
  have e19 : decide (r ≤ 64975) = false := by simp; omega
  have e20 : decide (65008 ≤ r) = true := by simp; omega
  have e21 : decide (r ≤ 65533) = true := by simp; omega
  clear h1 h2
  go_enter Try.func11, Try.ntmps11
  dsimp only [List.append]
  go_wp2
  go_ret
  exact ⟨rfl, rfl⟩

set_option maxRecDepth 100000 in
set_option maxHeartbeats 400000 in
theorem s26 (r : Int) (w : World) (h1 : 65534 ≤ r) (h2 : r ≤ 65535) :
    Calls Try.prog 11 #[.int .i32 r, .bool true] w fun e w' => e = .returned (.bool false) ∧ w' = w := by
  have e0 : decide (192 ≤ r) = true := by simp; omega
  have e1 : decide (r ≤ 214) = false := by simp; omega
  have e2 : decide (216 ≤ r) = true := by simp; omega
  have e3 : decide (r ≤ 246) = false := by simp; omega
  have e4 : decide (248 ≤ r) = true := by simp; omega
  have e5 : decide (r ≤ 767) = false := by simp; omega
  have e6 : decide (880 ≤ r) = true := by simp; omega
  have e7 : decide (r ≤ 893) = false := by simp; omega
  have e8 : decide (895 ≤ r) = true := by simp; omega
  have e9 : decide (r ≤ 8191) = false := by simp; omega
  have e10 : decide (8204 ≤ r) = true := by simp; omega
  have e11 : decide (r ≤ 8205) = false := by simp; omega
  have e12 : decide (8304 ≤ r) = true := by simp; omega
  have e13 : decide (r ≤ 8591) = false := by simp; omega
  have e14 : decide (11264 ≤ r) = true := by simp; omega
  have e15 : decide (r ≤ 12271) = false := by simp; omega
  have e16 : decide (12289 ≤ r) = true := by simp; omega
  have e17 : decide (r ≤ 55295) = false := by simp; omega
  have e18 : decide (63744 ≤ r) = true := by simp; omega
  have e19 : decide (r ≤ 64975) = false := by simp; omega
  have e20 : decide (65008 ≤ r) = true := by simp; omega
  have e21 : decide (r ≤ 65533) = false := by simp; omega
  have e22 : decide (65536 ≤ r) = false := by simp; omega
  clear h1 h2
  go_enter Try.func11, Try.ntmps11
  dsimp only [List.append]
  go_wp2
  go_ret
  exact ⟨rfl, rfl⟩

set_option maxRecDepth 100000 in
set_option maxHeartbeats 400000 in
theorem c26 (r : Int) (w : World) (h1 : 65534 ≤ r) (h2 : r ≤ 65535) :
    Calls Try.prog 11 #[.int .i32 r, .bool false] w fun e w' => e = .returned (.bool false) ∧ w' = w := by
  have e0 : decide (192 ≤ r) = true := by simp; omega
  have e1 : decide (r ≤ 214) = false := by simp; omega
  have e2 : decide (216 ≤ r) = true := by simp; omega
  have e3 : decide (r ≤ 246) = false := by simp; omega
  have e4 : decide (248 ≤ r) = true := by simp; omega
  have e5 : decide (r ≤ 767) = false := by simp; omega
  have e6 : decide (880 ≤ r) = true := by simp; omega
  have e7 : decide (r ≤ 893) = false := by simp; omega
  have e8 : decide (895 ≤ r) = true := by simp; omega
  have e9 : decide (r ≤ 8191) = false := by simp; omega
  have e10 : decide (8204 ≤ r) = true := by simp; omega
  have e11 : decide (r ≤ 8205) = false := by simp; omega
  have e12 : decide (8304 ≤ r) = true := by simp; omega
  have e13 : decide (r ≤ 8591) = false := by simp; omega
  have e14 : decide (11264 ≤ r) = true := by simp; omega
  have e15 : decide (r ≤ 12271) = false := by simp; omega
  have e16 : decide (12289 ≤ r) = true := by simp; omega
  have e17 : decide (r ≤ 55295) = false := by simp; omega
  have e18 : decide (63744 ≤ r) = true := by simp; omega
  have e19 : decide (r ≤ 64975) = false := by simp; omega
  have e20 : decide (65008 ≤ r) = true := by simp; omega
  have e21 : decide (r ≤ 65533) = false := by simp; omega
  have e22 : decide (65536 ≤ r) = false := by simp; omega
  have e23 : (r == 183) = false := by simp; omega
  have e24 : decide (768 ≤ r) = true := by simp; omega
  have e25 : decide (r ≤ 879) = false := by simp; omega
  have e26 : decide (8255 ≤ r) = true := by simp; omega
  have e27 : decide (r ≤ 8256) = false := by simp; omega
  clear h1 h2
  go_enter Try.func11, Try.ntmps11
  dsimp only [List.append]
  go_wp2
  go_ret
  exact ⟨rfl, rfl⟩

set_option maxRecDepth 100000 in
set_option maxHeartbeats 400000 in
theorem y27 (r : Int) (st : Bool) (w : World) (h1 : 65536 ≤ r) (h2 : r ≤ 983039) :
    Calls Try.prog 11 #[.int .i32 r, .bool st] w fun e w' => e = .returned (.bool true) ∧ w' = w := by
  have e0 : decide (192 ≤ r) = true := by simp; omega
  have e1 : decide (r ≤ 214) = false := by simp; omega
  have e2 : decide (216 ≤ r) = true := by simp; omega
  have e3 : decide (r ≤ 246) = false := by simp; omega
  have e4 : decide (248 ≤ r) = true := by simp; omega
  have e5 : decide (r ≤ 767) = false := by simp; omega
  have e6 : decide (880 ≤ r) = true := by simp; omega
  have e7 : decide (r ≤ 893) = false := by simp; omega
  have e8 : decide (895 ≤ r) = true := by simp; omega
  have e9 : decide (r ≤ 8191) = false := by simp; omega
  have e10 : decide (8204 ≤ r) = true := by simp; omega
  have e11 : decide (r ≤ 8205) = false := by simp; omega
  have e12 : decide (8304 ≤ r) = true := by simp; omega
  have e13 : decide (r ≤ 8591) = false := by simp; omega
  have e14 : decide (11264 ≤ r) = true := by simp; omega
  have e15 : decide (r ≤ 12271) = false := by simp; omega
  have e16 : decide (12289 ≤ r) = true := by simp; omega
  have e17 : decide (r ≤ 55295) = false := by simp; omega
  have e18 : decide (63744 ≤ r) = true := by simp; omega
  have e19 : decide (r ≤ 64975) = false := by simp; omega
  have e20 : decide (65008 ≤ r) = true := by simp; omega
  have e21 : decide (r ≤ 65533) = false := by simp; omega
  have e22 : decide (65536 ≤ r) = true := by simp; omega
  have e23 : decide (r ≤ 983039) = true := by simp; omega
  clear h1 h2
  go_enter Try.func11, Try.ntmps11
  dsimp only [List.append]
  go_wp2
  go_ret
  exact ⟨rfl, rfl⟩

set_option maxRecDepth 100000 in
set_option maxHeartbeats 400000 in
theorem s28 (r : Int) (w : World) (h1 : 983040 ≤ r) :
    Calls Try.prog 11 #[.int .i32 r, .bool true] w fun e w' => e = .returned (.bool false) ∧ w' = w := by
  have e0 : decide (192 ≤ r) = true := by simp; omega
  have e1 : decide (r ≤ 214) = false := by simp; omega
  have e2 : decide (216 ≤ r) = true := by simp; omega
  have e3 : decide (r ≤ 246) = false := by simp; omega
  have e4 : decide (248 ≤ r) = true := by simp; omega
  have e5 : decide (r ≤ 767) = false := by simp; omega
  have e6 : decide (880 ≤ r) = true := by simp; omega
  have e7 : decide (r ≤ 893) = false := by simp; omega
  have e8 : decide (895 ≤ r) = true := by simp; omega
  have e9 : decide (r ≤ 8191) = false := by simp; omega
  have e10 : decide (8204 ≤ r) = true := by simp; omega
  have e11 : decide (r ≤ 8205) = false := by simp; omega
  have e12 : decide (8304 ≤ r) = true := by simp; omega
  have e13 : decide (r ≤ 8591) = false := by simp; omega
  have e14 : decide (11264 ≤ r) = true := by simp; omega
  have e15 : decide (r ≤ 12271) = false := by simp; omega
  have e16 : decide (12289 ≤ r) = true := by simp; omega
  have e17 : decide (r ≤ 55295) = false := by simp; omega
  have e18 : decide (63744 ≤ r) = true := by simp; omega
  have e19 : decide (r ≤ 64975) = false := by simp; omega
  have e20 : decide (65008 ≤ r) = true := by simp; omega
  have e21 : decide (r ≤ 65533) = false := by simp; omega
  have e22 : decide (65536 ≤ r) = true := by simp; omega
  have e23 : decide (r ≤ 983039) = false := by simp; omega
  clear h1
  go_enter Try.func11, Try.ntmps11
  dsimp only [List.append]
  go_wp2
  go_ret
  exact ⟨rfl, rfl⟩

set_option maxRecDepth 100000 in
set_option maxHeartbeats 400000 in
theorem c28 (r : Int) (w : World) (h1 : 983040 ≤ r) :
    Calls Try.prog 11 #[.int .i32 r, .bool false] w fun e w' => e = .returned (.bool false) ∧ w' = w := by
  have e0 : decide (192 ≤ r) = true := by simp; omega
  have e1 : decide (r ≤ 214) = false := by simp; omega
  have e2 : decide (216 ≤ r) = true := by simp; omega
  have e3 : decide (r ≤ 246) = false := by simp; omega
  have e4 : decide (248 ≤ r) = true := by simp; omega
  have e5 : decide (r ≤ 767) = false := by simp; omega
  have e6 : decide (880 ≤ r) = true := by simp; omega
  have e7 : decide (r ≤ 893) = false := by simp; omega
  have e8 : decide (895 ≤ r) = true := by simp; omega
  have e9 : decide (r ≤ 8191) = false := by simp; omega
  have e10 : decide (8204 ≤ r) = true := by simp; omega
  have e11 : decide (r ≤ 8205) = false := by simp; omega
  have e12 : decide (8304 ≤ r) = true := by simp; omega
  have e13 : decide (r ≤ 8591) = false := by simp; omega
  have e14 : decide (11264 ≤ r) = true := by simp; omega
  have e15 : decide (r ≤ 12271) = false := by simp; omega
  have e16 : decide (12289 ≤ r) = true := by simp; omega
  have e17 : decide (r ≤ 55295) = false := by simp; omega
  have e18 : decide (63744 ≤ r) = true := by simp; omega
  have e19 : decide (r ≤ 64975) = false := by simp; omega
  have e20 : decide (65008 ≤ r) = true := by simp; omega
  have e21 : decide (r ≤ 65533) = false := by simp; omega
  have e22 : decide (65536 ≤ r) = true := by simp; omega
  have e23 : decide (r ≤ 983039) = false := by simp; omega
  have e24 : (r == 183) = false := by simp; omega
  have e25 : decide (768 ≤ r) = true := by simp; omega
  have e26 : decide (r ≤ 879) = false := by simp; omega
  have e27 : decide (8255 ≤ r) = true := by simp; omega
  have e28 : decide (r ≤ 8256) = false := by simp; omega
  clear h1
  go_enter Try.func11, Try.ntmps11
  dsimp only [List.append]
  go_wp2
  go_ret
  exact ⟨rfl, rfl⟩


/-- what 'isNameRune' answers -/
def nmB (r : Int) (st : Bool) : Bool :=
  decide ((192 ≤ r ∧ r ≤ 214) ∨ (216 ≤ r ∧ r ≤ 246) ∨ (248 ≤ r ∧ r ≤ 767) ∨ (880 ≤ r ∧ r ≤ 893) ∨ (895 ≤ r ∧ r ≤ 8191) ∨ (8204 ≤ r ∧ r ≤ 8205) ∨ (8304 ≤ r ∧ r ≤ 8591) ∨ (11264 ≤ r ∧ r ≤ 12271) ∨ (12289 ≤ r ∧ r ≤ 55295) ∨ (63744 ≤ r ∧ r ≤ 64975) ∨ (65008 ≤ r ∧ r ≤ 65533) ∨ (65536 ≤ r ∧ r ≤ 983039)) || (!st && decide (r = 183 ∨ (768 ≤ r ∧ r ≤ 879) ∨ (8255 ≤ r ∧ r ≤ 8256)))

theorem ret_b {a b : Bool} {P : World → Prop} {e : Ending} {w : World} (h : a = b) (he : e = .returned (.bool a) ∧ P w) : e = .returned (.bool b) ∧ P w := h ▸ he

theorem name_any (r : Int) (st : Bool) (w : World) :
    Calls Try.prog 11 #[.int .i32 r, .bool st] w fun e w' => e = .returned (.bool (nmB r st)) ∧ w' = w := by
  by_cases g0 : r ≤ 182
  · cases st
    · have hb : false = nmB r false := by simp [nmB]; omega
      exact (c0 r w (by omega)).mono fun e w' h => ret_b (P := fun x => x = w) hb h
    · have hb : false = nmB r true := by simp [nmB]; omega
      exact (s0 r w (by omega)).mono fun e w' h => ret_b (P := fun x => x = w) hb h
  by_cases g1 : r ≤ 183
  · cases st
    · have hb : true = nmB r false := by simp [nmB]; omega
      exact (c1 r w (by omega) (by omega)).mono fun e w' h => ret_b (P := fun x => x = w) hb h
    · have hb : false = nmB r true := by simp [nmB]; omega
      exact (s1 r w (by omega) (by omega)).mono fun e w' h => ret_b (P := fun x => x = w) hb h
  by_cases g2 : r ≤ 191
  · cases st
    · have hb : false = nmB r false := by simp [nmB]; omega
      exact (c2 r w (by omega) (by omega)).mono fun e w' h => ret_b (P := fun x => x = w) hb h
    · have hb : false = nmB r true := by simp [nmB]; omega
      exact (s2 r w (by omega) (by omega)).mono fun e w' h => ret_b (P := fun x => x = w) hb h
  by_cases g3 : r ≤ 214
  · have hb : true = nmB r st := by simp [nmB]; omega
    exact (y3 r st w (by omega) (by omega)).mono fun e w' h => ret_b (P := fun x => x = w) hb h
  by_cases g4 : r ≤ 215
  · cases st
    · have hb : false = nmB r false := by simp [nmB]; omega
      exact (c4 r w (by omega) (by omega)).mono fun e w' h => ret_b (P := fun x => x = w) hb h
    · have hb : false = nmB r true := by simp [nmB]; omega
      exact (s4 r w (by omega) (by omega)).mono fun e w' h => ret_b (P := fun x => x = w) hb h
  by_cases g5 : r ≤ 246
  · have hb : true = nmB r st := by simp [nmB]; omega
    exact (y5 r st w (by omega) (by omega)).mono fun e w' h => ret_b (P := fun x => x = w) hb h
  by_cases g6 : r ≤ 247
  · cases st
    · have hb : false = nmB r false := by simp [nmB]; omega
      exact (c6 r w (by omega) (by omega)).mono fun e w' h => ret_b (P := fun x => x = w) hb h
    · have hb : false = nmB r true := by simp [nmB]; omega
      exact (s6 r w (by omega) (by omega)).mono fun e w' h => ret_b (P := fun x => x = w) hb h
  by_cases g7 : r ≤ 767
  · have hb : true = nmB r st := by simp [nmB]; omega
    exact (y7 r st w (by omega) (by omega)).mono fun e w' h => ret_b (P := fun x => x = w) hb h
  by_cases g8 : r ≤ 879
  · cases st
    · have hb : true = nmB r false := by simp [nmB]; omega
      exact (c8 r w (by omega) (by omega)).mono fun e w' h => ret_b (P := fun x => x = w) hb h
    · have hb : false = nmB r true := by simp [nmB]; omega
      exact (s8 r w (by omega) (by omega)).mono fun e w' h => ret_b (P := fun x => x = w) hb h
  by_cases g9 : r ≤ 893
  · have hb : true = nmB r st := by simp [nmB]; omega
    exact (y9 r st w (by omega) (by omega)).mono fun e w' h => ret_b (P := fun x => x = w) hb h
  by_cases g10 : r ≤ 894
  · cases st
    · have hb : false = nmB r false := by simp [nmB]; omega
      exact (c10 r w (by omega) (by omega)).mono fun e w' h => ret_b (P := fun x => x = w) hb h
    · have hb : false = nmB r true := by simp [nmB]; omega
      exact (s10 r w (by omega) (by omega)).mono fun e w' h => ret_b (P := fun x => x = w) hb h
  by_cases g11 : r ≤ 8191
  · have hb : true = nmB r st := by simp [nmB]; omega
    exact (y11 r st w (by omega) (by omega)).mono fun e w' h => ret_b (P := fun x => x = w) hb h
  by_cases g12 : r ≤ 8203
  · cases st
    · have hb : false = nmB r false := by simp [nmB]; omega
      exact (c12 r w (by omega) (by omega)).mono fun e w' h => ret_b (P := fun x => x = w) hb h
    · have hb : false = nmB r true := by simp [nmB]; omega
      exact (s12 r w (by omega) (by omega)).mono fun e w' h => ret_b (P := fun x => x = w) hb h
  by_cases g13 : r ≤ 8205
  · have hb : true = nmB r st := by simp [nmB]; omega
    exact (y13 r st w (by omega) (by omega)).mono fun e w' h => ret_b (P := fun x => x = w) hb h
  by_cases g14 : r ≤ 8254
  · cases st
    · have hb : false = nmB r false := by simp [nmB]; omega
      exact (c14 r w (by omega) (by omega)).mono fun e w' h => ret_b (P := fun x => x = w) hb h
    · have hb : false = nmB r true := by simp [nmB]; omega
      exact (s14 r w (by omega) (by omega)).mono fun e w' h => ret_b (P := fun x => x = w) hb h
  by_cases g15 : r ≤ 8256
  · cases st
    · have hb : true = nmB r false := by simp [nmB]; omega
      exact (c15 r w (by omega) (by omega)).mono fun e w' h => ret_b (P := fun x => x = w) hb h
    · have hb : false = nmB r true := by simp [nmB]; omega
      exact (s15 r w (by omega) (by omega)).mono fun e w' h => ret_b (P := fun x => x = w) hb h
  by_cases g16 : r ≤ 8303
  · cases st
    · have hb : false = nmB r false := by simp [nmB]; omega
      exact (c16 r w (by omega) (by omega)).mono fun e w' h => ret_b (P := fun x => x = w) hb h
    · have hb : false = nmB r true := by simp [nmB]; omega
      exact (s16 r w (by omega) (by omega)).mono fun e w' h => ret_b (P := fun x => x = w) hb h
  by_cases g17 : r ≤ 8591
  · have hb : true = nmB r st := by simp [nmB]; omega
    exact (y17 r st w (by omega) (by omega)).mono fun e w' h => ret_b (P := fun x => x = w) hb h
  by_cases g18 : r ≤ 11263
  · cases st
    · have hb : false = nmB r false := by simp [nmB]; omega
      exact (c18 r w (by omega) (by omega)).mono fun e w' h => ret_b (P := fun x => x = w) hb h
    · have hb : false = nmB r true := by simp [nmB]; omega
      exact (s18 r w (by omega) (by omega)).mono fun e w' h => ret_b (P := fun x => x = w) hb h
  by_cases g19 : r ≤ 12271
  · have hb : true = nmB r st := by simp [nmB]; omega
    exact (y19 r st w (by omega) (by omega)).mono fun e w' h => ret_b (P := fun x => x = w) hb h
  by_cases g20 : r ≤ 12288
  · cases st
    · have hb : false = nmB r false := by simp [nmB]; omega
      exact (c20 r w (by omega) (by omega)).mono fun e w' h => ret_b (P := fun x => x = w) hb h
    · have hb : false = nmB r true := by simp [nmB]; omega
      exact (s20 r w (by omega) (by omega)).mono fun e w' h => ret_b (P := fun x => x = w) hb h
  by_cases g21 : r ≤ 55295
  · have hb : true = nmB r st := by simp [nmB]; omega
    exact (y21 r st w (by omega) (by omega)).mono fun e w' h => ret_b (P := fun x => x = w) hb h
  by_cases g22 : r ≤ 63743
  · cases st
    · have hb : false = nmB r false := by simp [nmB]; omega
      exact (c22 r w (by omega) (by omega)).mono fun e w' h => ret_b (P := fun x => x = w) hb h
    · have hb : false = nmB r true := by simp [nmB]; omega
      exact (s22 r w (by omega) (by omega)).mono fun e w' h => ret_b (P := fun x => x = w) hb h
  by_cases g23 : r ≤ 64975
  · have hb : true = nmB r st := by simp [nmB]; omega
    exact (y23 r st w (by omega) (by omega)).mono fun e w' h => ret_b (P := fun x => x = w) hb h
  by_cases g24 : r ≤ 65007
  · cases st
    · have hb : false = nmB r false := by simp [nmB]; omega
      exact (c24 r w (by omega) (by omega)).mono fun e w' h => ret_b (P := fun x => x = w) hb h
    · have hb : false = nmB r true := by simp [nmB]; omega
      exact (s24 r w (by omega) (by omega)).mono fun e w' h => ret_b (P := fun x => x = w) hb h
  by_cases g25 : r ≤ 65533
  · have hb : true = nmB r st := by simp [nmB]; omega
    exact (y25 r st w (by omega) (by omega)).mono fun e w' h => ret_b (P := fun x => x = w) hb h
  by_cases g26 : r ≤ 65535
  · cases st
    · have hb : false = nmB r false := by simp [nmB]; omega
      exact (c26 r w (by omega) (by omega)).mono fun e w' h => ret_b (P := fun x => x = w) hb h
    · have hb : false = nmB r true := by simp [nmB]; omega
      exact (s26 r w (by omega) (by omega)).mono fun e w' h => ret_b (P := fun x => x = w) hb h
  by_cases g27 : r ≤ 983039
  · have hb : true = nmB r st := by simp [nmB]; omega
    exact (y27 r st w (by omega) (by omega)).mono fun e w' h => ret_b (P := fun x => x = w) hb h
  cases st
  · have hb : false = nmB r false := by simp [nmB]; omega
    exact (c28 r w (by omega) ).mono fun e w' h => ret_b (P := fun x => x = w) hb h
  · have hb : false = nmB r true := by simp [nmB]; omega
    exact (s28 r w (by omega) ).mono fun e w' h => ret_b (P := fun x => x = w) hb h

end Go.Proofs.Qxb6602134a.nm
