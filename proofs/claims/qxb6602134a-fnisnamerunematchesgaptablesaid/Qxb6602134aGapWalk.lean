import Derived.Test.Qxb6602134aRows
import Derived.WalkKit
import Derived.ProofKit
import Derived.BigGuardPart
/-
  THE WALK OF 'b1InNameGap' (function 12), as that of 'isNameRune' (Qxb6602134aNameWalk): a small theorem for each stretch of runes on which every test is decided. Written by a script of mine, checked by the kernel.
-/
namespace Go.Proofs.Qxb6602134a.gp
open Go.ChangeShapes Go.WideShapes Go.ChangeAt Go.RowKit

set_option maxRecDepth 100000 in
set_option maxHeartbeats 400000 in
theorem g0 (r : Int) (w : World) (h2 : r ≤ 183) :
    Calls Try.prog 12 #[.int .i32 r] w fun e w' => e = .returned (.bool false) ∧ w' = w := by
  have e0 : decide (184 ≤ r) = false := by simp; omega
  have e1 : (r == 215) = false := by simp; omega
  have e2 : (r == 247) = false := by simp; omega
  have e3 : (r == 894) = false := by simp; omega
  have e4 : decide (8192 ≤ r) = false := by simp; omega
  have e5 : decide (8206 ≤ r) = false := by simp; omega
  have e6 : decide (8257 ≤ r) = false := by simp; omega
  have e7 : decide (8592 ≤ r) = false := by simp; omega
  have e8 : decide (12272 ≤ r) = false := by simp; omega
  have e9 : decide (55296 ≤ r) = false := by simp; omega
  have e10 : decide (64976 ≤ r) = false := by simp; omega
  have e11 : decide (65534 ≤ r) = false := by simp; omega
  clear h2
  go_enter Try.func12, Try.ntmps12
  dsimp only [List.append]
  go_wp2
  go_ret
  exact ⟨rfl, rfl⟩

set_option maxRecDepth 100000 in
set_option maxHeartbeats 400000 in
theorem g1 (r : Int) (w : World) (h1 : 184 ≤ r) (h2 : r ≤ 191) :
    Calls Try.prog 12 #[.int .i32 r] w fun e w' => e = .returned (.bool true) ∧ w' = w := by
  have e0 : decide (184 ≤ r) = true := by simp; omega
  have e1 : decide (r ≤ 191) = true := by simp; omega
  clear h1 h2
  go_enter Try.func12, Try.ntmps12
  dsimp only [List.append]
  go_wp2
  go_ret
  exact ⟨rfl, rfl⟩

set_option maxRecDepth 100000 in
set_option maxHeartbeats 400000 in
theorem g2 (r : Int) (w : World) (h1 : 192 ≤ r) (h2 : r ≤ 214) :
    Calls Try.prog 12 #[.int .i32 r] w fun e w' => e = .returned (.bool false) ∧ w' = w := by
  have e0 : decide (184 ≤ r) = true := by simp; omega
  have e1 : decide (r ≤ 191) = false := by simp; omega
  have e2 : (r == 215) = false := by simp; omega
  have e3 : (r == 247) = false := by simp; omega
  have e4 : (r == 894) = false := by simp; omega
  have e5 : decide (8192 ≤ r) = false := by simp; omega
  have e6 : decide (8206 ≤ r) = false := by simp; omega
  have e7 : decide (8257 ≤ r) = false := by simp; omega
  have e8 : decide (8592 ≤ r) = false := by simp; omega
  have e9 : decide (12272 ≤ r) = false := by simp; omega
  have e10 : decide (55296 ≤ r) = false := by simp; omega
  have e11 : decide (64976 ≤ r) = false := by simp; omega
  have e12 : decide (65534 ≤ r) = false := by simp; omega
  clear h1 h2
  go_enter Try.func12, Try.ntmps12
  dsimp only [List.append]
  go_wp2
  go_ret
  exact ⟨rfl, rfl⟩

set_option maxRecDepth 100000 in
set_option maxHeartbeats 400000 in
theorem g3 (r : Int) (w : World) (h1 : 215 ≤ r) (h2 : r ≤ 215) :
    Calls Try.prog 12 #[.int .i32 r] w fun e w' => e = .returned (.bool true) ∧ w' = w := by
  have e0 : decide (184 ≤ r) = true := by simp; omega
  have e1 : decide (r ≤ 191) = false := by simp; omega
  have e2 : (r == 215) = true := by simp; omega
  clear h1 h2
  go_enter Try.func12, Try.ntmps12
  dsimp only [List.append]
  go_wp2
  go_ret
  exact ⟨rfl, rfl⟩

set_option maxRecDepth 100000 in
set_option maxHeartbeats 400000 in
theorem g4 (r : Int) (w : World) (h1 : 216 ≤ r) (h2 : r ≤ 246) :
    Calls Try.prog 12 #[.int .i32 r] w fun e w' => e = .returned (.bool false) ∧ w' = w := by
  have e0 : decide (184 ≤ r) = true := by simp; omega
  have e1 : decide (r ≤ 191) = false := by simp; omega
  have e2 : (r == 215) = false := by simp; omega
  have e3 : (r == 247) = false := by simp; omega
  have e4 : (r == 894) = false := by simp; omega
  have e5 : decide (8192 ≤ r) = false := by simp; omega
  have e6 : decide (8206 ≤ r) = false := by simp; omega
  have e7 : decide (8257 ≤ r) = false := by simp; omega
  have e8 : decide (8592 ≤ r) = false := by simp; omega
  have e9 : decide (12272 ≤ r) = false := by simp; omega
  have e10 : decide (55296 ≤ r) = false := by simp; omega
  have e11 : decide (64976 ≤ r) = false := by simp; omega
  have e12 : decide (65534 ≤ r) = false := by simp; omega
  clear h1 h2
  go_enter Try.func12, Try.ntmps12
  dsimp only [List.append]
  go_wp2
  go_ret
  exact ⟨rfl, rfl⟩

set_option maxRecDepth 100000 in
set_option maxHeartbeats 400000 in
theorem g5 (r : Int) (w : World) (h1 : 247 ≤ r) (h2 : r ≤ 247) :
    Calls Try.prog 12 #[.int .i32 r] w fun e w' => e = .returned (.bool true) ∧ w' = w := by
  have e0 : decide (184 ≤ r) = true := by simp; omega
  have e1 : decide (r ≤ 191) = false := by simp; omega
  have e2 : (r == 215) = false := by simp; omega
  have e3 : (r == 247) = true := by simp; omega
  clear h1 h2
  go_enter Try.func12, Try.ntmps12
  dsimp only [List.append]
  go_wp2
  go_ret
  exact ⟨rfl, rfl⟩

set_option maxRecDepth 100000 in
set_option maxHeartbeats 400000 in
theorem g6 (r : Int) (w : World) (h1 : 248 ≤ r) (h2 : r ≤ 893) :
    Calls Try.prog 12 #[.int .i32 r] w fun e w' => e = .returned (.bool false) ∧ w' = w := by
  have e0 : decide (184 ≤ r) = true := by simp; omega
  have e1 : decide (r ≤ 191) = false := by simp; omega
  have e2 : (r == 215) = false := by simp; omega
  have e3 : (r == 247) = false := by simp; omega
  have e4 : (r == 894) = false := by simp; omega
  have e5 : decide (8192 ≤ r) = false := by simp; omega
  have e6 : decide (8206 ≤ r) = false := by simp; omega
  have e7 : decide (8257 ≤ r) = false := by simp; omega
  have e8 : decide (8592 ≤ r) = false := by simp; omega
  have e9 : decide (12272 ≤ r) = false := by simp; omega
  have e10 : decide (55296 ≤ r) = false := by simp; omega
  have e11 : decide (64976 ≤ r) = false := by simp; omega
  have e12 : decide (65534 ≤ r) = false := by simp; omega
  clear h1 h2
  go_enter Try.func12, Try.ntmps12
  dsimp only [List.append]
  go_wp2
  go_ret
  exact ⟨rfl, rfl⟩

set_option maxRecDepth 100000 in
set_option maxHeartbeats 400000 in
theorem g7 (r : Int) (w : World) (h1 : 894 ≤ r) (h2 : r ≤ 894) :
    Calls Try.prog 12 #[.int .i32 r] w fun e w' => e = .returned (.bool true) ∧ w' = w := by
  have e0 : decide (184 ≤ r) = true := by simp; omega
  have e1 : decide (r ≤ 191) = false := by simp; omega
  have e2 : (r == 215) = false := by simp; omega
  have e3 : (r == 247) = false := by simp; omega
  have e4 : (r == 894) = true := by simp; omega
  clear h1 h2
  go_enter Try.func12, Try.ntmps12
  dsimp only [List.append]
  go_wp2
  go_ret
  exact ⟨rfl, rfl⟩

set_option maxRecDepth 100000 in
set_option maxHeartbeats 400000 in
theorem g8 (r : Int) (w : World) (h1 : 895 ≤ r) (h2 : r ≤ 8191) :
    Calls Try.prog 12 #[.int .i32 r] w fun e w' => e = .returned (.bool false) ∧ w' = w := by
  have e0 : decide (184 ≤ r) = true := by simp; omega
  have e1 : decide (r ≤ 191) = false := by simp; omega
  have e2 : (r == 215) = false := by simp; omega
  have e3 : (r == 247) = false := by simp; omega
  have e4 : (r == 894) = false := by simp; omega
  have e5 : decide (8192 ≤ r) = false := by simp; omega
  have e6 : decide (8206 ≤ r) = false := by simp; omega
  have e7 : decide (8257 ≤ r) = false := by simp; omega
  have e8 : decide (8592 ≤ r) = false := by simp; omega
  have e9 : decide (12272 ≤ r) = false := by simp; omega
  have e10 : decide (55296 ≤ r) = false := by simp; omega
  have e11 : decide (64976 ≤ r) = false := by simp; omega
  have e12 : decide (65534 ≤ r) = false := by simp; omega
  clear h1 h2
  go_enter Try.func12, Try.ntmps12
  dsimp only [List.append]
  go_wp2
  go_ret
  exact ⟨rfl, rfl⟩

set_option maxRecDepth 100000 in
set_option maxHeartbeats 400000 in
theorem g9 (r : Int) (w : World) (h1 : 8192 ≤ r) (h2 : r ≤ 8203) :
    Calls Try.prog 12 #[.int .i32 r] w fun e w' => e = .returned (.bool true) ∧ w' = w := by
  have e0 : decide (184 ≤ r) = true := by simp; omega
  have e1 : decide (r ≤ 191) = false := by simp; omega
  have e2 : (r == 215) = false := by simp; omega
  have e3 : (r == 247) = false := by simp; omega
  have e4 : (r == 894) = false := by simp; omega
  have e5 : decide (8192 ≤ r) = true := by simp; omega
  have e6 : decide (r ≤ 8203) = true := by simp; omega
  clear h1 h2
  go_enter Try.func12, Try.ntmps12
  dsimp only [List.append]
  go_wp2
  go_ret
  exact ⟨rfl, rfl⟩

set_option maxRecDepth 100000 in
set_option maxHeartbeats 400000 in
theorem g10 (r : Int) (w : World) (h1 : 8204 ≤ r) (h2 : r ≤ 8205) :
    Calls Try.prog 12 #[.int .i32 r] w fun e w' => e = .returned (.bool false) ∧ w' = w := by
  have e0 : decide (184 ≤ r) = true := by simp; omega
  have e1 : decide (r ≤ 191) = false := by simp; omega
  have e2 : (r == 215) = false := by simp; omega
  have e3 : (r == 247) = false := by simp; omega
  have e4 : (r == 894) = false := by simp; omega
  have e5 : decide (8192 ≤ r) = true := by simp; omega
  have e6 : decide (r ≤ 8203) = false := by simp; omega
  have e7 : decide (8206 ≤ r) = false := by simp; omega
  have e8 : decide (8257 ≤ r) = false := by simp; omega
  have e9 : decide (8592 ≤ r) = false := by simp; omega
  have e10 : decide (12272 ≤ r) = false := by simp; omega
  have e11 : decide (55296 ≤ r) = false := by simp; omega
  have e12 : decide (64976 ≤ r) = false := by simp; omega
  have e13 : decide (65534 ≤ r) = false := by simp; omega
  clear h1 h2
  go_enter Try.func12, Try.ntmps12
  dsimp only [List.append]
  go_wp2
  go_ret
  exact ⟨rfl, rfl⟩

set_option maxRecDepth 100000 in
set_option maxHeartbeats 400000 in
theorem g11 (r : Int) (w : World) (h1 : 8206 ≤ r) (h2 : r ≤ 8254) :
    Calls Try.prog 12 #[.int .i32 r] w fun e w' => e = .returned (.bool true) ∧ w' = w := by
  have e0 : decide (184 ≤ r) = true := by simp; omega
  have e1 : decide (r ≤ 191) = false := by simp; omega
  have e2 : (r == 215) = false := by simp; omega
  have e3 : (r == 247) = false := by simp; omega
  have e4 : (r == 894) = false := by simp; omega
  have e5 : decide (8192 ≤ r) = true := by simp; omega
  have e6 : decide (r ≤ 8203) = false := by simp; omega
  have e7 : decide (8206 ≤ r) = true := by simp; omega
  have e8 : decide (r ≤ 8254) = true := by simp; omega
  clear h1 h2
  go_enter Try.func12, Try.ntmps12
  dsimp only [List.append]
  go_wp2
  go_ret
  exact ⟨rfl, rfl⟩

set_option maxRecDepth 100000 in
set_option maxHeartbeats 400000 in
theorem g12 (r : Int) (w : World) (h1 : 8255 ≤ r) (h2 : r ≤ 8256) :
    Calls Try.prog 12 #[.int .i32 r] w fun e w' => e = .returned (.bool false) ∧ w' = w := by
  have e0 : decide (184 ≤ r) = true := by simp; omega
  have e1 : decide (r ≤ 191) = false := by simp; omega
  have e2 : (r == 215) = false := by simp; omega
  have e3 : (r == 247) = false := by simp; omega
  have e4 : (r == 894) = false := by simp; omega
  have e5 : decide (8192 ≤ r) = true := by simp; omega
  have e6 : decide (r ≤ 8203) = false := by simp; omega
  have e7 : decide (8206 ≤ r) = true := by simp; omega
  have e8 : decide (r ≤ 8254) = false := by simp; omega
  have e9 : decide (8257 ≤ r) = false := by simp; omega
  have e10 : decide (8592 ≤ r) = false := by simp; omega
  have e11 : decide (12272 ≤ r) = false := by simp; omega
  have e12 : decide (55296 ≤ r) = false := by simp; omega
  have e13 : decide (64976 ≤ r) = false := by simp; omega
  have e14 : decide (65534 ≤ r) = false := by simp; omega
  clear h1 h2
  go_enter Try.func12, Try.ntmps12
  dsimp only [List.append]
  go_wp2
  go_ret
  exact ⟨rfl, rfl⟩

set_option maxRecDepth 100000 in
set_option maxHeartbeats 400000 in
theorem g13 (r : Int) (w : World) (h1 : 8257 ≤ r) (h2 : r ≤ 8303) :
    Calls Try.prog 12 #[.int .i32 r] w fun e w' => e = .returned (.bool true) ∧ w' = w := by
  have e0 : decide (184 ≤ r) = true := by simp; omega
  have e1 : decide (r ≤ 191) = false := by simp; omega
  have e2 : (r == 215) = false := by simp; omega
  have e3 : (r == 247) = false := by simp; omega
  have e4 : (r == 894) = false := by simp; omega
  have e5 : decide (8192 ≤ r) = true := by simp; omega
  have e6 : decide (r ≤ 8203) = false := by simp; omega
  have e7 : decide (8206 ≤ r) = true := by simp; omega
  have e8 : decide (r ≤ 8254) = false := by simp; omega
  have e9 : decide (8257 ≤ r) = true := by simp; omega
  have e10 : decide (r ≤ 8303) = true := by simp; omega
  clear h1 h2
  go_enter Try.func12, Try.ntmps12
  dsimp only [List.append]
  go_wp2
  go_ret
  exact ⟨rfl, rfl⟩

set_option maxRecDepth 100000 in
set_option maxHeartbeats 400000 in
theorem g14 (r : Int) (w : World) (h1 : 8304 ≤ r) (h2 : r ≤ 8591) :
    Calls Try.prog 12 #[.int .i32 r] w fun e w' => e = .returned (.bool false) ∧ w' = w := by
  have e0 : decide (184 ≤ r) = true := by simp; omega
  have e1 : decide (r ≤ 191) = false := by simp; omega
  have e2 : (r == 215) = false := by simp; omega
  have e3 : (r == 247) = false := by simp; omega
  have e4 : (r == 894) = false := by simp; omega
  have e5 : decide (8192 ≤ r) = true := by simp; omega
  have e6 : decide (r ≤ 8203) = false := by simp; omega
  have e7 : decide (8206 ≤ r) = true := by simp; omega
  have e8 : decide (r ≤ 8254) = false := by simp; omega
  have e9 : decide (8257 ≤ r) = true := by simp; omega
  have e10 : decide (r ≤ 8303) = false := by simp; omega
  have e11 : decide (8592 ≤ r) = false := by simp; omega
  have e12 : decide (12272 ≤ r) = false := by simp; omega
  have e13 : decide (55296 ≤ r) = false := by simp; omega
  have e14 : decide (64976 ≤ r) = false := by simp; omega
  have e15 : decide (65534 ≤ r) = false := by simp; omega
  clear h1 h2
  go_enter Try.func12, Try.ntmps12
  dsimp only [List.append]
  go_wp2
  go_ret
  exact ⟨rfl, rfl⟩

set_option maxRecDepth 100000 in
set_option maxHeartbeats 400000 in
theorem g15 (r : Int) (w : World) (h1 : 8592 ≤ r) (h2 : r ≤ 11263) :
    Calls Try.prog 12 #[.int .i32 r] w fun e w' => e = .returned (.bool true) ∧ w' = w := by
  have e0 : decide (184 ≤ r) = true := by simp; omega
  have e1 : decide (r ≤ 191) = false := by simp; omega
  have e2 : (r == 215) = false := by simp; omega
  have e3 : (r == 247) = false := by simp; omega
  have e4 : (r == 894) = false := by simp; omega
  have e5 : decide (8192 ≤ r) = true := by simp; omega
  have e6 : decide (r ≤ 8203) = false := by simp; omega
  have e7 : decide (8206 ≤ r) = true := by simp; omega
  have e8 : decide (r ≤ 8254) = false := by simp; omega
  have e9 : decide (8257 ≤ r) = true := by simp; omega
  have e10 : decide (r ≤ 8303) = false := by simp; omega
  have e11 : decide (8592 ≤ r) = true := by simp; omega
  have e12 : decide (r ≤ 11263) = true := by simp; omega
  clear h1 h2
  go_enter Try.func12, Try.ntmps12
  dsimp only [List.append]
  go_wp2
  go_ret
  exact ⟨rfl, rfl⟩

set_option maxRecDepth 100000 in
set_option maxHeartbeats 400000 in
theorem g16 (r : Int) (w : World) (h1 : 11264 ≤ r) (h2 : r ≤ 12271) :
    Calls Try.prog 12 #[.int .i32 r] w fun e w' => e = .returned (.bool false) ∧ w' = w := by
  have e0 : decide (184 ≤ r) = true := by simp; omega
  have e1 : decide (r ≤ 191) = false := by simp; omega
  have e2 : (r == 215) = false := by simp; omega
  have e3 : (r == 247) = false := by simp; omega
  have e4 : (r == 894) = false := by simp; omega
  have e5 : decide (8192 ≤ r) = true := by simp; omega
  have e6 : decide (r ≤ 8203) = false := by simp; omega
  have e7 : decide (8206 ≤ r) = true := by simp; omega
  have e8 : decide (r ≤ 8254) = false := by simp; omega
  have e9 : decide (8257 ≤ r) = true := by simp; omega
  have e10 : decide (r ≤ 8303) = false := by simp; omega
  have e11 : decide (8592 ≤ r) = true := by simp; omega
  have e12 : decide (r ≤ 11263) = false := by simp; omega
  have e13 : decide (12272 ≤ r) = false := by simp; omega
  have e14 : decide (55296 ≤ r) = false := by simp; omega
  have e15 : decide (64976 ≤ r) = false := by simp; omega
  have e16 : decide (65534 ≤ r) = false := by simp; omega
  clear h1 h2
  go_enter Try.func12, Try.ntmps12
  dsimp only [List.append]
  go_wp2
  go_ret
  exact ⟨rfl, rfl⟩

set_option maxRecDepth 100000 in
set_option maxHeartbeats 400000 in
theorem g17 (r : Int) (w : World) (h1 : 12272 ≤ r) (h2 : r ≤ 12288) :
    Calls Try.prog 12 #[.int .i32 r] w fun e w' => e = .returned (.bool true) ∧ w' = w := by
  have e0 : decide (184 ≤ r) = true := by simp; omega
  have e1 : decide (r ≤ 191) = false := by simp; omega
  have e2 : (r == 215) = false := by simp; omega
  have e3 : (r == 247) = false := by simp; omega
  have e4 : (r == 894) = false := by simp; omega
  have e5 : decide (8192 ≤ r) = true := by simp; omega
  have e6 : decide (r ≤ 8203) = false := by simp; omega
  have e7 : decide (8206 ≤ r) = true := by simp; omega
  have e8 : decide (r ≤ 8254) = false := by simp; omega
  have e9 : decide (8257 ≤ r) = true := by simp; omega
  have e10 : decide (r ≤ 8303) = false := by simp; omega
  have e11 : decide (8592 ≤ r) = true := by simp; omega
  have e12 : decide (r ≤ 11263) = false := by simp; omega
  have e13 : decide (12272 ≤ r) = true := by simp; omega
  have e14 : decide (r ≤ 12288) = true := by simp; omega
  clear h1 h2
  go_enter Try.func12, Try.ntmps12
  dsimp only [List.append]
  go_wp2
  go_ret
  exact ⟨rfl, rfl⟩

set_option maxRecDepth 100000 in
set_option maxHeartbeats 400000 in
theorem g18 (r : Int) (w : World) (h1 : 12289 ≤ r) (h2 : r ≤ 55295) :
    Calls Try.prog 12 #[.int .i32 r] w fun e w' => e = .returned (.bool false) ∧ w' = w := by
  have e0 : decide (184 ≤ r) = true := by simp; omega
  have e1 : decide (r ≤ 191) = false := by simp; omega
  have e2 : (r == 215) = false := by simp; omega
  have e3 : (r == 247) = false := by simp; omega
  have e4 : (r == 894) = false := by simp; omega
  have e5 : decide (8192 ≤ r) = true := by simp; omega
  have e6 : decide (r ≤ 8203) = false := by simp; omega
  have e7 : decide (8206 ≤ r) = true := by simp; omega
  have e8 : decide (r ≤ 8254) = false := by simp; omega
  have e9 : decide (8257 ≤ r) = true := by simp; omega
  have e10 : decide (r ≤ 8303) = false := by simp; omega
  have e11 : decide (8592 ≤ r) = true := by simp; omega
  have e12 : decide (r ≤ 11263) = false := by simp; omega
  have e13 : decide (12272 ≤ r) = true := by simp; omega
  have e14 : decide (r ≤ 12288) = false := by simp; omega
  have e15 : decide (55296 ≤ r) = false := by simp; omega
  have e16 : decide (64976 ≤ r) = false := by simp; omega
  have e17 : decide (65534 ≤ r) = false := by simp; omega
  clear h1 h2
  go_enter Try.func12, Try.ntmps12
  dsimp only [List.append]
  go_wp2
  go_ret
  exact ⟨rfl, rfl⟩

set_option maxRecDepth 100000 in
set_option maxHeartbeats 400000 in
theorem g19 (r : Int) (w : World) (h1 : 55296 ≤ r) (h2 : r ≤ 63743) :
    Calls Try.prog 12 #[.int .i32 r] w fun e w' => e = .returned (.bool true) ∧ w' = w := by
  have e0 : decide (184 ≤ r) = true := by simp; omega
  have e1 : decide (r ≤ 191) = false := by simp; omega
  have e2 : (r == 215) = false := by simp; omega
  have e3 : (r == 247) = false := by simp; omega
  have e4 : (r == 894) = false := by simp; omega
  have e5 : decide (8192 ≤ r) = true := by simp; omega
  have e6 : decide (r ≤ 8203) = false := by simp; omega
  have e7 : decide (8206 ≤ r) = true := by simp; omega
  have e8 : decide (r ≤ 8254) = false := by simp; omega
  have e9 : decide (8257 ≤ r) = true := by simp; omega
  have e10 : decide (r ≤ 8303) = false := by simp; omega
  have e11 : decide (8592 ≤ r) = true := by simp; omega
  have e12 : decide (r ≤ 11263) = false := by simp; omega
  have e13 : decide (12272 ≤ r) = true := by simp; omega
  have e14 : decide (r ≤ 12288) = false := by simp; omega
  have e15 : decide (55296 ≤ r) = true := by simp; omega
  have e16 : decide (r ≤ 63743) = true := by simp; omega
  clear h1 h2
  go_enter Try.func12, Try.ntmps12
  dsimp only [List.append]
  go_wp2
  go_ret
  exact ⟨rfl, rfl⟩

set_option maxRecDepth 100000 in
set_option maxHeartbeats 400000 in
theorem g20 (r : Int) (w : World) (h1 : 63744 ≤ r) (h2 : r ≤ 64975) :
    Calls Try.prog 12 #[.int .i32 r] w fun e w' => e = .returned (.bool false) ∧ w' = w := by
  have e0 : decide (184 ≤ r) = true := by simp; omega
  have e1 : decide (r ≤ 191) = false := by simp; omega
  have e2 : (r == 215) = false := by simp; omega
  have e3 : (r == 247) = false := by simp; omega
  have e4 : (r == 894) = false := by simp; omega
  have e5 : decide (8192 ≤ r) = true := by simp; omega
  have e6 : decide (r ≤ 8203) = false := by simp; omega
  have e7 : decide (8206 ≤ r) = true := by simp; omega
  have e8 : decide (r ≤ 8254) = false := by simp; omega
  have e9 : decide (8257 ≤ r) = true := by simp; omega
  have e10 : decide (r ≤ 8303) = false := by simp; omega
  have e11 : decide (8592 ≤ r) = true := by simp; omega
  have e12 : decide (r ≤ 11263) = false := by simp; omega
  have e13 : decide (12272 ≤ r) = true := by simp; omega
  have e14 : decide (r ≤ 12288) = false := by simp; omega
  have e15 : decide (55296 ≤ r) = true := by simp; omega
  have e16 : decide (r ≤ 63743) = false := by simp; omega
  have e17 : decide (64976 ≤ r) = false := by simp; omega
  have e18 : decide (65534 ≤ r) = false := by simp; omega
  clear h1 h2
  go_enter Try.func12, Try.ntmps12
  dsimp only [List.append]
  go_wp2
  go_ret
  exact ⟨rfl, rfl⟩

set_option maxRecDepth 100000 in
set_option maxHeartbeats 400000 in
theorem g21 (r : Int) (w : World) (h1 : 64976 ≤ r) (h2 : r ≤ 65007) :
    Calls Try.prog 12 #[.int .i32 r] w fun e w' => e = .returned (.bool true) ∧ w' = w := by
  have e0 : decide (184 ≤ r) = true := by simp; omega
  have e1 : decide (r ≤ 191) = false := by simp; omega
  have e2 : (r == 215) = false := by simp; omega
  have e3 : (r == 247) = false := by simp; omega
  have e4 : (r == 894) = false := by simp; omega
  have e5 : decide (8192 ≤ r) = true := by simp; omega
  have e6 : decide (r ≤ 8203) = false := by simp; omega
  have e7 : decide (8206 ≤ r) = true := by simp; omega
  have e8 : decide (r ≤ 8254) = false := by simp; omega
  have e9 : decide (8257 ≤ r) = true := by simp; omega
  have e10 : decide (r ≤ 8303) = false := by simp; omega
  have e11 : decide (8592 ≤ r) = true := by simp; omega
  have e12 : decide (r ≤ 11263) = false := by simp; omega
  have e13 : decide (12272 ≤ r) = true := by simp; omega
  have e14 : decide (r ≤ 12288) = false := by simp; omega
  have e15 : decide (55296 ≤ r) = true := by simp; omega
  have e16 : decide (r ≤ 63743) = false := by simp; omega
  have e17 : decide (64976 ≤ r) = true := by simp; omega
  have e18 : decide (r ≤ 65007) = true := by simp; omega
  clear h1 h2
  go_enter Try.func12, Try.ntmps12
  dsimp only [List.append]
  go_wp2
  go_ret
  exact ⟨rfl, rfl⟩

set_option maxRecDepth 100000 in
set_option maxHeartbeats 400000 in
theorem g22 (r : Int) (w : World) (h1 : 65008 ≤ r) (h2 : r ≤ 65533) :
    Calls Try.prog 12 #[.int .i32 r] w fun e w' => e = .returned (.bool false) ∧ w' = w := by
  have e0 : decide (184 ≤ r) = true := by simp; omega
  have e1 : decide (r ≤ 191) = false := by simp; omega
  have e2 : (r == 215) = false := by simp; omega
  have e3 : (r == 247) = false := by simp; omega
  have e4 : (r == 894) = false := by simp; omega
  have e5 : decide (8192 ≤ r) = true := by simp; omega
  have e6 : decide (r ≤ 8203) = false := by simp; omega
  have e7 : decide (8206 ≤ r) = true := by simp; omega
  have e8 : decide (r ≤ 8254) = false := by simp; omega
  have e9 : decide (8257 ≤ r) = true := by simp; omega
  have e10 : decide (r ≤ 8303) = false := by simp; omega
  have e11 : decide (8592 ≤ r) = true := by simp; omega
  have e12 : decide (r ≤ 11263) = false := by simp; omega
  have e13 : decide (12272 ≤ r) = true := by simp; omega
  have e14 : decide (r ≤ 12288) = false := by simp; omega
  have e15 : decide (55296 ≤ r) = true := by simp; omega
  have e16 : decide (r ≤ 63743) = false := by simp; omega
  have e17 : decide (64976 ≤ r) = true := by simp; omega
  have e18 : decide (r ≤ 65007) = false := by simp; omega
  have e19 : decide (65534 ≤ r) = false := by simp; omega
  clear h1 h2
  go_enter Try.func12, Try.ntmps12
  dsimp only [List.append]
  go_wp2
  go_ret
  exact ⟨rfl, rfl⟩

set_option maxRecDepth 100000 in
set_option maxHeartbeats 400000 in
theorem g23 (r : Int) (w : World) (h1 : 65534 ≤ r) (h2 : r ≤ 65535) :
    Calls Try.prog 12 #[.int .i32 r] w fun e w' => e = .returned (.bool true) ∧ w' = w := by
  have e0 : decide (184 ≤ r) = true := by simp; omega
  have e1 : decide (r ≤ 191) = false := by simp; omega
  have e2 : (r == 215) = false := by simp; omega
  have e3 : (r == 247) = false := by simp; omega
  have e4 : (r == 894) = false := by simp; omega
  have e5 : decide (8192 ≤ r) = true := by simp; omega
  have e6 : decide (r ≤ 8203) = false := by simp; omega
  have e7 : decide (8206 ≤ r) = true := by simp; omega
  have e8 : decide (r ≤ 8254) = false := by simp; omega
  have e9 : decide (8257 ≤ r) = true := by simp; omega
  have e10 : decide (r ≤ 8303) = false := by simp; omega
  have e11 : decide (8592 ≤ r) = true := by simp; omega
  have e12 : decide (r ≤ 11263) = false := by simp; omega
  have e13 : decide (12272 ≤ r) = true := by simp; omega
  have e14 : decide (r ≤ 12288) = false := by simp; omega
  have e15 : decide (55296 ≤ r) = true := by simp; omega
  have e16 : decide (r ≤ 63743) = false := by simp; omega
  have e17 : decide (64976 ≤ r) = true := by simp; omega
  have e18 : decide (r ≤ 65007) = false := by simp; omega
  have e19 : decide (65534 ≤ r) = true := by simp; omega
  have e20 : decide (r ≤ 65535) = true := by simp; omega
  clear h1 h2
  go_enter Try.func12, Try.ntmps12
  dsimp only [List.append]
  go_wp2
  go_ret
  exact ⟨rfl, rfl⟩

set_option maxRecDepth 100000 in
set_option maxHeartbeats 400000 in
theorem g24 (r : Int) (w : World) (h1 : 65536 ≤ r) :
    Calls Try.prog 12 #[.int .i32 r] w fun e w' => e = .returned (.bool false) ∧ w' = w := by
  have e0 : decide (184 ≤ r) = true := by simp; omega
  have e1 : decide (r ≤ 191) = false := by simp; omega
  have e2 : (r == 215) = false := by simp; omega
  have e3 : (r == 247) = false := by simp; omega
  have e4 : (r == 894) = false := by simp; omega
  have e5 : decide (8192 ≤ r) = true := by simp; omega
  have e6 : decide (r ≤ 8203) = false := by simp; omega
  have e7 : decide (8206 ≤ r) = true := by simp; omega
  have e8 : decide (r ≤ 8254) = false := by simp; omega
  have e9 : decide (8257 ≤ r) = true := by simp; omega
  have e10 : decide (r ≤ 8303) = false := by simp; omega
  have e11 : decide (8592 ≤ r) = true := by simp; omega
  have e12 : decide (r ≤ 11263) = false := by simp; omega
  have e13 : decide (12272 ≤ r) = true := by simp; omega
  have e14 : decide (r ≤ 12288) = false := by simp; omega
  have e15 : decide (55296 ≤ r) = true := by simp; omega
  have e16 : decide (r ≤ 63743) = false := by simp; omega
  have e17 : decide (64976 ≤ r) = true := by simp; omega
  have e18 : decide (r ≤ 65007) = false := by simp; omega
  have e19 : decide (65534 ≤ r) = true := by simp; omega
  have e20 : decide (r ≤ 65535) = false := by simp; omega
  clear h1
  go_enter Try.func12, Try.ntmps12
  dsimp only [List.append]
  go_wp2
  go_ret
  exact ⟨rfl, rfl⟩

/-- what 'b1InNameGap' answers -/
def gapB (r : Int) : Bool :=
  decide ((184 ≤ r ∧ r ≤ 191) ∨ r = 215 ∨ r = 247 ∨ r = 894 ∨ (8192 ≤ r ∧ r ≤ 8203) ∨ (8206 ≤ r ∧ r ≤ 8254) ∨ (8257 ≤ r ∧ r ≤ 8303) ∨ (8592 ≤ r ∧ r ≤ 11263) ∨ (12272 ≤ r ∧ r ≤ 12288) ∨ (55296 ≤ r ∧ r ≤ 63743) ∨ (64976 ≤ r ∧ r ≤ 65007) ∨ (65534 ≤ r ∧ r ≤ 65535))

theorem ret_b {a b : Bool} {P : World → Prop} {e : Ending} {w : World} (h : a = b) (he : e = .returned (.bool a) ∧ P w) : e = .returned (.bool b) ∧ P w := h ▸ he

theorem gap_any (r : Int) (w : World) :
    Calls Try.prog 12 #[.int .i32 r] w fun e w' => e = .returned (.bool (gapB r)) ∧ w' = w := by
  by_cases q0 : r ≤ 183
  · have hb : false = gapB r := by simp [gapB]; omega
    exact (g0 r w (by omega)).mono fun e w' h => ret_b (P := fun x => x = w) hb h
  by_cases q1 : r ≤ 191
  · have hb : true = gapB r := by simp [gapB]; omega
    exact (g1 r w (by omega) (by omega)).mono fun e w' h => ret_b (P := fun x => x = w) hb h
  by_cases q2 : r ≤ 214
  · have hb : false = gapB r := by simp [gapB]; omega
    exact (g2 r w (by omega) (by omega)).mono fun e w' h => ret_b (P := fun x => x = w) hb h
  by_cases q3 : r ≤ 215
  · have hb : true = gapB r := by simp [gapB]; omega
    exact (g3 r w (by omega) (by omega)).mono fun e w' h => ret_b (P := fun x => x = w) hb h
  by_cases q4 : r ≤ 246
  · have hb : false = gapB r := by simp [gapB]; omega
    exact (g4 r w (by omega) (by omega)).mono fun e w' h => ret_b (P := fun x => x = w) hb h
  by_cases q5 : r ≤ 247
  · have hb : true = gapB r := by simp [gapB]; omega
    exact (g5 r w (by omega) (by omega)).mono fun e w' h => ret_b (P := fun x => x = w) hb h
  by_cases q6 : r ≤ 893
  · have hb : false = gapB r := by simp [gapB]; omega
    exact (g6 r w (by omega) (by omega)).mono fun e w' h => ret_b (P := fun x => x = w) hb h
  by_cases q7 : r ≤ 894
  · have hb : true = gapB r := by simp [gapB]; omega
    exact (g7 r w (by omega) (by omega)).mono fun e w' h => ret_b (P := fun x => x = w) hb h
  by_cases q8 : r ≤ 8191
  · have hb : false = gapB r := by simp [gapB]; omega
    exact (g8 r w (by omega) (by omega)).mono fun e w' h => ret_b (P := fun x => x = w) hb h
  by_cases q9 : r ≤ 8203
  · have hb : true = gapB r := by simp [gapB]; omega
    exact (g9 r w (by omega) (by omega)).mono fun e w' h => ret_b (P := fun x => x = w) hb h
  by_cases q10 : r ≤ 8205
  · have hb : false = gapB r := by simp [gapB]; omega
    exact (g10 r w (by omega) (by omega)).mono fun e w' h => ret_b (P := fun x => x = w) hb h
  by_cases q11 : r ≤ 8254
  · have hb : true = gapB r := by simp [gapB]; omega
    exact (g11 r w (by omega) (by omega)).mono fun e w' h => ret_b (P := fun x => x = w) hb h
  by_cases q12 : r ≤ 8256
  · have hb : false = gapB r := by simp [gapB]; omega
    exact (g12 r w (by omega) (by omega)).mono fun e w' h => ret_b (P := fun x => x = w) hb h
  by_cases q13 : r ≤ 8303
  · have hb : true = gapB r := by simp [gapB]; omega
    exact (g13 r w (by omega) (by omega)).mono fun e w' h => ret_b (P := fun x => x = w) hb h
  by_cases q14 : r ≤ 8591
  · have hb : false = gapB r := by simp [gapB]; omega
    exact (g14 r w (by omega) (by omega)).mono fun e w' h => ret_b (P := fun x => x = w) hb h
  by_cases q15 : r ≤ 11263
  · have hb : true = gapB r := by simp [gapB]; omega
    exact (g15 r w (by omega) (by omega)).mono fun e w' h => ret_b (P := fun x => x = w) hb h
  by_cases q16 : r ≤ 12271
  · have hb : false = gapB r := by simp [gapB]; omega
    exact (g16 r w (by omega) (by omega)).mono fun e w' h => ret_b (P := fun x => x = w) hb h
  by_cases q17 : r ≤ 12288
  · have hb : true = gapB r := by simp [gapB]; omega
    exact (g17 r w (by omega) (by omega)).mono fun e w' h => ret_b (P := fun x => x = w) hb h
  by_cases q18 : r ≤ 55295
  · have hb : false = gapB r := by simp [gapB]; omega
    exact (g18 r w (by omega) (by omega)).mono fun e w' h => ret_b (P := fun x => x = w) hb h
  by_cases q19 : r ≤ 63743
  · have hb : true = gapB r := by simp [gapB]; omega
    exact (g19 r w (by omega) (by omega)).mono fun e w' h => ret_b (P := fun x => x = w) hb h
  by_cases q20 : r ≤ 64975
  · have hb : false = gapB r := by simp [gapB]; omega
    exact (g20 r w (by omega) (by omega)).mono fun e w' h => ret_b (P := fun x => x = w) hb h
  by_cases q21 : r ≤ 65007
  · have hb : true = gapB r := by simp [gapB]; omega
    exact (g21 r w (by omega) (by omega)).mono fun e w' h => ret_b (P := fun x => x = w) hb h
  by_cases q22 : r ≤ 65533
  · have hb : false = gapB r := by simp [gapB]; omega
    exact (g22 r w (by omega) (by omega)).mono fun e w' h => ret_b (P := fun x => x = w) hb h
  by_cases q23 : r ≤ 65535
  · have hb : true = gapB r := by simp [gapB]; omega
    exact (g23 r w (by omega) (by omega)).mono fun e w' h => ret_b (P := fun x => x = w) hb h
  have hb : false = gapB r := by simp [gapB]; omega
  exact (g24 r w (by omega) ).mono fun e w' h => ret_b (P := fun x => x = w) hb h

end Go.Proofs.Qxb6602134a.gp
