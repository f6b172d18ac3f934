/- Steps of the proof of the law: contracts of functions of the given program, and plain lemmas about what they compute.
Conditions: none beyond those that each theorem names. -/
import Derived.LoopN
import Derived.Test.YtjpcdkhapeejjaaGreatDoorK07
set_option linter.unusedVariables false
set_option linter.unusedSimpArgs false
open Go.RowKit Go.Proofs.YtjpcdkhapeejjaaGreatDoorW.PrintWords Go.Proofs.YtjpcdkhapeejjaaGreatDoorW.PrintLast Go.Proofs.YtjpcdkhapeejjaaGreatDoorW.PrintMore
namespace Go.Proofs.YtjpcdkhapeejjaaGreatDoor.A
open Cal
set_option maxRecDepth 100000
attribute [local go_sem] hset_drewN halloc_drewN
/-- The layout's table of two-digit parts holds what it was laid with. -/
def stdCells : Array Value := #[.int .i64 260, .int .i64 265, .int .i64 1038, .int .i64 1040, .int .i64 1042, .int .i64 276]
def StdAt (W : World) : Prop := ∃ t fz, W.heap[3]? = some (.cells stdCells t fz)
theorem StdAt.below {W W' : World} (h : StdAt W) (hb : Below W.heap.size W W') : StdAt W' := by
  obtain ⟨t, fz, e⟩ := h
  exact ⟨t, fz, blk_below e hb⟩
theorem StdAt.cells {W : World} (h : StdAt W) : W.cell? ⟨3, 0, none⟩ = some (.int .i64 260) ∧ W.cell? ⟨3, 1, none⟩ = some (.int .i64 265) ∧ W.cell? ⟨3, 2, none⟩ = some (.int .i64 1038) ∧ W.cell? ⟨3, 3, none⟩ = some (.int .i64 1040) ∧ W.cell? ⟨3, 4, none⟩ = some (.int .i64 1042) ∧ W.cell? ⟨3, 5, none⟩ = some (.int .i64 276) := by
  obtain ⟨t, fz, e⟩ := h
  unfold World.cell?
  simp only [e]
  exact ⟨rfl, rfl, rfl, rfl, rfl, rfl⟩
def L1 : ByteArray := ⟨#[50, 48, 48, 54, 45, 48, 49, 45, 48, 50, 32, 49, 53, 58, 48, 52, 58, 48, 53]⟩
def L2 : ByteArray := ⟨#[45, 48, 49, 45, 48, 50, 32, 49, 53, 58, 48, 52, 58, 48, 53]⟩
def L3 : ByteArray := ⟨#[45, 48, 50, 32, 49, 53, 58, 48, 52, 58, 48, 53]⟩
def L4 : ByteArray := ⟨#[32, 49, 53, 58, 48, 52, 58, 48, 53]⟩
def L5 : ByteArray := ⟨#[58, 48, 52, 58, 48, 53]⟩
def L6 : ByteArray := ⟨#[58, 48, 53]⟩
def L7 : ByteArray := ⟨#[]⟩
def hyB : ByteArray := ⟨#[45]⟩
def spB : ByteArray := ⟨#[32]⟩
def coB : ByteArray := ⟨#[58]⟩
set_option maxHeartbeats 8000000 in
theorem chunk1_ (lay : ByteArray) (W : World) (hS : StdAt W) (hz : (lay.size : Int) = 19) (b0 : ∀ h : 0 < lay.size, ((lay[0]'h).toNat : Int) = 50) (e0 : ((lay.extract 0 4).toList == ([50, 48, 48, 54] : List UInt8)) = true) :
    Calls Tryz.prog 144 #[.string lay] W fun e w' => e = .returned (.tuple #[.string ByteArray.empty, .int .i64 275, .string (lay.extract 4 lay.size)]) ∧ Drawn0 W w' := by
  obtain ⟨s0, s1, s2, s3, s4, s5⟩ := hS.cells
  clear hS
  have u0 : (0 ≤ lay.size) = True := eq_true (by omega)
  have v0 : (0 ≤ (lay.size : Int)) = True := eq_true (by omega)
  have x0 : decide ((lay.size : Int) ≥ 0) = true := decide_eq_true (by omega)
  have t0 : (0 < lay.size) = True := eq_true (by omega)
  have y0 : (0 < (lay.size : Int)) = True := eq_true (by omega)
  have z0 : decide (0 < (lay.size : Int)) = true := decide_eq_true (by omega)
  have u1 : (1 ≤ lay.size) = True := eq_true (by omega)
  have v1 : (1 ≤ (lay.size : Int)) = True := eq_true (by omega)
  have x1 : decide ((lay.size : Int) ≥ 1) = true := decide_eq_true (by omega)
  have t1 : (1 < lay.size) = True := eq_true (by omega)
  have y1 : (1 < (lay.size : Int)) = True := eq_true (by omega)
  have z1 : decide (1 < (lay.size : Int)) = true := decide_eq_true (by omega)
  have u2 : (2 ≤ lay.size) = True := eq_true (by omega)
  have v2 : (2 ≤ (lay.size : Int)) = True := eq_true (by omega)
  have x2 : decide ((lay.size : Int) ≥ 2) = true := decide_eq_true (by omega)
  have t2 : (2 < lay.size) = True := eq_true (by omega)
  have y2 : (2 < (lay.size : Int)) = True := eq_true (by omega)
  have z2 : decide (2 < (lay.size : Int)) = true := decide_eq_true (by omega)
  have u3 : (3 ≤ lay.size) = True := eq_true (by omega)
  have v3 : (3 ≤ (lay.size : Int)) = True := eq_true (by omega)
  have x3 : decide ((lay.size : Int) ≥ 3) = true := decide_eq_true (by omega)
  have t3 : (3 < lay.size) = True := eq_true (by omega)
  have y3 : (3 < (lay.size : Int)) = True := eq_true (by omega)
  have z3 : decide (3 < (lay.size : Int)) = true := decide_eq_true (by omega)
  have u4 : (4 ≤ lay.size) = True := eq_true (by omega)
  have v4 : (4 ≤ (lay.size : Int)) = True := eq_true (by omega)
  have x4 : decide ((lay.size : Int) ≥ 4) = true := decide_eq_true (by omega)
  have t4 : (4 < lay.size) = True := eq_true (by omega)
  have y4 : (4 < (lay.size : Int)) = True := eq_true (by omega)
  have z4 : decide (4 < (lay.size : Int)) = true := decide_eq_true (by omega)
  have u5 : (5 ≤ lay.size) = True := eq_true (by omega)
  have v5 : (5 ≤ (lay.size : Int)) = True := eq_true (by omega)
  have x5 : decide ((lay.size : Int) ≥ 5) = true := decide_eq_true (by omega)
  have t5 : (5 < lay.size) = True := eq_true (by omega)
  have y5 : (5 < (lay.size : Int)) = True := eq_true (by omega)
  have z5 : decide (5 < (lay.size : Int)) = true := decide_eq_true (by omega)
  have u6 : (6 ≤ lay.size) = True := eq_true (by omega)
  have v6 : (6 ≤ (lay.size : Int)) = True := eq_true (by omega)
  have x6 : decide ((lay.size : Int) ≥ 6) = true := decide_eq_true (by omega)
  have t6 : (6 < lay.size) = True := eq_true (by omega)
  have y6 : (6 < (lay.size : Int)) = True := eq_true (by omega)
  have z6 : decide (6 < (lay.size : Int)) = true := decide_eq_true (by omega)
  have u7 : (7 ≤ lay.size) = True := eq_true (by omega)
  have v7 : (7 ≤ (lay.size : Int)) = True := eq_true (by omega)
  have x7 : decide ((lay.size : Int) ≥ 7) = true := decide_eq_true (by omega)
  have t7 : (7 < lay.size) = True := eq_true (by omega)
  have y7 : (7 < (lay.size : Int)) = True := eq_true (by omega)
  have z7 : decide (7 < (lay.size : Int)) = true := decide_eq_true (by omega)
  have u8 : (8 ≤ lay.size) = True := eq_true (by omega)
  have v8 : (8 ≤ (lay.size : Int)) = True := eq_true (by omega)
  have x8 : decide ((lay.size : Int) ≥ 8) = true := decide_eq_true (by omega)
  have t8 : (8 < lay.size) = True := eq_true (by omega)
  have y8 : (8 < (lay.size : Int)) = True := eq_true (by omega)
  have z8 : decide (8 < (lay.size : Int)) = true := decide_eq_true (by omega)
  have u9 : (9 ≤ lay.size) = True := eq_true (by omega)
  have v9 : (9 ≤ (lay.size : Int)) = True := eq_true (by omega)
  have x9 : decide ((lay.size : Int) ≥ 9) = true := decide_eq_true (by omega)
  have t9 : (9 < lay.size) = True := eq_true (by omega)
  have y9 : (9 < (lay.size : Int)) = True := eq_true (by omega)
  have z9 : decide (9 < (lay.size : Int)) = true := decide_eq_true (by omega)
  clear hz
  go_enter Tryz.func144, Tryz.ntmps144
  go_wp2
  refine wp_loop_rounds 1 ?_
  rw [rounds_succ]
  go_wp2
  go_quiet (fail)
  go_wp2
  go_ret3
  exact ⟨rfl, by repeat (first | exact Drawn0.refl _ | apply Drawn0.step)⟩
theorem chunk1 (W : World) (hS : StdAt W) : Calls Tryz.prog 144 #[.string L1] W fun e w' => e = .returned (.tuple #[.string ByteArray.empty, .int .i64 275, .string L2]) ∧ Drawn0 W w' := by
  have h := chunk1_ L1 W hS rfl (fun _ => rfl) (by rw [Go.ByteArray.toList_eq]; decide)
  exact h
set_option maxHeartbeats 8000000 in
theorem chunk2_ (lay : ByteArray) (W : World) (hS : StdAt W) (hz : (lay.size : Int) = 15) (b0 : ∀ h : 0 < lay.size, ((lay[0]'h).toNat : Int) = 45) (b1 : ∀ h : 1 < lay.size, ((lay[1]'h).toNat : Int) = 48) (b2 : ∀ h : 2 < lay.size, ((lay[2]'h).toNat : Int) = 49) (e0 : ((lay.extract 0 7).toList == ([45, 48, 55, 48, 48, 48, 48] : List UInt8)) = false) (e1 : ((lay.extract 0 9).toList == ([45, 48, 55, 58, 48, 48, 58, 48, 48] : List UInt8)) = false) (e2 : ((lay.extract 0 5).toList == ([45, 48, 55, 48, 48] : List UInt8)) = false) (e3 : ((lay.extract 0 6).toList == ([45, 48, 55, 58, 48, 48] : List UInt8)) = false) (e4 : ((lay.extract 0 3).toList == ([45, 48, 55] : List UInt8)) = false) :
    Calls Tryz.prog 144 #[.string lay] W fun e w' => e = .returned (.tuple #[.string (lay.extract 0 1), .int .i64 260, .string (lay.extract 3 lay.size)]) ∧ Drawn0 W w' := by
  obtain ⟨s0, s1, s2, s3, s4, s5⟩ := hS.cells
  clear hS
  have u0 : (0 ≤ lay.size) = True := eq_true (by omega)
  have v0 : (0 ≤ (lay.size : Int)) = True := eq_true (by omega)
  have x0 : decide ((lay.size : Int) ≥ 0) = true := decide_eq_true (by omega)
  have t0 : (0 < lay.size) = True := eq_true (by omega)
  have y0 : (0 < (lay.size : Int)) = True := eq_true (by omega)
  have z0 : decide (0 < (lay.size : Int)) = true := decide_eq_true (by omega)
  have u1 : (1 ≤ lay.size) = True := eq_true (by omega)
  have v1 : (1 ≤ (lay.size : Int)) = True := eq_true (by omega)
  have x1 : decide ((lay.size : Int) ≥ 1) = true := decide_eq_true (by omega)
  have t1 : (1 < lay.size) = True := eq_true (by omega)
  have y1 : (1 < (lay.size : Int)) = True := eq_true (by omega)
  have z1 : decide (1 < (lay.size : Int)) = true := decide_eq_true (by omega)
  have u2 : (2 ≤ lay.size) = True := eq_true (by omega)
  have v2 : (2 ≤ (lay.size : Int)) = True := eq_true (by omega)
  have x2 : decide ((lay.size : Int) ≥ 2) = true := decide_eq_true (by omega)
  have t2 : (2 < lay.size) = True := eq_true (by omega)
  have y2 : (2 < (lay.size : Int)) = True := eq_true (by omega)
  have z2 : decide (2 < (lay.size : Int)) = true := decide_eq_true (by omega)
  have u3 : (3 ≤ lay.size) = True := eq_true (by omega)
  have v3 : (3 ≤ (lay.size : Int)) = True := eq_true (by omega)
  have x3 : decide ((lay.size : Int) ≥ 3) = true := decide_eq_true (by omega)
  have t3 : (3 < lay.size) = True := eq_true (by omega)
  have y3 : (3 < (lay.size : Int)) = True := eq_true (by omega)
  have z3 : decide (3 < (lay.size : Int)) = true := decide_eq_true (by omega)
  have u4 : (4 ≤ lay.size) = True := eq_true (by omega)
  have v4 : (4 ≤ (lay.size : Int)) = True := eq_true (by omega)
  have x4 : decide ((lay.size : Int) ≥ 4) = true := decide_eq_true (by omega)
  have t4 : (4 < lay.size) = True := eq_true (by omega)
  have y4 : (4 < (lay.size : Int)) = True := eq_true (by omega)
  have z4 : decide (4 < (lay.size : Int)) = true := decide_eq_true (by omega)
  have u5 : (5 ≤ lay.size) = True := eq_true (by omega)
  have v5 : (5 ≤ (lay.size : Int)) = True := eq_true (by omega)
  have x5 : decide ((lay.size : Int) ≥ 5) = true := decide_eq_true (by omega)
  have t5 : (5 < lay.size) = True := eq_true (by omega)
  have y5 : (5 < (lay.size : Int)) = True := eq_true (by omega)
  have z5 : decide (5 < (lay.size : Int)) = true := decide_eq_true (by omega)
  have u6 : (6 ≤ lay.size) = True := eq_true (by omega)
  have v6 : (6 ≤ (lay.size : Int)) = True := eq_true (by omega)
  have x6 : decide ((lay.size : Int) ≥ 6) = true := decide_eq_true (by omega)
  have t6 : (6 < lay.size) = True := eq_true (by omega)
  have y6 : (6 < (lay.size : Int)) = True := eq_true (by omega)
  have z6 : decide (6 < (lay.size : Int)) = true := decide_eq_true (by omega)
  have u7 : (7 ≤ lay.size) = True := eq_true (by omega)
  have v7 : (7 ≤ (lay.size : Int)) = True := eq_true (by omega)
  have x7 : decide ((lay.size : Int) ≥ 7) = true := decide_eq_true (by omega)
  have t7 : (7 < lay.size) = True := eq_true (by omega)
  have y7 : (7 < (lay.size : Int)) = True := eq_true (by omega)
  have z7 : decide (7 < (lay.size : Int)) = true := decide_eq_true (by omega)
  have u8 : (8 ≤ lay.size) = True := eq_true (by omega)
  have v8 : (8 ≤ (lay.size : Int)) = True := eq_true (by omega)
  have x8 : decide ((lay.size : Int) ≥ 8) = true := decide_eq_true (by omega)
  have t8 : (8 < lay.size) = True := eq_true (by omega)
  have y8 : (8 < (lay.size : Int)) = True := eq_true (by omega)
  have z8 : decide (8 < (lay.size : Int)) = true := decide_eq_true (by omega)
  have u9 : (9 ≤ lay.size) = True := eq_true (by omega)
  have v9 : (9 ≤ (lay.size : Int)) = True := eq_true (by omega)
  have x9 : decide ((lay.size : Int) ≥ 9) = true := decide_eq_true (by omega)
  have t9 : (9 < lay.size) = True := eq_true (by omega)
  have y9 : (9 < (lay.size : Int)) = True := eq_true (by omega)
  have z9 : decide (9 < (lay.size : Int)) = true := decide_eq_true (by omega)
  clear hz
  go_enter Tryz.func144, Tryz.ntmps144
  go_wp2
  refine wp_loop_rounds 2 ?_
  rw [rounds_succ]
  go_wp2
  rw [rounds_succ]
  go_wp2
  go_quiet (fail)
  go_wp2
  go_ret3
  exact ⟨rfl, by repeat (first | exact Drawn0.refl _ | apply Drawn0.step)⟩
theorem chunk2 (W : World) (hS : StdAt W) : Calls Tryz.prog 144 #[.string L2] W fun e w' => e = .returned (.tuple #[.string hyB, .int .i64 260, .string L3]) ∧ Drawn0 W w' := by
  have h := chunk2_ L2 W hS rfl (fun _ => rfl) (fun _ => rfl) (fun _ => rfl) (by rw [Go.ByteArray.toList_eq]; decide) (by rw [Go.ByteArray.toList_eq]; decide) (by rw [Go.ByteArray.toList_eq]; decide) (by rw [Go.ByteArray.toList_eq]; decide) (by rw [Go.ByteArray.toList_eq]; decide)
  exact h
set_option maxHeartbeats 8000000 in
theorem chunk3_ (lay : ByteArray) (W : World) (hS : StdAt W) (hz : (lay.size : Int) = 12) (b0 : ∀ h : 0 < lay.size, ((lay[0]'h).toNat : Int) = 45) (b1 : ∀ h : 1 < lay.size, ((lay[1]'h).toNat : Int) = 48) (b2 : ∀ h : 2 < lay.size, ((lay[2]'h).toNat : Int) = 50) (e0 : ((lay.extract 0 7).toList == ([45, 48, 55, 48, 48, 48, 48] : List UInt8)) = false) (e1 : ((lay.extract 0 9).toList == ([45, 48, 55, 58, 48, 48, 58, 48, 48] : List UInt8)) = false) (e2 : ((lay.extract 0 5).toList == ([45, 48, 55, 48, 48] : List UInt8)) = false) (e3 : ((lay.extract 0 6).toList == ([45, 48, 55, 58, 48, 48] : List UInt8)) = false) (e4 : ((lay.extract 0 3).toList == ([45, 48, 55] : List UInt8)) = false) :
    Calls Tryz.prog 144 #[.string lay] W fun e w' => e = .returned (.tuple #[.string (lay.extract 0 1), .int .i64 265, .string (lay.extract 3 lay.size)]) ∧ Drawn0 W w' := by
  obtain ⟨s0, s1, s2, s3, s4, s5⟩ := hS.cells
  clear hS
  have u0 : (0 ≤ lay.size) = True := eq_true (by omega)
  have v0 : (0 ≤ (lay.size : Int)) = True := eq_true (by omega)
  have x0 : decide ((lay.size : Int) ≥ 0) = true := decide_eq_true (by omega)
  have t0 : (0 < lay.size) = True := eq_true (by omega)
  have y0 : (0 < (lay.size : Int)) = True := eq_true (by omega)
  have z0 : decide (0 < (lay.size : Int)) = true := decide_eq_true (by omega)
  have u1 : (1 ≤ lay.size) = True := eq_true (by omega)
  have v1 : (1 ≤ (lay.size : Int)) = True := eq_true (by omega)
  have x1 : decide ((lay.size : Int) ≥ 1) = true := decide_eq_true (by omega)
  have t1 : (1 < lay.size) = True := eq_true (by omega)
  have y1 : (1 < (lay.size : Int)) = True := eq_true (by omega)
  have z1 : decide (1 < (lay.size : Int)) = true := decide_eq_true (by omega)
  have u2 : (2 ≤ lay.size) = True := eq_true (by omega)
  have v2 : (2 ≤ (lay.size : Int)) = True := eq_true (by omega)
  have x2 : decide ((lay.size : Int) ≥ 2) = true := decide_eq_true (by omega)
  have t2 : (2 < lay.size) = True := eq_true (by omega)
  have y2 : (2 < (lay.size : Int)) = True := eq_true (by omega)
  have z2 : decide (2 < (lay.size : Int)) = true := decide_eq_true (by omega)
  have u3 : (3 ≤ lay.size) = True := eq_true (by omega)
  have v3 : (3 ≤ (lay.size : Int)) = True := eq_true (by omega)
  have x3 : decide ((lay.size : Int) ≥ 3) = true := decide_eq_true (by omega)
  have t3 : (3 < lay.size) = True := eq_true (by omega)
  have y3 : (3 < (lay.size : Int)) = True := eq_true (by omega)
  have z3 : decide (3 < (lay.size : Int)) = true := decide_eq_true (by omega)
  have u4 : (4 ≤ lay.size) = True := eq_true (by omega)
  have v4 : (4 ≤ (lay.size : Int)) = True := eq_true (by omega)
  have x4 : decide ((lay.size : Int) ≥ 4) = true := decide_eq_true (by omega)
  have t4 : (4 < lay.size) = True := eq_true (by omega)
  have y4 : (4 < (lay.size : Int)) = True := eq_true (by omega)
  have z4 : decide (4 < (lay.size : Int)) = true := decide_eq_true (by omega)
  have u5 : (5 ≤ lay.size) = True := eq_true (by omega)
  have v5 : (5 ≤ (lay.size : Int)) = True := eq_true (by omega)
  have x5 : decide ((lay.size : Int) ≥ 5) = true := decide_eq_true (by omega)
  have t5 : (5 < lay.size) = True := eq_true (by omega)
  have y5 : (5 < (lay.size : Int)) = True := eq_true (by omega)
  have z5 : decide (5 < (lay.size : Int)) = true := decide_eq_true (by omega)
  have u6 : (6 ≤ lay.size) = True := eq_true (by omega)
  have v6 : (6 ≤ (lay.size : Int)) = True := eq_true (by omega)
  have x6 : decide ((lay.size : Int) ≥ 6) = true := decide_eq_true (by omega)
  have t6 : (6 < lay.size) = True := eq_true (by omega)
  have y6 : (6 < (lay.size : Int)) = True := eq_true (by omega)
  have z6 : decide (6 < (lay.size : Int)) = true := decide_eq_true (by omega)
  have u7 : (7 ≤ lay.size) = True := eq_true (by omega)
  have v7 : (7 ≤ (lay.size : Int)) = True := eq_true (by omega)
  have x7 : decide ((lay.size : Int) ≥ 7) = true := decide_eq_true (by omega)
  have t7 : (7 < lay.size) = True := eq_true (by omega)
  have y7 : (7 < (lay.size : Int)) = True := eq_true (by omega)
  have z7 : decide (7 < (lay.size : Int)) = true := decide_eq_true (by omega)
  have u8 : (8 ≤ lay.size) = True := eq_true (by omega)
  have v8 : (8 ≤ (lay.size : Int)) = True := eq_true (by omega)
  have x8 : decide ((lay.size : Int) ≥ 8) = true := decide_eq_true (by omega)
  have t8 : (8 < lay.size) = True := eq_true (by omega)
  have y8 : (8 < (lay.size : Int)) = True := eq_true (by omega)
  have z8 : decide (8 < (lay.size : Int)) = true := decide_eq_true (by omega)
  have u9 : (9 ≤ lay.size) = True := eq_true (by omega)
  have v9 : (9 ≤ (lay.size : Int)) = True := eq_true (by omega)
  have x9 : decide ((lay.size : Int) ≥ 9) = true := decide_eq_true (by omega)
  have t9 : (9 < lay.size) = True := eq_true (by omega)
  have y9 : (9 < (lay.size : Int)) = True := eq_true (by omega)
  have z9 : decide (9 < (lay.size : Int)) = true := decide_eq_true (by omega)
  clear hz
  go_enter Tryz.func144, Tryz.ntmps144
  go_wp2
  refine wp_loop_rounds 2 ?_
  rw [rounds_succ]
  go_wp2
  rw [rounds_succ]
  go_wp2
  go_quiet (fail)
  go_wp2
  go_ret3
  exact ⟨rfl, by repeat (first | exact Drawn0.refl _ | apply Drawn0.step)⟩
theorem chunk3 (W : World) (hS : StdAt W) : Calls Tryz.prog 144 #[.string L3] W fun e w' => e = .returned (.tuple #[.string hyB, .int .i64 265, .string L4]) ∧ Drawn0 W w' := by
  have h := chunk3_ L3 W hS rfl (fun _ => rfl) (fun _ => rfl) (fun _ => rfl) (by rw [Go.ByteArray.toList_eq]; decide) (by rw [Go.ByteArray.toList_eq]; decide) (by rw [Go.ByteArray.toList_eq]; decide) (by rw [Go.ByteArray.toList_eq]; decide) (by rw [Go.ByteArray.toList_eq]; decide)
  exact h
set_option maxHeartbeats 8000000 in
theorem chunk4_ (lay : ByteArray) (W : World) (hS : StdAt W) (hz : (lay.size : Int) = 9) (b0 : ∀ h : 0 < lay.size, ((lay[0]'h).toNat : Int) = 32) (b1 : ∀ h : 1 < lay.size, ((lay[1]'h).toNat : Int) = 49) (b2 : ∀ h : 2 < lay.size, ((lay[2]'h).toNat : Int) = 53)  :
    Calls Tryz.prog 144 #[.string lay] W fun e w' => e = .returned (.tuple #[.string (lay.extract 0 1), .int .i64 1036, .string (lay.extract 3 lay.size)]) ∧ Drawn0 W w' := by
  obtain ⟨s0, s1, s2, s3, s4, s5⟩ := hS.cells
  clear hS
  have u0 : (0 ≤ lay.size) = True := eq_true (by omega)
  have v0 : (0 ≤ (lay.size : Int)) = True := eq_true (by omega)
  have x0 : decide ((lay.size : Int) ≥ 0) = true := decide_eq_true (by omega)
  have t0 : (0 < lay.size) = True := eq_true (by omega)
  have y0 : (0 < (lay.size : Int)) = True := eq_true (by omega)
  have z0 : decide (0 < (lay.size : Int)) = true := decide_eq_true (by omega)
  have u1 : (1 ≤ lay.size) = True := eq_true (by omega)
  have v1 : (1 ≤ (lay.size : Int)) = True := eq_true (by omega)
  have x1 : decide ((lay.size : Int) ≥ 1) = true := decide_eq_true (by omega)
  have t1 : (1 < lay.size) = True := eq_true (by omega)
  have y1 : (1 < (lay.size : Int)) = True := eq_true (by omega)
  have z1 : decide (1 < (lay.size : Int)) = true := decide_eq_true (by omega)
  have u2 : (2 ≤ lay.size) = True := eq_true (by omega)
  have v2 : (2 ≤ (lay.size : Int)) = True := eq_true (by omega)
  have x2 : decide ((lay.size : Int) ≥ 2) = true := decide_eq_true (by omega)
  have t2 : (2 < lay.size) = True := eq_true (by omega)
  have y2 : (2 < (lay.size : Int)) = True := eq_true (by omega)
  have z2 : decide (2 < (lay.size : Int)) = true := decide_eq_true (by omega)
  have u3 : (3 ≤ lay.size) = True := eq_true (by omega)
  have v3 : (3 ≤ (lay.size : Int)) = True := eq_true (by omega)
  have x3 : decide ((lay.size : Int) ≥ 3) = true := decide_eq_true (by omega)
  have t3 : (3 < lay.size) = True := eq_true (by omega)
  have y3 : (3 < (lay.size : Int)) = True := eq_true (by omega)
  have z3 : decide (3 < (lay.size : Int)) = true := decide_eq_true (by omega)
  have u4 : (4 ≤ lay.size) = True := eq_true (by omega)
  have v4 : (4 ≤ (lay.size : Int)) = True := eq_true (by omega)
  have x4 : decide ((lay.size : Int) ≥ 4) = true := decide_eq_true (by omega)
  have t4 : (4 < lay.size) = True := eq_true (by omega)
  have y4 : (4 < (lay.size : Int)) = True := eq_true (by omega)
  have z4 : decide (4 < (lay.size : Int)) = true := decide_eq_true (by omega)
  have u5 : (5 ≤ lay.size) = True := eq_true (by omega)
  have v5 : (5 ≤ (lay.size : Int)) = True := eq_true (by omega)
  have x5 : decide ((lay.size : Int) ≥ 5) = true := decide_eq_true (by omega)
  have t5 : (5 < lay.size) = True := eq_true (by omega)
  have y5 : (5 < (lay.size : Int)) = True := eq_true (by omega)
  have z5 : decide (5 < (lay.size : Int)) = true := decide_eq_true (by omega)
  have u6 : (6 ≤ lay.size) = True := eq_true (by omega)
  have v6 : (6 ≤ (lay.size : Int)) = True := eq_true (by omega)
  have x6 : decide ((lay.size : Int) ≥ 6) = true := decide_eq_true (by omega)
  have t6 : (6 < lay.size) = True := eq_true (by omega)
  have y6 : (6 < (lay.size : Int)) = True := eq_true (by omega)
  have z6 : decide (6 < (lay.size : Int)) = true := decide_eq_true (by omega)
  have u7 : (7 ≤ lay.size) = True := eq_true (by omega)
  have v7 : (7 ≤ (lay.size : Int)) = True := eq_true (by omega)
  have x7 : decide ((lay.size : Int) ≥ 7) = true := decide_eq_true (by omega)
  have t7 : (7 < lay.size) = True := eq_true (by omega)
  have y7 : (7 < (lay.size : Int)) = True := eq_true (by omega)
  have z7 : decide (7 < (lay.size : Int)) = true := decide_eq_true (by omega)
  have u8 : (8 ≤ lay.size) = True := eq_true (by omega)
  have v8 : (8 ≤ (lay.size : Int)) = True := eq_true (by omega)
  have x8 : decide ((lay.size : Int) ≥ 8) = true := decide_eq_true (by omega)
  have t8 : (8 < lay.size) = True := eq_true (by omega)
  have y8 : (8 < (lay.size : Int)) = True := eq_true (by omega)
  have z8 : decide (8 < (lay.size : Int)) = true := decide_eq_true (by omega)
  have u9 : (9 ≤ lay.size) = True := eq_true (by omega)
  have v9 : (9 ≤ (lay.size : Int)) = True := eq_true (by omega)
  have x9 : decide ((lay.size : Int) ≥ 9) = true := decide_eq_true (by omega)
  clear hz
  go_enter Tryz.func144, Tryz.ntmps144
  go_wp2
  refine wp_loop_rounds 2 ?_
  rw [rounds_succ]
  go_wp2
  rw [rounds_succ]
  go_wp2
  go_quiet (fail)
  go_wp2
  go_ret3
  exact ⟨rfl, by repeat (first | exact Drawn0.refl _ | apply Drawn0.step)⟩
theorem chunk4 (W : World) (hS : StdAt W) : Calls Tryz.prog 144 #[.string L4] W fun e w' => e = .returned (.tuple #[.string spB, .int .i64 1036, .string L5]) ∧ Drawn0 W w' := by
  have h := chunk4_ L4 W hS rfl (fun _ => rfl) (fun _ => rfl) (fun _ => rfl) 
  exact h
set_option maxHeartbeats 8000000 in
theorem chunk5_ (lay : ByteArray) (W : World) (hS : StdAt W) (hz : (lay.size : Int) = 6) (b0 : ∀ h : 0 < lay.size, ((lay[0]'h).toNat : Int) = 58) (b1 : ∀ h : 1 < lay.size, ((lay[1]'h).toNat : Int) = 48) (b2 : ∀ h : 2 < lay.size, ((lay[2]'h).toNat : Int) = 52)  :
    Calls Tryz.prog 144 #[.string lay] W fun e w' => e = .returned (.tuple #[.string (lay.extract 0 1), .int .i64 1040, .string (lay.extract 3 lay.size)]) ∧ Drawn0 W w' := by
  obtain ⟨s0, s1, s2, s3, s4, s5⟩ := hS.cells
  clear hS
  have u0 : (0 ≤ lay.size) = True := eq_true (by omega)
  have v0 : (0 ≤ (lay.size : Int)) = True := eq_true (by omega)
  have x0 : decide ((lay.size : Int) ≥ 0) = true := decide_eq_true (by omega)
  have t0 : (0 < lay.size) = True := eq_true (by omega)
  have y0 : (0 < (lay.size : Int)) = True := eq_true (by omega)
  have z0 : decide (0 < (lay.size : Int)) = true := decide_eq_true (by omega)
  have u1 : (1 ≤ lay.size) = True := eq_true (by omega)
  have v1 : (1 ≤ (lay.size : Int)) = True := eq_true (by omega)
  have x1 : decide ((lay.size : Int) ≥ 1) = true := decide_eq_true (by omega)
  have t1 : (1 < lay.size) = True := eq_true (by omega)
  have y1 : (1 < (lay.size : Int)) = True := eq_true (by omega)
  have z1 : decide (1 < (lay.size : Int)) = true := decide_eq_true (by omega)
  have u2 : (2 ≤ lay.size) = True := eq_true (by omega)
  have v2 : (2 ≤ (lay.size : Int)) = True := eq_true (by omega)
  have x2 : decide ((lay.size : Int) ≥ 2) = true := decide_eq_true (by omega)
  have t2 : (2 < lay.size) = True := eq_true (by omega)
  have y2 : (2 < (lay.size : Int)) = True := eq_true (by omega)
  have z2 : decide (2 < (lay.size : Int)) = true := decide_eq_true (by omega)
  have u3 : (3 ≤ lay.size) = True := eq_true (by omega)
  have v3 : (3 ≤ (lay.size : Int)) = True := eq_true (by omega)
  have x3 : decide ((lay.size : Int) ≥ 3) = true := decide_eq_true (by omega)
  have t3 : (3 < lay.size) = True := eq_true (by omega)
  have y3 : (3 < (lay.size : Int)) = True := eq_true (by omega)
  have z3 : decide (3 < (lay.size : Int)) = true := decide_eq_true (by omega)
  have u4 : (4 ≤ lay.size) = True := eq_true (by omega)
  have v4 : (4 ≤ (lay.size : Int)) = True := eq_true (by omega)
  have x4 : decide ((lay.size : Int) ≥ 4) = true := decide_eq_true (by omega)
  have t4 : (4 < lay.size) = True := eq_true (by omega)
  have y4 : (4 < (lay.size : Int)) = True := eq_true (by omega)
  have z4 : decide (4 < (lay.size : Int)) = true := decide_eq_true (by omega)
  have u5 : (5 ≤ lay.size) = True := eq_true (by omega)
  have v5 : (5 ≤ (lay.size : Int)) = True := eq_true (by omega)
  have x5 : decide ((lay.size : Int) ≥ 5) = true := decide_eq_true (by omega)
  have t5 : (5 < lay.size) = True := eq_true (by omega)
  have y5 : (5 < (lay.size : Int)) = True := eq_true (by omega)
  have z5 : decide (5 < (lay.size : Int)) = true := decide_eq_true (by omega)
  have u6 : (6 ≤ lay.size) = True := eq_true (by omega)
  have v6 : (6 ≤ (lay.size : Int)) = True := eq_true (by omega)
  have x6 : decide ((lay.size : Int) ≥ 6) = true := decide_eq_true (by omega)
  have x7 : decide ((lay.size : Int) ≥ 7) = false := decide_eq_false (by omega)
  have x8 : decide ((lay.size : Int) ≥ 8) = false := decide_eq_false (by omega)
  have x9 : decide ((lay.size : Int) ≥ 9) = false := decide_eq_false (by omega)
  clear hz
  go_enter Tryz.func144, Tryz.ntmps144
  go_wp2
  refine wp_loop_rounds 2 ?_
  rw [rounds_succ]
  go_wp2
  rw [rounds_succ]
  go_wp2
  go_quiet (fail)
  go_wp2
  go_ret3
  exact ⟨rfl, by repeat (first | exact Drawn0.refl _ | apply Drawn0.step)⟩
theorem chunk5 (W : World) (hS : StdAt W) : Calls Tryz.prog 144 #[.string L5] W fun e w' => e = .returned (.tuple #[.string coB, .int .i64 1040, .string L6]) ∧ Drawn0 W w' := by
  have h := chunk5_ L5 W hS rfl (fun _ => rfl) (fun _ => rfl) (fun _ => rfl) 
  exact h
set_option maxHeartbeats 8000000 in
theorem chunk6_ (lay : ByteArray) (W : World) (hS : StdAt W) (hz : (lay.size : Int) = 3) (b0 : ∀ h : 0 < lay.size, ((lay[0]'h).toNat : Int) = 58) (b1 : ∀ h : 1 < lay.size, ((lay[1]'h).toNat : Int) = 48) (b2 : ∀ h : 2 < lay.size, ((lay[2]'h).toNat : Int) = 53)  :
    Calls Tryz.prog 144 #[.string lay] W fun e w' => e = .returned (.tuple #[.string (lay.extract 0 1), .int .i64 1042, .string (lay.extract 3 lay.size)]) ∧ Drawn0 W w' := by
  obtain ⟨s0, s1, s2, s3, s4, s5⟩ := hS.cells
  clear hS
  have u0 : (0 ≤ lay.size) = True := eq_true (by omega)
  have v0 : (0 ≤ (lay.size : Int)) = True := eq_true (by omega)
  have x0 : decide ((lay.size : Int) ≥ 0) = true := decide_eq_true (by omega)
  have t0 : (0 < lay.size) = True := eq_true (by omega)
  have y0 : (0 < (lay.size : Int)) = True := eq_true (by omega)
  have z0 : decide (0 < (lay.size : Int)) = true := decide_eq_true (by omega)
  have u1 : (1 ≤ lay.size) = True := eq_true (by omega)
  have v1 : (1 ≤ (lay.size : Int)) = True := eq_true (by omega)
  have x1 : decide ((lay.size : Int) ≥ 1) = true := decide_eq_true (by omega)
  have t1 : (1 < lay.size) = True := eq_true (by omega)
  have y1 : (1 < (lay.size : Int)) = True := eq_true (by omega)
  have z1 : decide (1 < (lay.size : Int)) = true := decide_eq_true (by omega)
  have u2 : (2 ≤ lay.size) = True := eq_true (by omega)
  have v2 : (2 ≤ (lay.size : Int)) = True := eq_true (by omega)
  have x2 : decide ((lay.size : Int) ≥ 2) = true := decide_eq_true (by omega)
  have t2 : (2 < lay.size) = True := eq_true (by omega)
  have y2 : (2 < (lay.size : Int)) = True := eq_true (by omega)
  have z2 : decide (2 < (lay.size : Int)) = true := decide_eq_true (by omega)
  have u3 : (3 ≤ lay.size) = True := eq_true (by omega)
  have v3 : (3 ≤ (lay.size : Int)) = True := eq_true (by omega)
  have x3 : decide ((lay.size : Int) ≥ 3) = true := decide_eq_true (by omega)
  have x4 : decide ((lay.size : Int) ≥ 4) = false := decide_eq_false (by omega)
  have x5 : decide ((lay.size : Int) ≥ 5) = false := decide_eq_false (by omega)
  have x6 : decide ((lay.size : Int) ≥ 6) = false := decide_eq_false (by omega)
  have x7 : decide ((lay.size : Int) ≥ 7) = false := decide_eq_false (by omega)
  have x8 : decide ((lay.size : Int) ≥ 8) = false := decide_eq_false (by omega)
  have x9 : decide ((lay.size : Int) ≥ 9) = false := decide_eq_false (by omega)
  clear hz
  go_enter Tryz.func144, Tryz.ntmps144
  go_wp2
  refine wp_loop_rounds 2 ?_
  rw [rounds_succ]
  go_wp2
  rw [rounds_succ]
  go_wp2
  go_quiet (fail)
  go_wp2
  go_ret3
  exact ⟨rfl, by repeat (first | exact Drawn0.refl _ | apply Drawn0.step)⟩
theorem chunk6 (W : World) (hS : StdAt W) : Calls Tryz.prog 144 #[.string L6] W fun e w' => e = .returned (.tuple #[.string coB, .int .i64 1042, .string L7]) ∧ Drawn0 W w' := by
  have h := chunk6_ L6 W hS rfl (fun _ => rfl) (fun _ => rfl) (fun _ => rfl) 
  exact h
end Go.Proofs.YtjpcdkhapeejjaaGreatDoor.A
