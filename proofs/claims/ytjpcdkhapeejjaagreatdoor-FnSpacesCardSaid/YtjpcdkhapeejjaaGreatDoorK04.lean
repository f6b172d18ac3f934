/- Steps of the proof of the law: contracts of functions of the given program, and plain lemmas about what they compute.
Conditions: none beyond those that each theorem names. -/
import Derived.Test.YtjpcdkhapeejjaaGreatDoorK03
set_option linter.unusedVariables false
set_option linter.unusedSimpArgs false
open Go.RowKit Go.Proofs.YtjpcdkhapeejjaaGreatDoorW.PrintWords Go.Proofs.YtjpcdkhapeejjaaGreatDoorW.PrintLast Go.Proofs.YtjpcdkhapeejjaaGreatDoorW.PrintMore
namespace Go.Proofs.YtjpcdkhapeejjaaGreatDoor.A
open Cal
set_option maxRecDepth 100000
attribute [local go_sem] hset_drewN halloc_drewN
def LocPost (w : World) (e : Ending) (w' : World) : Prop := ∃ g, e = .returned (.pointer (some ⟨g, 0, none⟩)) ∧ IsUTC w' g ∧ Below w.heap.size w w' ∧ w.heap.size ≤ g
theorem Location_any (s : Int) (w : World) : Calls Tryz.prog 120 #[.agg #[.int .u64 0, .int .i64 s, .pointer none]] w fun e w' => LocPost w e w' := by
  have hu63 := Tryz.underlying63
  go_enter Tryz.func120, Tryz.ntmps120
  go_wp2
  go_ret
  refine ⟨w.heap.size + 1, rfl, ?_, by repeat (with_reducible first | exact Below.refl _ _ | apply below_alloc | apply pw_below_drewN | apply below_drew1), by omega⟩
  unfold IsUTC
  rw [← World.size_alloc w (.cells #[.int .u64 0, .int .i64 s, .pointer none] 63)]
  exact heap_alloc_new _ _
set_option maxHeartbeats 1000000 in
theorem Add_1 (s : Int) (w : World) (h0 : 1000000 ≤ s) (h1 : s ≤ 100000000000) :
    Calls Tryz.prog 60 #[.agg #[.int .u64 0, .int .i64 s, .pointer none], .int .i64 1000000000] w fun e w' => e = .returned (.agg #[.int .u64 0, .int .i64 (s + 1), .pointer none]) ∧ Below w.heap.size w w' := by
  have hu63 := Tryz.underlying63
  have hbz := bzne
  have e3 : bits BinOp.andNot IntKind.u64 0 1073741823 = 0 := by kernel_rfl
  have e4 : bits BinOp.or IntKind.u64 0 0 = 0 := by kernel_rfl
  have e5 : bits BinOp.and IntKind.u64 0 1073741823 = 0 := by kernel_rfl
  go_enter Tryz.func60, Tryz.ntmps60
  go_wp2
  go_end0
  go_wp2
  refine bodyPost_ret (v := .agg #[.int .u64 0, .int .i64 (s + 1), .pointer none]) (by simp [results, Tryz.results60, go_sem]) rfl ⟨rfl, by repeat (with_reducible first | exact Below.refl _ _ | apply below_alloc | apply pw_below_drewN | apply below_drew1 | refine below_set ?_ (by omega))⟩
set_option maxHeartbeats 1000000 in
theorem Add_60 (s : Int) (w : World) (h0 : 1000000 ≤ s) (h1 : s ≤ 100000000000) :
    Calls Tryz.prog 60 #[.agg #[.int .u64 0, .int .i64 s, .pointer none], .int .i64 60000000000] w fun e w' => e = .returned (.agg #[.int .u64 0, .int .i64 (s + 60), .pointer none]) ∧ Below w.heap.size w w' := by
  have hu63 := Tryz.underlying63
  have hbz := bzne
  have e3 : bits BinOp.andNot IntKind.u64 0 1073741823 = 0 := by kernel_rfl
  have e4 : bits BinOp.or IntKind.u64 0 0 = 0 := by kernel_rfl
  have e5 : bits BinOp.and IntKind.u64 0 1073741823 = 0 := by kernel_rfl
  go_enter Tryz.func60, Tryz.ntmps60
  go_wp2
  go_end0
  go_wp2
  refine bodyPost_ret (v := .agg #[.int .u64 0, .int .i64 (s + 60), .pointer none]) (by simp [results, Tryz.results60, go_sem]) rfl ⟨rfl, by repeat (with_reducible first | exact Below.refl _ _ | apply below_alloc | apply pw_below_drewN | apply below_drew1 | refine below_set ?_ (by omega))⟩
set_option maxHeartbeats 1000000 in
theorem Add_3600 (s : Int) (w : World) (h0 : 1000000 ≤ s) (h1 : s ≤ 100000000000) :
    Calls Tryz.prog 60 #[.agg #[.int .u64 0, .int .i64 s, .pointer none], .int .i64 3600000000000] w fun e w' => e = .returned (.agg #[.int .u64 0, .int .i64 (s + 3600), .pointer none]) ∧ Below w.heap.size w w' := by
  have hu63 := Tryz.underlying63
  have hbz := bzne
  have e3 : bits BinOp.andNot IntKind.u64 0 1073741823 = 0 := by kernel_rfl
  have e4 : bits BinOp.or IntKind.u64 0 0 = 0 := by kernel_rfl
  have e5 : bits BinOp.and IntKind.u64 0 1073741823 = 0 := by kernel_rfl
  go_enter Tryz.func60, Tryz.ntmps60
  go_wp2
  go_end0
  go_wp2
  refine bodyPost_ret (v := .agg #[.int .u64 0, .int .i64 (s + 3600), .pointer none]) (by simp [results, Tryz.results60, go_sem]) rfl ⟨rfl, by repeat (with_reducible first | exact Below.refl _ _ | apply below_alloc | apply pw_below_drewN | apply below_drew1 | refine below_set ?_ (by omega))⟩
set_option maxHeartbeats 1000000 in
theorem Add_m1 (s : Int) (w : World) (h0 : 1000000 ≤ s) (h1 : s ≤ 100000000000) :
    Calls Tryz.prog 60 #[.agg #[.int .u64 0, .int .i64 s, .pointer none], .int .i64 (-1000000000)] w fun e w' => e = .returned (.agg #[.int .u64 0, .int .i64 (s - 1), .pointer none]) ∧ Below w.heap.size w w' := by
  have hu63 := Tryz.underlying63
  have hbz := bzne
  have e3 : bits BinOp.andNot IntKind.u64 0 1073741823 = 0 := by kernel_rfl
  have e4 : bits BinOp.or IntKind.u64 0 0 = 0 := by kernel_rfl
  have e5 : bits BinOp.and IntKind.u64 0 1073741823 = 0 := by kernel_rfl
  have en : decide (s < s + -1) = false := decide_eq_false (by omega)
  go_enter Tryz.func60, Tryz.ntmps60
  go_wp2
  go_end0
  go_wp2
  refine bodyPost_ret (v := .agg #[.int .u64 0, .int .i64 (s + -1), .pointer none]) (by simp [results, Tryz.results60, go_sem]) rfl ⟨by rw [show s + -1 = s - 1 from by omega], by repeat (with_reducible first | exact Below.refl _ _ | apply below_alloc | apply pw_below_drewN | apply below_drew1 | refine below_set ?_ (by omega))⟩
set_option maxHeartbeats 1000000 in
theorem Add_m60 (s : Int) (w : World) (h0 : 1000000 ≤ s) (h1 : s ≤ 100000000000) :
    Calls Tryz.prog 60 #[.agg #[.int .u64 0, .int .i64 s, .pointer none], .int .i64 (-60000000000)] w fun e w' => e = .returned (.agg #[.int .u64 0, .int .i64 (s - 60), .pointer none]) ∧ Below w.heap.size w w' := by
  have hu63 := Tryz.underlying63
  have hbz := bzne
  have e3 : bits BinOp.andNot IntKind.u64 0 1073741823 = 0 := by kernel_rfl
  have e4 : bits BinOp.or IntKind.u64 0 0 = 0 := by kernel_rfl
  have e5 : bits BinOp.and IntKind.u64 0 1073741823 = 0 := by kernel_rfl
  have en : decide (s < s + -60) = false := decide_eq_false (by omega)
  go_enter Tryz.func60, Tryz.ntmps60
  go_wp2
  go_end0
  go_wp2
  refine bodyPost_ret (v := .agg #[.int .u64 0, .int .i64 (s + -60), .pointer none]) (by simp [results, Tryz.results60, go_sem]) rfl ⟨by rw [show s + -60 = s - 60 from by omega], by repeat (with_reducible first | exact Below.refl _ _ | apply below_alloc | apply pw_below_drewN | apply below_drew1 | refine below_set ?_ (by omega))⟩
set_option maxHeartbeats 1000000 in
theorem Add_m3600 (s : Int) (w : World) (h0 : 1000000 ≤ s) (h1 : s ≤ 100000000000) :
    Calls Tryz.prog 60 #[.agg #[.int .u64 0, .int .i64 s, .pointer none], .int .i64 (-3600000000000)] w fun e w' => e = .returned (.agg #[.int .u64 0, .int .i64 (s - 3600), .pointer none]) ∧ Below w.heap.size w w' := by
  have hu63 := Tryz.underlying63
  have hbz := bzne
  have e3 : bits BinOp.andNot IntKind.u64 0 1073741823 = 0 := by kernel_rfl
  have e4 : bits BinOp.or IntKind.u64 0 0 = 0 := by kernel_rfl
  have e5 : bits BinOp.and IntKind.u64 0 1073741823 = 0 := by kernel_rfl
  have en : decide (s < s + -3600) = false := decide_eq_false (by omega)
  go_enter Tryz.func60, Tryz.ntmps60
  go_wp2
  go_end0
  go_wp2
  refine bodyPost_ret (v := .agg #[.int .u64 0, .int .i64 (s + -3600), .pointer none]) (by simp [results, Tryz.results60, go_sem]) rfl ⟨by rw [show s + -3600 = s - 3600 from by omega], by repeat (with_reducible first | exact Below.refl _ _ | apply below_alloc | apply pw_below_drewN | apply below_drew1 | refine below_set ?_ (by omega))⟩
set_option maxHeartbeats 1000000 in
theorem Add_0 (s : Int) (w : World) (h0 : 1000000 ≤ s) (h1 : s ≤ 100000000000) :
    Calls Tryz.prog 60 #[.agg #[.int .u64 0, .int .i64 s, .pointer none], .int .i64 0] w fun e w' => e = .returned (.agg #[.int .u64 0, .int .i64 (s), .pointer none]) ∧ Below w.heap.size w w' := by
  have hu63 := Tryz.underlying63
  have hbz := bzne
  have e3 : bits BinOp.andNot IntKind.u64 0 1073741823 = 0 := by kernel_rfl
  have e4 : bits BinOp.or IntKind.u64 0 0 = 0 := by kernel_rfl
  have e5 : bits BinOp.and IntKind.u64 0 1073741823 = 0 := by kernel_rfl
  go_enter Tryz.func60, Tryz.ntmps60
  go_wp2
  go_end0
  go_wp2
  refine bodyPost_ret (v := .agg #[.int .u64 0, .int .i64 (s), .pointer none]) (by simp [results, Tryz.results60, go_sem]) rfl ⟨rfl, by repeat (with_reducible first | exact Below.refl _ _ | apply below_alloc | apply pw_below_drewN | apply below_drew1 | refine below_set ?_ (by omega))⟩
def DivPost (w : World) (e : Ending) (w' : World) : Prop := ∃ q : Int, e = .returned (.tuple #[.int .i64 q, .int .i64 0]) ∧ Below w.heap.size w w'
set_option maxHeartbeats 1000000 in
theorem div_any (s : Int) (w : World) (h0 : 1000000 ≤ s) (h1 : s ≤ 100000000000) :
    Calls Tryz.prog 59 #[.agg #[.int .u64 0, .int .i64 s, .pointer none], .int .i64 1000000000] w fun e w' => DivPost w e w' := by
  have hu63 := Tryz.underlying63
  have hbz := bzne
  have e5 : bits BinOp.and IntKind.u64 0 1073741823 = 0 := by kernel_rfl
  go_enter Tryz.func59, Tryz.ntmps59
  go_wp2
  go_ret2
  exact ⟨_, rfl, by repeat (with_reducible first | exact Below.refl _ _ | apply below_alloc | apply pw_below_drewN | apply below_drew1)⟩
end Go.Proofs.YtjpcdkhapeejjaaGreatDoor.A
