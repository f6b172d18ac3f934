/- Steps of the proof of the law: contracts of functions of the given program, and plain lemmas about what they compute.
Conditions: none beyond those that each theorem names. -/
import Derived.Test.YtjpcdkhapeejjaaGreatDoorK02
import Derived.Test.YtjpcdkhapeejjaaGreatDoorKA
set_option linter.unusedVariables false
set_option linter.unusedSimpArgs false
section
namespace Go.Proofs.YtjpcdkhapeejjaaGreatDoor.A
open Go.RowKit Go.Proofs.YtjpcdkhapeejjaaGreatDoorW.PrintWords Go.Proofs.YtjpcdkhapeejjaaGreatDoorW.PrintLast Go.Proofs.YtjpcdkhapeejjaaGreatDoorW.PrintMore
attribute [local go_sem] setCell_drewN
def spec_DayPrev.f (a0_0 : Int) (a0_1 : Int) (a0_2 : Int) (a0_3 : Int) (a0_4 : Int) (a0_5 : Int) : Option (Int × Int × Int × Int × Int × Int) :=
  if -100000 ≤ a0_0 ∧ a0_0 ≤ 100000 ∧ 1 ≤ a0_1 ∧ a0_1 ≤ 12 ∧ 0 ≤ a0_2 ∧ a0_2 ≤ 31 then (if 1 ≤ a0_2 - 1 then some (a0_0, a0_1, a0_2 - 1, 0, 0, 0) else if 1 ≤ a0_1 - 1 then (spec_Days.f a0_0 (a0_1 - 1)).bind (fun n => some (a0_0, a0_1 - 1, n, 0, 0, 0)) else (spec_Days.f (a0_0 - 1) 12).bind (fun n => some (a0_0 - 1, 12, n, 0, 0, 0))) else none
set_option maxRecDepth 100000 in
set_option maxHeartbeats 2000000 in
theorem spec_DayPrev.calls (a0_0 : Int) (a0_1 : Int) (a0_2 : Int) (a0_3 : Int) (a0_4 : Int) (a0_5 : Int) (r1 : Int) (r2 : Int) (r3 : Int) (r4 : Int) (r5 : Int) (r6 : Int) (w : World) (h : spec_DayPrev.f a0_0 a0_1 a0_2 a0_3 a0_4 a0_5 = some (r1, r2, r3, r4, r5, r6)) :
    Calls Tryz.prog 34 #[.agg #[.int .i64 a0_0, .int .i64 a0_1, .int .i64 a0_2, .int .i64 a0_3, .int .i64 a0_4, .int .i64 a0_5]] w fun e w' => e = .returned (.agg #[.int .i64 r1, .int .i64 r2, .int .i64 r3, .int .i64 r4, .int .i64 r5, .int .i64 r6]) ∧ Below w.heap.size w w' := by
 have hu33 := Tryz.underlying33
 unfold spec_DayPrev.f at h
 split at h
 ·
  rename_i hb
  obtain ⟨b1, b2, b3, b4, b5, b6⟩ := hb
  split at h
  ·
   rename_i c1
   have c1b : decide (a0_2 - 1 < 1) = false := decide_eq_false (by omega)
   cases h
   go_enter Tryz.func34, Tryz.ntmps34
   go_wp2
   refine bodyPost_ret (v := .agg #[.int .i64 a0_0, .int .i64 a0_1, .int .i64 a0_2, .int .i64 0, .int .i64 0, .int .i64 0]) (by simp [results, Tryz.results20, go_sem]) rfl ?_
   go_wp2
   refine bodyPost_ret (v := .agg #[.int .i64 a0_0, .int .i64 a0_1, .int .i64 (a0_2 - 1), .int .i64 0, .int .i64 0, .int .i64 0]) (by simp [results, Tryz.results34, go_sem]) rfl ⟨rfl, ?_⟩
   repeat (with_reducible first | exact Below.refl _ _ | apply below_alloc | apply pw_below_drewN | apply below_drew1 | refine below_set ?_ (by omega))
  ·
   have c1b : decide (a0_2 - 1 < 1) = true := decide_eq_true (by omega)
   split at h
   ·
    rename_i c1
    have c2b : decide (a0_1 - 1 < 1) = false := decide_eq_false (by omega)
    obtain ⟨n, hD, h⟩ := Option.bind_eq_some_iff.mp h
    have HD := Aside0.mk hD
    clear hD
    cases h
    go_enter Tryz.func34, Tryz.ntmps34
    go_wp2
    refine bodyPost_ret (v := .agg #[.int .i64 a0_0, .int .i64 a0_1, .int .i64 a0_2, .int .i64 0, .int .i64 0, .int .i64 0]) (by simp [results, Tryz.results20, go_sem]) rfl ?_
    go_wp2_with (go_at_call 40; refine (spec_Days.calls _ _ _ _ HD.out).mono ?_; rintro e w' ⟨rfl, ⟨nd, rfl⟩⟩)
    refine bodyPost_ret (v := .agg #[.int .i64 a0_0, .int .i64 (a0_1 - 1), .int .i64 r3, .int .i64 0, .int .i64 0, .int .i64 0]) (by simp [results, Tryz.results34, go_sem]) rfl ⟨rfl, ?_⟩
    repeat (with_reducible first | exact Below.refl _ _ | apply below_alloc | apply pw_below_drewN | apply below_drew1 | refine below_set ?_ (by omega))
   ·
    rename_i c1
    have c2b : decide (a0_1 - 1 < 1) = true := decide_eq_true (by omega)
    obtain ⟨n, hD, h⟩ := Option.bind_eq_some_iff.mp h
    have HD := Aside0.mk hD
    clear hD
    cases h
    go_enter Tryz.func34, Tryz.ntmps34
    go_wp2
    refine bodyPost_ret (v := .agg #[.int .i64 a0_0, .int .i64 a0_1, .int .i64 a0_2, .int .i64 0, .int .i64 0, .int .i64 0]) (by simp [results, Tryz.results20, go_sem]) rfl ?_
    go_wp2_with (go_at_call 40; refine (spec_Days.calls _ _ _ _ HD.out).mono ?_; rintro e w' ⟨rfl, ⟨nd, rfl⟩⟩)
    refine bodyPost_ret (v := .agg #[.int .i64 (a0_0 - 1), .int .i64 12, .int .i64 r3, .int .i64 0, .int .i64 0, .int .i64 0]) (by simp [results, Tryz.results34, go_sem]) rfl ⟨rfl, ?_⟩
    repeat (with_reducible first | exact Below.refl _ _ | apply below_alloc | apply pw_below_drewN | apply below_drew1 | refine below_set ?_ (by omega))
 ·
  cases h
end Go.Proofs.YtjpcdkhapeejjaaGreatDoor.A
end
