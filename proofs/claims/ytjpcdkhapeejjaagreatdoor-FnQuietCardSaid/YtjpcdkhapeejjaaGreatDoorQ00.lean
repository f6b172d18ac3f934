/- Steps of the proof of the law: contracts of functions of the given program, and plain lemmas about what they compute.
Conditions: none beyond those that each theorem names. -/
import Derived.Deep.Slices
import Derived.Lib.SmallJoins
import Derived.OpenShut
import Derived.Test.YtjpcdkhapeejjaaGreatDoorK02
import Derived.Test.YtjpcdkhapeejjaaGreatDoorK25
import Derived.Test.YtjpcdkhapeejjaaGreatDoorK45
import Derived.Test.YtjpcdkhapeejjaaGreatDoorK47
import Derived.Test.YtjpcdkhapeejjaaGreatDoorK49
import Derived.Test.YtjpcdkhapeejjaaGreatDoorQPatch
set_option linter.unusedVariables false
set_option linter.unusedSimpArgs false
section
namespace Go.Proofs.YtjpcdkhapeejjaaGreatDoor.A
open Go.RowKit Cal Go.Proofs.YtjpcdkhapeejjaaGreatDoorW.PrintWords Go.Proofs.YtjpcdkhapeejjaaGreatDoorW.PrintLast Go.Proofs.YtjpcdkhapeejjaaGreatDoorW.PrintMore
set_option maxRecDepth 100000
set_option maxHeartbeats 8000000 in
theorem quiet_a (A0_0 : Option Addr) (c0_0 : Nat) (l0_0 : List (List S53)) (a0_1 : Bool) (a1_0 a1_1 a1_2 a1_3 a1_4 a1_5 a2 : Int) (w : World) (C10 : Aside0 (∀ W, Below w.heap.size w W → Calls Tryz.prog 10 #[.agg #[.slice A0_0 l0_0.length c0_0, .bool a0_1]] W fun e w' => e = .returned (.bool false) ∧ Below W.heap.size W w')) :
    Calls Tryz.prog 7 #[.agg #[.slice A0_0 l0_0.length c0_0, .bool a0_1], .agg #[.int .i64 a1_0, .int .i64 a1_1, .int .i64 a1_2, .int .i64 a1_3, .int .i64 a1_4, .int .i64 a1_5], .int .i64 a2] w fun e w' => e = .returned (.bool true) ∧ Below w.heap.size w w' := by
  have hu24 := Tryz.underlying24
  have hu26 := Tryz.underlying26
  have hu30 := Tryz.underlying30
  have hu33 := Tryz.underlying33
  have HM := Aside0.mk (((Mem.start w).new (et 24 A0_0 l0_0.length c0_0 a0_1)).new (mt 26 a1_0 a1_1 a1_2 a1_3 a1_4 a1_5))
  rw [World.size_alloc] at HM
  go_enter Tryz.func7, Tryz.ntmps7
  go_wp2_with (first | (go_at_call 10; (with_reducible refine Calls.mono (C10.out _ HM.out.below) ?_); rintro e wz ⟨rfl, hb⟩; have HB := (HM.out.step hb).below))
  go_ret
  exact ⟨rfl, HB⟩
set_option maxHeartbeats 8000000 in
theorem quiet_b (A0_0 : Option Addr) (c0_0 : Nat) (l0_0 : List (List S53)) (a0_1 : Bool) (a1_0 a1_1 a1_2 a1_3 a1_4 a1_5 a2 : Int) (w : World) (le : List (List S54)) (sc q : Bool) (C10 : Aside0 (∀ W, Below w.heap.size w W → Calls Tryz.prog 10 #[.agg #[.slice A0_0 l0_0.length c0_0, .bool a0_1]] W fun e w' => e = .returned (.bool true) ∧ Below W.heap.size W w')) (C11 : Aside0 (∀ W, Below w.heap.size w W → Calls Tryz.prog 11 #[.agg #[.slice A0_0 l0_0.length c0_0, .bool a0_1]] W fun e w' => ∃ v0_ : Value, e = .returned (.agg #[v0_, .bool sc]) ∧ Kd.S (Kd.slice 54 k54) 51 w' W.heap.size (fun _ => True) v0_ le ∧ Below W.heap.size W w')) (C12 : Aside0 (∀ W Ao co, Kd.C (Kd.slice 54 k54) W Ao le.length le → le.length ≤ co → Calls Tryz.prog 12 #[.agg #[.slice Ao le.length co, .bool sc], .agg #[.int .i64 a1_0, .int .i64 a1_1, .int .i64 a1_2, .int .i64 a1_3, .int .i64 a1_4, .int .i64 a1_5]] W fun e w' => e = .returned (.bool q) ∧ Below W.heap.size W w')) (hq : q = false ∨ decide (a2 < 0) = true ∨ (decide (a2 < 0) = false ∧ decide (86399 < a2) = true)) :
    Calls Tryz.prog 7 #[.agg #[.slice A0_0 l0_0.length c0_0, .bool a0_1], .agg #[.int .i64 a1_0, .int .i64 a1_1, .int .i64 a1_2, .int .i64 a1_3, .int .i64 a1_4, .int .i64 a1_5], .int .i64 a2] w fun e w' => e = .returned (.bool true) ∧ Below w.heap.size w w' := by
  have hu24 := Tryz.underlying24
  have hu26 := Tryz.underlying26
  have hu30 := Tryz.underlying30
  have hu33 := Tryz.underlying33
  have HM := Aside0.mk (((Mem.start w).new (et 24 A0_0 l0_0.length c0_0 a0_1)).new (mt 26 a1_0 a1_1 a1_2 a1_3 a1_4 a1_5))
  rw [World.size_alloc] at HM
  have go_on : ∀ q' : Bool, q = q' → (q' = false ∨ decide (a2 < 0) = true ∨ (decide (a2 < 0) = false ∧ decide (86399 < a2) = true)) := fun q' e => e ▸ hq
  clear hq
  cases q with
  | false =>
    clear go_on
    go_enter Tryz.func7, Tryz.ntmps7
    go_wp2_with (first
      | (go_at_call 10; (with_reducible refine Calls.mono (C10.out _ HM.out.below) ?_); rintro e wz ⟨rfl, hb⟩; have HN := Aside0.mk (HM.out.step hb); clear HM hb; have HM := HN; clear HN; have r0 := (et_cells (HM.out.at_ 1 rfl)).1; have r1 := (et_cells (HM.out.at_ 1 rfl)).2; obtain ⟨k0, k1, k2, k3, k4, k5⟩ := mt_cells (HM.out.at_ 0 rfl))
      | (go_at_call 11; (with_reducible refine Calls.mono (C11.out _ HM.out.below) ?_); rintro e wy ⟨v0, rfl, hS, hb⟩; obtain ⟨Ao, co, rfl⟩ := Kd.S_slice hS; have hC := Aside0.mk (Kd.S_reads' hS).2.2; have hc := Aside0.mk (Kd.S_reads' hS).2.1; have HN := Aside0.mk (HM.out.step hb); clear HM hb hS r0 r1 k0 k1 k2 k3 k4 k5; have HM := HN; clear HN; have KM := Aside0.mk fun (W : World) (hb : Below wy.heap.size wy W) => mt_cells (g := w.heap.size + 1) (t := 26) ((hb.block _ (HM.out.lt 0 rfl)).trans (HM.out.at_ 0 rfl)); obtain ⟨k0, k1, k2, k3, k4, k5⟩ := mt_cells (HM.out.at_ 0 rfl); have klt := HM.out.lt 0 rfl; have HE := Aside0.mk ((Mem.start wy).new (et 30 Ao le.length co sc)))
      | (go_at_call 12; (with_reducible refine Calls.mono (C12.out _ Ao co (Kd.C_below hC.out HE.out.below) hc.out) ?_); rintro e wd ⟨rfl, hb⟩; have HN := Aside0.mk (HE.out.step hb); clear HE hb; (try clear e0); (try clear e1); (try clear k0); (try clear k1); (try clear k2); (try clear k3); (try clear k4); (try clear k5); (try clear n0); (try clear n1); (try clear n2); (try clear n3); (try clear n4); (try clear n5); (try clear p0); (try clear p1); (try clear p2); (try clear p3); (try clear p4); (try clear p5); have HE := HN; clear HN; obtain ⟨e0, e1⟩ := et_cells (HE.out.blk (wy.heap.size, et 30 Ao le.length co sc) (by simp)).1; obtain ⟨k0, k1, k2, k3, k4, k5⟩ := KM.out _ HE.out.below; (try (have zz := mt_cells (HE.out.blk (wn.heap.size, mt 26 x1 x2 x3 x4 x5 x6) (by simp)).1; obtain ⟨n0, n1, n2, n3, n4, n5⟩ := zz)); (try (have zz := mt_cells (HE.out.blk (wq.heap.size, mt 33 q1 q2 q3 q4 q5 q6) (by simp)).1; obtain ⟨p0, p1, p2, p3, p4, p5⟩ := zz))))
    go_ret
    exact ⟨rfl, below_step HM.out.below HE.out.below⟩
  | true =>
    rcases go_on true rfl with h | d0 | ⟨d0, d1⟩
    · cases h
    all_goals
      go_enter Tryz.func7, Tryz.ntmps7
      go_wp2_with (first
      | (go_at_call 10; (with_reducible refine Calls.mono (C10.out _ HM.out.below) ?_); rintro e wz ⟨rfl, hb⟩; have HN := Aside0.mk (HM.out.step hb); clear HM hb; have HM := HN; clear HN; have r0 := (et_cells (HM.out.at_ 1 rfl)).1; have r1 := (et_cells (HM.out.at_ 1 rfl)).2; obtain ⟨k0, k1, k2, k3, k4, k5⟩ := mt_cells (HM.out.at_ 0 rfl))
      | (go_at_call 11; (with_reducible refine Calls.mono (C11.out _ HM.out.below) ?_); rintro e wy ⟨v0, rfl, hS, hb⟩; obtain ⟨Ao, co, rfl⟩ := Kd.S_slice hS; have hC := Aside0.mk (Kd.S_reads' hS).2.2; have hc := Aside0.mk (Kd.S_reads' hS).2.1; have HN := Aside0.mk (HM.out.step hb); clear HM hb hS r0 r1 k0 k1 k2 k3 k4 k5; have HM := HN; clear HN; have KM := Aside0.mk fun (W : World) (hb : Below wy.heap.size wy W) => mt_cells (g := w.heap.size + 1) (t := 26) ((hb.block _ (HM.out.lt 0 rfl)).trans (HM.out.at_ 0 rfl)); obtain ⟨k0, k1, k2, k3, k4, k5⟩ := mt_cells (HM.out.at_ 0 rfl); have klt := HM.out.lt 0 rfl; have HE := Aside0.mk ((Mem.start wy).new (et 30 Ao le.length co sc)))
      | (go_at_call 12; (with_reducible refine Calls.mono (C12.out _ Ao co (Kd.C_below hC.out HE.out.below) hc.out) ?_); rintro e wd ⟨rfl, hb⟩; have HN := Aside0.mk (HE.out.step hb); clear HE hb; (try clear e0); (try clear e1); (try clear k0); (try clear k1); (try clear k2); (try clear k3); (try clear k4); (try clear k5); (try clear n0); (try clear n1); (try clear n2); (try clear n3); (try clear n4); (try clear n5); (try clear p0); (try clear p1); (try clear p2); (try clear p3); (try clear p4); (try clear p5); have HE := HN; clear HN; obtain ⟨e0, e1⟩ := et_cells (HE.out.blk (wy.heap.size, et 30 Ao le.length co sc) (by simp)).1; obtain ⟨k0, k1, k2, k3, k4, k5⟩ := KM.out _ HE.out.below; (try (have zz := mt_cells (HE.out.blk (wn.heap.size, mt 26 x1 x2 x3 x4 x5 x6) (by simp)).1; obtain ⟨n0, n1, n2, n3, n4, n5⟩ := zz)); (try (have zz := mt_cells (HE.out.blk (wq.heap.size, mt 33 q1 q2 q3 q4 q5 q6) (by simp)).1; obtain ⟨p0, p1, p2, p3, p4, p5⟩ := zz))))
      go_ret
      exact ⟨rfl, below_step HM.out.below HE.out.below⟩
set_option maxHeartbeats 8000000 in
theorem quiet_c (A0_0 : Option Addr) (c0_0 : Nat) (l0_0 : List (List S53)) (a0_1 : Bool) (a1_0 a1_1 a1_2 a1_3 a1_4 a1_5 a2 : Int) (w : World) (le : List (List S54)) (sc b : Bool) (tx : ByteArray) (x1 x2 x3 x4 x5 x6 q1 q2 q3 q4 q5 q6 sm sn : Int) (C10 : Aside0 (∀ W, Below w.heap.size w W → Calls Tryz.prog 10 #[.agg #[.slice A0_0 l0_0.length c0_0, .bool a0_1]] W fun e w' => e = .returned (.bool true) ∧ Below W.heap.size W w')) (C11 : Aside0 (∀ W, Below w.heap.size w W → Calls Tryz.prog 11 #[.agg #[.slice A0_0 l0_0.length c0_0, .bool a0_1]] W fun e w' => ∃ v0_ : Value, e = .returned (.agg #[v0_, .bool sc]) ∧ Kd.S (Kd.slice 54 k54) 51 w' W.heap.size (fun _ => True) v0_ le ∧ Below W.heap.size W w')) (C12 : Aside0 (∀ W Ao co, Kd.C (Kd.slice 54 k54) W Ao le.length le → le.length ≤ co → Calls Tryz.prog 12 #[.agg #[.slice Ao le.length co, .bool sc], .agg #[.int .i64 a1_0, .int .i64 a1_1, .int .i64 a1_2, .int .i64 a1_3, .int .i64 a1_4, .int .i64 a1_5]] W fun e w' => e = .returned (.bool true) ∧ Below W.heap.size W w')) (d0 : decide (a2 < 0) = false) (d1 : decide (86399 < a2) = false)
    (C16 : Aside0 (∀ W Ao co, Kd.C (Kd.slice 54 k54) W Ao le.length le → le.length ≤ co → Calls Tryz.prog 16 #[.agg #[.slice Ao le.length co, .bool sc]] W fun e w' => e = .returned (.string tx) ∧ Below W.heap.size W w'))
    (C15 : Aside0 (∀ W, Below w.heap.size w W → Calls Tryz.prog 15 #[.string tx, .agg #[.int .i64 a1_0, .int .i64 a1_1, .int .i64 a1_2, .int .i64 a1_3, .int .i64 a1_4, .int .i64 a1_5], .bool false] W fun e w' => e = .returned (.tuple #[.agg #[.int .i64 x1, .int .i64 x2, .int .i64 x3, .int .i64 x4, .int .i64 x5, .int .i64 x6], .bool true]) ∧ Below W.heap.size W w'))
    (C14 : Aside0 (∀ W, Calls Tryz.prog 14 #[.agg #[.int .i64 a1_0, .int .i64 a1_1, .int .i64 a1_2, .int .i64 a1_3, .int .i64 a1_4, .int .i64 a1_5]] W fun e w' => e = .returned (.agg #[.int .i64 a1_0, .int .i64 a1_1, .int .i64 a1_2, .int .i64 a1_3, .int .i64 a1_4, .int .i64 a1_5]) ∧ Below W.heap.size W w')) (C14b : Aside0 (∀ W, Calls Tryz.prog 14 #[.agg #[.int .i64 x1, .int .i64 x2, .int .i64 x3, .int .i64 x4, .int .i64 x5, .int .i64 x6]] W fun e w' => e = .returned (.agg #[.int .i64 x1, .int .i64 x2, .int .i64 x3, .int .i64 x4, .int .i64 x5, .int .i64 x6]) ∧ Below W.heap.size W w'))
    (C20 : Aside0 (∀ W, Calls Tryz.prog 20 #[.agg #[.int .i64 a1_0, .int .i64 a1_1, .int .i64 a1_2, .int .i64 a1_3, .int .i64 a1_4, .int .i64 a1_5], .int .i64 a2] W fun e w' => e = .returned (.agg #[.int .i64 q1, .int .i64 q2, .int .i64 q3, .int .i64 q4, .int .i64 q5, .int .i64 q6]) ∧ Below W.heap.size W w')) (C22 : Aside0 (∀ W, Calls Tryz.prog 22 #[.agg #[.int .i64 q1, .int .i64 q2, .int .i64 q3, .int .i64 q4, .int .i64 q5, .int .i64 q6]] W fun e w' => e = .returned (.agg #[.int .i64 q1, .int .i64 q2, .int .i64 q3, .int .i64 q4, .int .i64 q5, .int .i64 q6]) ∧ Below W.heap.size W w'))
    (C21 : Aside0 (∀ W, Calls Tryz.prog 21 #[.string tx, .agg #[.int .i64 q1, .int .i64 q2, .int .i64 q3, .int .i64 q4, .int .i64 q5, .int .i64 q6]] W fun e w' => e = .returned (.tuple #[.bool b, .bool true]) ∧ Below W.heap.size W w')) (C21b : Aside0 (∀ W, Calls Tryz.prog 21 #[.string tx, .agg #[.int .i64 x1, .int .i64 x2, .int .i64 x3, .int .i64 x4, .int .i64 x5, .int .i64 x6]] W fun e w' => e = .returned (.tuple #[.bool true, .bool true]) ∧ Below W.heap.size W w'))
    (C23 : Aside0 (∀ W, Calls Tryz.prog 23 #[.agg #[.int .i64 a1_0, .int .i64 a1_1, .int .i64 a1_2, .int .i64 a1_3, .int .i64 a1_4, .int .i64 a1_5]] W fun e w' => e = .returned (.int .i64 sm) ∧ Below W.heap.size W w')) (C23b : Aside0 (∀ W, Calls Tryz.prog 23 #[.agg #[.int .i64 x1, .int .i64 x2, .int .i64 x3, .int .i64 x4, .int .i64 x5, .int .i64 x6]] W fun e w' => e = .returned (.int .i64 sn) ∧ Below W.heap.size W w'))
    (hb1 : sm < a2 → ¬ (x1 = a1_0 ∧ x2 = a1_1 ∧ x3 = a1_2) → b = false) (hb2 : sm < a2 → x1 = a1_0 → x2 = a1_1 → x3 = a1_2 → a2 < sn → b = false) :
    Calls Tryz.prog 7 #[.agg #[.slice A0_0 l0_0.length c0_0, .bool a0_1], .agg #[.int .i64 a1_0, .int .i64 a1_1, .int .i64 a1_2, .int .i64 a1_3, .int .i64 a1_4, .int .i64 a1_5], .int .i64 a2] w fun e w' => e = .returned (.bool true) ∧ Below w.heap.size w w' := by
  have hu24 := Tryz.underlying24
  have hu26 := Tryz.underlying26
  have hu30 := Tryz.underlying30
  have hu33 := Tryz.underlying33
  have HM := Aside0.mk (((Mem.start w).new (et 24 A0_0 l0_0.length c0_0 a0_1)).new (mt 26 a1_0 a1_1 a1_2 a1_3 a1_4 a1_5))
  rw [World.size_alloc] at HM
  have D : decide (sm < a2) = false ∨ (decide (sm < a2) = true ∧ ((((x1 == a1_0) = false ∧ (x1 != a1_0) = true) ∧ b = false) ∨ (((x1 == a1_0) = true ∧ (x1 != a1_0) = false) ∧ ((((x2 == a1_1) = false ∧ (x2 != a1_1) = true) ∧ b = false) ∨ (((x2 == a1_1) = true ∧ (x2 != a1_1) = false) ∧ ((((x3 == a1_2) = false ∧ (x3 != a1_2) = true) ∧ b = false) ∨ (((x3 == a1_2) = true ∧ (x3 != a1_2) = false) ∧ (decide (a2 < sn) = false ∨ (decide (a2 < sn) = true ∧ b = false))))))))) := by
    have eqs : ∀ u v : Int, u ≠ v → (u == v) = false ∧ (u != v) = true := fun u v h => ⟨beq_eq_false_iff_ne.mpr h, bne_iff_ne.mpr h⟩
    have eqt : ∀ u v : Int, u = v → (u == v) = true ∧ (u != v) = false := fun u v h => ⟨beq_iff_eq.mpr h, bne_eq_false_iff_eq.mpr h⟩
    by_cases c0 : sm < a2
    case neg => exact .inl (decide_eq_false c0)
    refine .inr ⟨decide_eq_true c0, ?_⟩
    by_cases c1 : x1 = a1_0
    case neg => exact .inl ⟨eqs _ _ c1, hb1 c0 fun q => c1 q.1⟩
    refine .inr ⟨eqt _ _ c1, ?_⟩
    by_cases c2 : x2 = a1_1
    case neg => exact .inl ⟨eqs _ _ c2, hb1 c0 fun q => c2 q.2.1⟩
    refine .inr ⟨eqt _ _ c2, ?_⟩
    by_cases c3 : x3 = a1_2
    case neg => exact .inl ⟨eqs _ _ c3, hb1 c0 fun q => c3 q.2.2⟩
    refine .inr ⟨eqt _ _ c3, ?_⟩
    by_cases c4 : a2 < sn
    · exact .inr ⟨decide_eq_true c4, hb2 c0 c1 c2 c3 c4⟩
    · exact .inl (decide_eq_false c4)
  clear hb1 hb2
  rcases D with g0 | ⟨g0, ⟨⟨g1, g1'⟩, rfl⟩ | ⟨⟨g1, g1'⟩, ⟨⟨g2, g2'⟩, rfl⟩ | ⟨⟨g2, g2'⟩, ⟨⟨g3, g3'⟩, rfl⟩ | ⟨⟨g3, g3'⟩, g4 | ⟨g4, rfl⟩⟩⟩⟩⟩
  all_goals
    go_enter Tryz.func7, Tryz.ntmps7
    go_wp2_with (first
      | (go_at_call 10; (with_reducible refine Calls.mono (C10.out _ HM.out.below) ?_); rintro e wz ⟨rfl, hb⟩; have HN := Aside0.mk (HM.out.step hb); clear HM hb; have HM := HN; clear HN; have r0 := (et_cells (HM.out.at_ 1 rfl)).1; have r1 := (et_cells (HM.out.at_ 1 rfl)).2; obtain ⟨k0, k1, k2, k3, k4, k5⟩ := mt_cells (HM.out.at_ 0 rfl))
      | (go_at_call 11; (with_reducible refine Calls.mono (C11.out _ HM.out.below) ?_); rintro e wy ⟨v0, rfl, hS, hb⟩; obtain ⟨Ao, co, rfl⟩ := Kd.S_slice hS; have hC := Aside0.mk (Kd.S_reads' hS).2.2; have hc := Aside0.mk (Kd.S_reads' hS).2.1; have HN := Aside0.mk (HM.out.step hb); clear HM hb hS r0 r1 k0 k1 k2 k3 k4 k5; have HM := HN; clear HN; have KM := Aside0.mk fun (W : World) (hb : Below wy.heap.size wy W) => mt_cells (g := w.heap.size + 1) (t := 26) ((hb.block _ (HM.out.lt 0 rfl)).trans (HM.out.at_ 0 rfl)); obtain ⟨k0, k1, k2, k3, k4, k5⟩ := mt_cells (HM.out.at_ 0 rfl); have klt := HM.out.lt 0 rfl; have HE := Aside0.mk ((Mem.start wy).new (et 30 Ao le.length co sc)))
      | (go_at_call 12; (with_reducible refine Calls.mono (C12.out _ Ao co (Kd.C_below hC.out HE.out.below) hc.out) ?_); rintro e wd ⟨rfl, hb⟩; have HN := Aside0.mk (HE.out.step hb); clear HE hb; (try clear e0); (try clear e1); (try clear k0); (try clear k1); (try clear k2); (try clear k3); (try clear k4); (try clear k5); (try clear n0); (try clear n1); (try clear n2); (try clear n3); (try clear n4); (try clear n5); (try clear p0); (try clear p1); (try clear p2); (try clear p3); (try clear p4); (try clear p5); have HE := HN; clear HN; obtain ⟨e0, e1⟩ := et_cells (HE.out.blk (wy.heap.size, et 30 Ao le.length co sc) (by simp)).1; obtain ⟨k0, k1, k2, k3, k4, k5⟩ := KM.out _ HE.out.below; (try (have zz := mt_cells (HE.out.blk (wn.heap.size, mt 26 x1 x2 x3 x4 x5 x6) (by simp)).1; obtain ⟨n0, n1, n2, n3, n4, n5⟩ := zz)); (try (have zz := mt_cells (HE.out.blk (wq.heap.size, mt 33 q1 q2 q3 q4 q5 q6) (by simp)).1; obtain ⟨p0, p1, p2, p3, p4, p5⟩ := zz)))
      | (go_at_call 16; (with_reducible refine Calls.mono (C16.out _ Ao co (Kd.C_below hC.out HE.out.below) hc.out) ?_); rintro e wd ⟨rfl, hb⟩; have HN := Aside0.mk (HE.out.step hb); clear HE hb; (try clear e0); (try clear e1); (try clear k0); (try clear k1); (try clear k2); (try clear k3); (try clear k4); (try clear k5); (try clear n0); (try clear n1); (try clear n2); (try clear n3); (try clear n4); (try clear n5); (try clear p0); (try clear p1); (try clear p2); (try clear p3); (try clear p4); (try clear p5); have HE := HN; clear HN; obtain ⟨e0, e1⟩ := et_cells (HE.out.blk (wy.heap.size, et 30 Ao le.length co sc) (by simp)).1; obtain ⟨k0, k1, k2, k3, k4, k5⟩ := KM.out _ HE.out.below; (try (have zz := mt_cells (HE.out.blk (wn.heap.size, mt 26 x1 x2 x3 x4 x5 x6) (by simp)).1; obtain ⟨n0, n1, n2, n3, n4, n5⟩ := zz)); (try (have zz := mt_cells (HE.out.blk (wq.heap.size, mt 33 q1 q2 q3 q4 q5 q6) (by simp)).1; obtain ⟨p0, p1, p2, p3, p4, p5⟩ := zz)))
      | (go_at_call 15; (with_reducible refine Calls.mono (C15.out _ (below_step HM.out.below HE.out.below)) ?_); rintro e wn ⟨rfl, hb⟩; have HN := Aside0.mk ((HE.out.step hb).new (mt 26 x1 x2 x3 x4 x5 x6)); clear HE hb; (try clear e0); (try clear e1); (try clear k0); (try clear k1); (try clear k2); (try clear k3); (try clear k4); (try clear k5); (try clear n0); (try clear n1); (try clear n2); (try clear n3); (try clear n4); (try clear n5); (try clear p0); (try clear p1); (try clear p2); (try clear p3); (try clear p4); (try clear p5); have HE := HN; clear HN; obtain ⟨e0, e1⟩ := et_cells (HE.out.blk (wy.heap.size, et 30 Ao le.length co sc) (by simp)).1; obtain ⟨k0, k1, k2, k3, k4, k5⟩ := KM.out _ HE.out.below; (try (have zz := mt_cells (HE.out.blk (wn.heap.size, mt 26 x1 x2 x3 x4 x5 x6) (by simp)).1; obtain ⟨n0, n1, n2, n3, n4, n5⟩ := zz)); (try (have zz := mt_cells (HE.out.blk (wq.heap.size, mt 33 q1 q2 q3 q4 q5 q6) (by simp)).1; obtain ⟨p0, p1, p2, p3, p4, p5⟩ := zz)))
      | (go_at_call 14; (with_reducible refine Calls.mono (C14.out _) ?_); rintro e wd ⟨rfl, hb⟩; have HN := Aside0.mk (HE.out.step hb); clear HE hb; (try clear e0); (try clear e1); (try clear k0); (try clear k1); (try clear k2); (try clear k3); (try clear k4); (try clear k5); (try clear n0); (try clear n1); (try clear n2); (try clear n3); (try clear n4); (try clear n5); (try clear p0); (try clear p1); (try clear p2); (try clear p3); (try clear p4); (try clear p5); have HE := HN; clear HN; obtain ⟨e0, e1⟩ := et_cells (HE.out.blk (wy.heap.size, et 30 Ao le.length co sc) (by simp)).1; obtain ⟨k0, k1, k2, k3, k4, k5⟩ := KM.out _ HE.out.below; (try (have zz := mt_cells (HE.out.blk (wn.heap.size, mt 26 x1 x2 x3 x4 x5 x6) (by simp)).1; obtain ⟨n0, n1, n2, n3, n4, n5⟩ := zz)); (try (have zz := mt_cells (HE.out.blk (wq.heap.size, mt 33 q1 q2 q3 q4 q5 q6) (by simp)).1; obtain ⟨p0, p1, p2, p3, p4, p5⟩ := zz)))
      | (go_at_call 14; (with_reducible refine Calls.mono (C14b.out _) ?_); rintro e wd ⟨rfl, hb⟩; have HN := Aside0.mk (HE.out.step hb); clear HE hb; (try clear e0); (try clear e1); (try clear k0); (try clear k1); (try clear k2); (try clear k3); (try clear k4); (try clear k5); (try clear n0); (try clear n1); (try clear n2); (try clear n3); (try clear n4); (try clear n5); (try clear p0); (try clear p1); (try clear p2); (try clear p3); (try clear p4); (try clear p5); have HE := HN; clear HN; obtain ⟨e0, e1⟩ := et_cells (HE.out.blk (wy.heap.size, et 30 Ao le.length co sc) (by simp)).1; obtain ⟨k0, k1, k2, k3, k4, k5⟩ := KM.out _ HE.out.below; (try (have zz := mt_cells (HE.out.blk (wn.heap.size, mt 26 x1 x2 x3 x4 x5 x6) (by simp)).1; obtain ⟨n0, n1, n2, n3, n4, n5⟩ := zz)); (try (have zz := mt_cells (HE.out.blk (wq.heap.size, mt 33 q1 q2 q3 q4 q5 q6) (by simp)).1; obtain ⟨p0, p1, p2, p3, p4, p5⟩ := zz)))
      | (go_at_call 20; (with_reducible refine Calls.mono (C20.out _) ?_); rintro e wq ⟨rfl, hb⟩; have HN := Aside0.mk ((HE.out.step hb).new (mt 33 q1 q2 q3 q4 q5 q6)); clear HE hb; (try clear e0); (try clear e1); (try clear k0); (try clear k1); (try clear k2); (try clear k3); (try clear k4); (try clear k5); (try clear n0); (try clear n1); (try clear n2); (try clear n3); (try clear n4); (try clear n5); (try clear p0); (try clear p1); (try clear p2); (try clear p3); (try clear p4); (try clear p5); have HE := HN; clear HN; obtain ⟨e0, e1⟩ := et_cells (HE.out.blk (wy.heap.size, et 30 Ao le.length co sc) (by simp)).1; obtain ⟨k0, k1, k2, k3, k4, k5⟩ := KM.out _ HE.out.below; (try (have zz := mt_cells (HE.out.blk (wn.heap.size, mt 26 x1 x2 x3 x4 x5 x6) (by simp)).1; obtain ⟨n0, n1, n2, n3, n4, n5⟩ := zz)); (try (have zz := mt_cells (HE.out.blk (wq.heap.size, mt 33 q1 q2 q3 q4 q5 q6) (by simp)).1; obtain ⟨p0, p1, p2, p3, p4, p5⟩ := zz)))
      | (go_at_call 22; (with_reducible refine Calls.mono (C22.out _) ?_); rintro e wd ⟨rfl, hb⟩; have HN := Aside0.mk (HE.out.step hb); clear HE hb; (try clear e0); (try clear e1); (try clear k0); (try clear k1); (try clear k2); (try clear k3); (try clear k4); (try clear k5); (try clear n0); (try clear n1); (try clear n2); (try clear n3); (try clear n4); (try clear n5); (try clear p0); (try clear p1); (try clear p2); (try clear p3); (try clear p4); (try clear p5); have HE := HN; clear HN; obtain ⟨e0, e1⟩ := et_cells (HE.out.blk (wy.heap.size, et 30 Ao le.length co sc) (by simp)).1; obtain ⟨k0, k1, k2, k3, k4, k5⟩ := KM.out _ HE.out.below; (try (have zz := mt_cells (HE.out.blk (wn.heap.size, mt 26 x1 x2 x3 x4 x5 x6) (by simp)).1; obtain ⟨n0, n1, n2, n3, n4, n5⟩ := zz)); (try (have zz := mt_cells (HE.out.blk (wq.heap.size, mt 33 q1 q2 q3 q4 q5 q6) (by simp)).1; obtain ⟨p0, p1, p2, p3, p4, p5⟩ := zz)))
      | (go_at_call 21; (with_reducible refine Calls.mono (C21.out _) ?_); rintro e wd ⟨rfl, hb⟩; have HN := Aside0.mk (HE.out.step hb); clear HE hb; (try clear e0); (try clear e1); (try clear k0); (try clear k1); (try clear k2); (try clear k3); (try clear k4); (try clear k5); (try clear n0); (try clear n1); (try clear n2); (try clear n3); (try clear n4); (try clear n5); (try clear p0); (try clear p1); (try clear p2); (try clear p3); (try clear p4); (try clear p5); have HE := HN; clear HN; obtain ⟨e0, e1⟩ := et_cells (HE.out.blk (wy.heap.size, et 30 Ao le.length co sc) (by simp)).1; obtain ⟨k0, k1, k2, k3, k4, k5⟩ := KM.out _ HE.out.below; (try (have zz := mt_cells (HE.out.blk (wn.heap.size, mt 26 x1 x2 x3 x4 x5 x6) (by simp)).1; obtain ⟨n0, n1, n2, n3, n4, n5⟩ := zz)); (try (have zz := mt_cells (HE.out.blk (wq.heap.size, mt 33 q1 q2 q3 q4 q5 q6) (by simp)).1; obtain ⟨p0, p1, p2, p3, p4, p5⟩ := zz)))
      | (go_at_call 21; (with_reducible refine Calls.mono (C21b.out _) ?_); rintro e wd ⟨rfl, hb⟩; have HN := Aside0.mk (HE.out.step hb); clear HE hb; (try clear e0); (try clear e1); (try clear k0); (try clear k1); (try clear k2); (try clear k3); (try clear k4); (try clear k5); (try clear n0); (try clear n1); (try clear n2); (try clear n3); (try clear n4); (try clear n5); (try clear p0); (try clear p1); (try clear p2); (try clear p3); (try clear p4); (try clear p5); have HE := HN; clear HN; obtain ⟨e0, e1⟩ := et_cells (HE.out.blk (wy.heap.size, et 30 Ao le.length co sc) (by simp)).1; obtain ⟨k0, k1, k2, k3, k4, k5⟩ := KM.out _ HE.out.below; (try (have zz := mt_cells (HE.out.blk (wn.heap.size, mt 26 x1 x2 x3 x4 x5 x6) (by simp)).1; obtain ⟨n0, n1, n2, n3, n4, n5⟩ := zz)); (try (have zz := mt_cells (HE.out.blk (wq.heap.size, mt 33 q1 q2 q3 q4 q5 q6) (by simp)).1; obtain ⟨p0, p1, p2, p3, p4, p5⟩ := zz)))
      | (go_at_call 23; (with_reducible refine Calls.mono (C23.out _) ?_); rintro e wd ⟨rfl, hb⟩; have HN := Aside0.mk (HE.out.step hb); clear HE hb; (try clear e0); (try clear e1); (try clear k0); (try clear k1); (try clear k2); (try clear k3); (try clear k4); (try clear k5); (try clear n0); (try clear n1); (try clear n2); (try clear n3); (try clear n4); (try clear n5); (try clear p0); (try clear p1); (try clear p2); (try clear p3); (try clear p4); (try clear p5); have HE := HN; clear HN; obtain ⟨e0, e1⟩ := et_cells (HE.out.blk (wy.heap.size, et 30 Ao le.length co sc) (by simp)).1; obtain ⟨k0, k1, k2, k3, k4, k5⟩ := KM.out _ HE.out.below; (try (have zz := mt_cells (HE.out.blk (wn.heap.size, mt 26 x1 x2 x3 x4 x5 x6) (by simp)).1; obtain ⟨n0, n1, n2, n3, n4, n5⟩ := zz)); (try (have zz := mt_cells (HE.out.blk (wq.heap.size, mt 33 q1 q2 q3 q4 q5 q6) (by simp)).1; obtain ⟨p0, p1, p2, p3, p4, p5⟩ := zz)))
      | (go_at_call 23; (with_reducible refine Calls.mono (C23b.out _) ?_); rintro e wd ⟨rfl, hb⟩; have HN := Aside0.mk (HE.out.step hb); clear HE hb; (try clear e0); (try clear e1); (try clear k0); (try clear k1); (try clear k2); (try clear k3); (try clear k4); (try clear k5); (try clear n0); (try clear n1); (try clear n2); (try clear n3); (try clear n4); (try clear n5); (try clear p0); (try clear p1); (try clear p2); (try clear p3); (try clear p4); (try clear p5); have HE := HN; clear HN; obtain ⟨e0, e1⟩ := et_cells (HE.out.blk (wy.heap.size, et 30 Ao le.length co sc) (by simp)).1; obtain ⟨k0, k1, k2, k3, k4, k5⟩ := KM.out _ HE.out.below; (try (have zz := mt_cells (HE.out.blk (wn.heap.size, mt 26 x1 x2 x3 x4 x5 x6) (by simp)).1; obtain ⟨n0, n1, n2, n3, n4, n5⟩ := zz)); (try (have zz := mt_cells (HE.out.blk (wq.heap.size, mt 33 q1 q2 q3 q4 q5 q6) (by simp)).1; obtain ⟨p0, p1, p2, p3, p4, p5⟩ := zz))))
    go_ret
    exact ⟨rfl, below_step HM.out.below HE.out.below⟩
end Go.Proofs.YtjpcdkhapeejjaaGreatDoor.A
end
section
namespace Go.Proofs.YtjpcdkhapeejjaaGreatDoor.A
open Go.RowKit Go.Proofs.YtjpcdkhapeejjaaGreatDoorW.PrintWords Go.Proofs.YtjpcdkhapeejjaaGreatDoorW.PrintLast Go.Proofs.YtjpcdkhapeejjaaGreatDoorW.PrintMore
open Cal in
def impl_Due.f (a0 : ByteArray) (a1_0 : Int) (a1_1 : Int) (a1_2 : Int) (a1_3 : Int) (a1_4 : Int) (a1_5 : Int) : Option (Bool × Bool) :=
  (gronx_Segments.f KK a0).bind fun sg => if sg.2 = none ∧ sg.1.length = 6 ∧ MomIn a1_0 a1_1 a1_2 a1_3 a1_4 a1_5 then (sdue KK sg.1 (mkS a1_0 a1_1 a1_2 a1_3 a1_4 a1_5) sg.1.length).bind fun b => some (b, true) else none
open Cal in
theorem impl_Due.calls (a0 : ByteArray) (a1_0 : Int) (a1_1 : Int) (a1_2 : Int) (a1_3 : Int) (a1_4 : Int) (a1_5 : Int) (r1 : Bool) (r2 : Bool) (w : World) (h : impl_Due.f a0 a1_0 a1_1 a1_2 a1_3 a1_4 a1_5 = some (r1, r2)) :
    Calls Tryz.prog 21 #[.string a0, .agg #[.int .i64 a1_0, .int .i64 a1_1, .int .i64 a1_2, .int .i64 a1_3, .int .i64 a1_4, .int .i64 a1_5]] w fun e w' => e = .returned (.tuple #[.bool r1, .bool r2]) ∧ Below w.heap.size w w' := by
  unfold impl_Due.f at h
  replace h := Option.bind_eq_some_iff.mp h
  obtain ⟨⟨segs, er⟩, hs, h⟩ := h
  by_cases c : er = none ∧ segs.length = 6 ∧ MomIn a1_0 a1_1 a1_2 a1_3 a1_4 a1_5
  case neg => rw [if_neg c] at h; cases h
  rw [if_pos c] at h
  obtain ⟨rfl, hl, hM⟩ := c
  replace h := Option.bind_eq_some_iff.mp h
  obtain ⟨b, hb, h⟩ := h
  cases h
  exact implDue_any KK a0 segs a1_0 a1_1 a1_2 a1_3 a1_4 a1_5 r1 w hM hs hl hb
end Go.Proofs.YtjpcdkhapeejjaaGreatDoor.A
end
section
namespace Go.Proofs.YtjpcdkhapeejjaaGreatDoor.A
open Go.RowKit Cal Go.Proofs.YtjpcdkhapeejjaaGreatDoorW.PrintWords Go.Proofs.YtjpcdkhapeejjaaGreatDoorW.PrintLast Go.Proofs.YtjpcdkhapeejjaaGreatDoorW.PrintMore
/-- A moment as the reference takes it. -/
structure GoodM (y m d h mi se : Int) : Prop where
  y0 : 1990 ≤ y
  y1 : y ≤ 2090
  m0 : 1 ≤ m
  m1 : m ≤ 12
  d0 : 1 ≤ d
  d1 : d ≤ dim y m
  h0 : 0 ≤ h
  h1 : h ≤ 23
  mi0 : 0 ≤ mi
  mi1 : mi ≤ 59
  s0 : 0 ≤ se
  s1 : se ≤ 59
theorem mgood_f (y m d h mi se : Int) : ∃ b, spec_MomentGood.f y m d h mi se = some b ∧ (b = true → GoodM y m d h mi se) := by
  unfold spec_MomentGood.f
  by_cases c1 : 1990 ≤ y
  case neg => rw [if_neg c1]; exact ⟨false, rfl, fun q => by cases q⟩
  by_cases c2 : y ≤ 2090
  case neg => rw [if_pos c1, if_neg c2]; exact ⟨false, rfl, fun q => by cases q⟩
  by_cases c3 : 1 ≤ m
  case neg => rw [if_pos c1, if_pos c2, if_neg c3]; exact ⟨false, rfl, fun q => by cases q⟩
  by_cases c4 : m ≤ 12
  case neg => rw [if_pos c1, if_pos c2, if_pos c3, if_neg c4]; exact ⟨false, rfl, fun q => by cases q⟩
  by_cases c5 : 1 ≤ d
  case neg => rw [if_pos c1, if_pos c2, if_pos c3, if_pos c4, if_neg c5]; exact ⟨false, rfl, fun q => by cases q⟩
  rw [if_pos c1, if_pos c2, if_pos c3, if_pos c4, if_pos c5, days_f2 y m (by omega) c3 c4, Option.bind_some]
  by_cases c6 : d ≤ dim y m
  case neg => rw [if_neg c6]; exact ⟨false, rfl, fun q => by cases q⟩
  by_cases c7 : 0 ≤ h
  case neg => rw [if_pos c6, if_neg c7]; exact ⟨false, rfl, fun q => by cases q⟩
  by_cases c8 : h ≤ 23
  case neg => rw [if_pos c6, if_pos c7, if_neg c8]; exact ⟨false, rfl, fun q => by cases q⟩
  by_cases c9 : 0 ≤ mi
  case neg => rw [if_pos c6, if_pos c7, if_pos c8, if_neg c9]; exact ⟨false, rfl, fun q => by cases q⟩
  by_cases c10 : mi ≤ 59
  case neg => rw [if_pos c6, if_pos c7, if_pos c8, if_pos c9, if_neg c10]; exact ⟨false, rfl, fun q => by cases q⟩
  by_cases c11 : 0 ≤ se
  case neg => rw [if_pos c6, if_pos c7, if_pos c8, if_pos c9, if_pos c10, if_neg c11]; exact ⟨false, rfl, fun q => by cases q⟩
  by_cases c12 : se ≤ 59
  case neg => rw [if_pos c6, if_pos c7, if_pos c8, if_pos c9, if_pos c10, if_pos c11, if_neg c12]; exact ⟨false, rfl, fun q => by cases q⟩
  rw [if_pos c6, if_pos c7, if_pos c8, if_pos c9, if_pos c10, if_pos c11, if_pos c12]
  exact ⟨true, rfl, fun _ => ⟨c1, c2, c3, c4, c5, c6, c7, c8, c9, c10, c11, c12⟩⟩
/-- The seconds of such a moment, and the way back. -/
theorem GoodM.at_ {y m d h mi se : Int} (H : GoodM y m d h mi se) : ∃ s, mkS y m d h mi se = s ∧ yearS s = y ∧ monS s = m ∧ dayS s = d ∧ hourS s = h ∧ minS s = mi ∧ secS s = se ∧ lo0 + 34905600 ≤ s ∧ s + 250000000 ≤ hi0 ∧ MomIn y m d h mi se := by
  obtain ⟨y0, y1, m0, m1, d0, d1, h0, h1, mi0, mi1, s0, s1⟩ := H
  have hd := dim_bd y m m0 m1
  have f := mk_fields y m d h mi se (by omega) (by omega) ⟨m0, m1, d0, d1⟩ h0 h1 mi0 mi1 s0 s1
  have yf := ord_first y (by omega)
  have ym := year_mon y m m0 m1
  have od := ord_day1 y m d
  refine ⟨_, rfl, f.1, f.2.1, f.2.2.1, f.2.2.2.1, f.2.2.2.2.1, f.2.2.2.2.2, ?_, ?_, ⟨by omega, by omega, m0, m1, by omega, by omega, h0, h1, mi0, mi1, s0, s1⟩⟩
  · unfold lo0 mkS; omega
  · unfold hi0 mkS; omega
theorem kk_bd : 190000 ≤ KK := by unfold KK; decide
section
variable {f0 f1 f2 f3 f4 f5 : List S54}
/-- The program's next moment, of a text with n + 1 spaces between parts. -/
theorem inext_f (h : GoodE f0 f1 f2 f3 f4 f5) (sec : Bool) (hs : sec = false → f0 = noSec) (n : Nat) (hn : n ≤ 10) (incl : Bool) (y m d hh mi se s t : Int) (hM : MomIn y m d hh mi se) (hms : mkS y m d hh mi se = s) (hI : InR s) (ht : InR t) (hk : tickOf KK false incl (segsOf f0 f1 f2 f3 f4 f5) s = some t) :
    impl_Next.f (strOfNums (joinW n (partsOf sec f0 f1 f2 f3 f4 f5))) y m d hh mi se incl = some (six t) := by
  have kk := kk_bd
  unfold impl_Next.f
  rw [seg_good h sec hs n hn KK (by omega), Option.bind_some, hms, if_pos ⟨rfl, rfl, hM, hI⟩, hk, Option.bind_some, if_pos ht]
  rfl
theorem idue_f (h : GoodE f0 f1 f2 f3 f4 f5) (sec : Bool) (hs : sec = false → f0 = noSec) (n : Nat) (hn : n ≤ 10) (y m d hh mi se s : Int) (hM : MomIn y m d hh mi se) (hms : mkS y m d hh mi se = s) (hI : InR s) :
    impl_Due.f (strOfNums (joinW n (partsOf sec f0 f1 f2 f3 f4 f5))) y m d hh mi se = some (fitB f0 f1 f2 f3 f4 f5 s, true) := by
  have kk := kk_bd
  unfold impl_Due.f
  rw [seg_good h sec hs n hn KK (by omega), Option.bind_some, hms, if_pos ⟨rfl, rfl, hM⟩, show (segsOf f0 f1 f2 f3 f4 f5).length = 6 from rfl, sdue_E h (by omega) s hI]
  rfl
end
theorem cv_small {l : List (List S53)} (h : small l) : ∀ x ∈ cvE l, x.length ≤ 2147483647 := fun x hx => by
  unfold cvE at hx
  obtain ⟨y, hy, rfl⟩ := List.mem_map.1 hx
  rw [List.length_map]
  exact h.2 y hy
/-- What is asked: always an answer; and what a yes says. -/
theorem asked_f (fs : List (List S54)) (sec : Bool) (hs : ∀ l ∈ fs, l.length ≤ 2147483647) (y m d h mi se : Int) : ∃ b, EvK (fun k => laws_asked.f k fs sec y m d h mi se) b ∧ (b = true → (∃ f0 f1 f2 f3 f4 f5, fs = fsOf f0 f1 f2 f3 f4 f5 ∧ GoodE f0 f1 f2 f3 f4 f5 ∧ (sec = false → f0 = noSec)) ∧ GoodM y m d h mi se) := by
  obtain ⟨b, e1, q1⟩ := ex_good fs sec hs
  obtain ⟨c, e2, q2⟩ := mgood_f y m d h mi se
  cases b with
  | false => exact ⟨false, EvK.bind (h := fun k (t146 : Bool) => if t146 = true then _ else some false) e1 ⟨0, fun k _ => rfl⟩, fun q => by cases q⟩
  | true =>
    refine ⟨c, EvK.bind (h := fun k (t146 : Bool) => if t146 = true then _ else some false) e1 ⟨0, fun k _ => ?_⟩, fun q => ⟨q1 rfl, q2 q⟩⟩
    show (if true = true then _ else _) = _
    rw [if_pos rfl]
    unfold laws_moment.f
    rw [Option.bind_some, e2]
    rfl
end Go.Proofs.YtjpcdkhapeejjaaGreatDoor.A
end
section
namespace Go.Proofs.YtjpcdkhapeejjaaGreatDoor.A
open Go.RowKit Go.Proofs.YtjpcdkhapeejjaaGreatDoorW.PrintWords Go.Proofs.YtjpcdkhapeejjaaGreatDoorW.PrintLast Go.Proofs.YtjpcdkhapeejjaaGreatDoorW.PrintMore
def laws_back.f (a0_0 : Int) (a0_1 : Int) (a0_2 : Int) (a0_3 : Int) (a0_4 : Int) (a0_5 : Int) : Option (Int × Int × Int × Int × Int × Int) := some (a0_0, a0_1, a0_2, a0_3, a0_4, a0_5)
set_option maxHeartbeats 8000000 in
set_option maxRecDepth 100000 in
theorem laws_back.calls (a0_0 : Int) (a0_1 : Int) (a0_2 : Int) (a0_3 : Int) (a0_4 : Int) (a0_5 : Int) (r1 : Int) (r2 : Int) (r3 : Int) (r4 : Int) (r5 : Int) (r6 : Int) (w : World) (h : laws_back.f a0_0 a0_1 a0_2 a0_3 a0_4 a0_5 = some (r1, r2, r3, r4, r5, r6)) :
    Calls Tryz.prog 22 #[.agg #[.int .i64 a0_0, .int .i64 a0_1, .int .i64 a0_2, .int .i64 a0_3, .int .i64 a0_4, .int .i64 a0_5]] w fun e w' => e = .returned (.agg #[.int .i64 r1, .int .i64 r2, .int .i64 r3, .int .i64 r4, .int .i64 r5, .int .i64 r6]) ∧ Below w.heap.size w w' := by
 have hu33 := Tryz.underlying33
 have hu26 := Tryz.underlying26
 have HB := Aside0.mk (Below.refl w.heap.size w)
 have H : (some (a0_0, a0_1, a0_2, a0_3, a0_4, a0_5)) = some (r1, r2, r3, r4, r5, r6) := h
 clear h
 simp only [Option.some.injEq, Prod.mk.injEq] at H
 obtain ⟨rfl, rfl, rfl, rfl, rfl, rfl⟩ := H
 go_enter Tryz.func22, Tryz.ntmps22
 go_wp2_with (first | ((with_reducible refine gate_dst (N := 1) rfl ?_); refine box_event ?hg (N := 1) ?hd (cs := #[.int .i64 a0_0, .int .i64 a0_1, .int .i64 a0_2, .int .i64 a0_3, .int .i64 a0_4, .int .i64 a0_5]) (t := 33) ?hr ?_; (case hd => rfl); (case hg => rfl); (case hr => first | (go_simp; done) | (go_simp; rfl)); intro gb372 hg w2 hbox hb; have n0_ := Aside0.mk (below_step (by repeat (with_reducible first | exact HB.out | apply below_alloc | apply pw_below_drewN | apply below_drew1)) hb); have n1_ := Aside0.mk (hbox); have n2_ := Aside0.mk ((by rw [hg]; exact (below_size (by repeat (with_reducible first | exact HB.out | apply below_alloc | apply pw_below_drewN | apply below_drew1))) : w.heap.size ≤ gb372)); have n3_ := Aside0.mk ((by rw [hg]; exact (below_size (by repeat (with_reducible first | exact HB.out | apply below_alloc | apply pw_below_drewN | apply below_drew1))) : w.heap.size ≤ gb372)); clear HB; have HB := n0_; have BK372 := n1_; have GW372 := n2_; have GE372 := n3_; clear n0_ n1_ n2_ n3_; clear hb hbox hg) | ((with_reducible refine gate_dst (N := 2) rfl ?_); refine box_event ?hg (N := 2) ?hd (cs := #[.int .i64 0, .int .i64 0, .int .i64 0, .int .i64 0, .int .i64 0, .int .i64 0]) (t := 26) ?hr ?_; (case hd => rfl); (case hg => rfl); (case hr => first | (go_simp; done) | (go_simp; rfl)); intro gb373 hg w3 hbox hb; have n0_ := Aside0.mk (blk_below (g := gb372) (o := .cells #[.int .i64 a0_0, .int .i64 a0_1, .int .i64 a0_2, .int .i64 a0_3, .int .i64 a0_4, .int .i64 a0_5] 33 (0, 0)) (by (with_reducible repeat (first | refine blk_drewN ?_ _ | refine blk_drew ?_ | refine blk_alloc ?_ _)); exact BK372.out) hb); have n1_ := Aside0.mk (below_step (by repeat (with_reducible first | exact HB.out | apply below_alloc | apply pw_below_drewN | apply below_drew1 | refine below_set ?_ GE372.out)) hb); have n2_ := Aside0.mk (hbox); have n3_ := Aside0.mk ((by rw [hg]; exact (below_size (by repeat (with_reducible first | exact HB.out | apply below_alloc | apply pw_below_drewN | apply below_drew1 | refine below_set ?_ GE372.out))) : w.heap.size ≤ gb373)); have n4_ := Aside0.mk ((by rw [hg]; exact (below_size (by repeat (with_reducible first | exact HB.out | apply below_alloc | apply pw_below_drewN | apply below_drew1 | refine below_set ?_ GE372.out))) : w.heap.size ≤ gb373)); have n5_ := Aside0.mk ((by rw [hg]; exact Nat.ne_of_lt (blk_lt (g := gb372) (o := .cells #[.int .i64 a0_0, .int .i64 a0_1, .int .i64 a0_2, .int .i64 a0_3, .int .i64 a0_4, .int .i64 a0_5] 33 (0, 0)) (by (with_reducible repeat (first | refine blk_drewN ?_ _ | refine blk_drew ?_ | refine blk_alloc ?_ _)); exact BK372.out)) : gb372 ≠ gb373)); have n6_ := Aside0.mk ((by rw [hg]; exact Nat.ne_of_gt (blk_lt (g := gb372) (o := .cells #[.int .i64 a0_0, .int .i64 a0_1, .int .i64 a0_2, .int .i64 a0_3, .int .i64 a0_4, .int .i64 a0_5] 33 (0, 0)) (by (with_reducible repeat (first | refine blk_drewN ?_ _ | refine blk_drew ?_ | refine blk_alloc ?_ _)); exact BK372.out)) : gb373 ≠ gb372)); clear BK372; clear HB; have BK372 := n0_; have HB := n1_; have BK373 := n2_; have GW373 := n3_; have GE373 := n4_; have NB372_373 := n5_; have NB373_372 := n6_; clear n0_ n1_ n2_ n3_ n4_ n5_ n6_; clear hb hbox hg; have hnb4 := NB372_373.out; have hnc4 := NB373_372.out; have hcz5_0 : w3.cell? ⟨gb372, 0, none⟩ = some (.int .i64 a0_0) := (blk_cell BK372.out 0).trans rfl; have hcz5_1 : w3.cell? ⟨gb372, 1, none⟩ = some (.int .i64 a0_1) := (blk_cell BK372.out 1).trans rfl; have hcz5_2 : w3.cell? ⟨gb372, 2, none⟩ = some (.int .i64 a0_2) := (blk_cell BK372.out 2).trans rfl; have hcz5_3 : w3.cell? ⟨gb372, 3, none⟩ = some (.int .i64 a0_3) := (blk_cell BK372.out 3).trans rfl; have hcz5_4 : w3.cell? ⟨gb372, 4, none⟩ = some (.int .i64 a0_4) := (blk_cell BK372.out 4).trans rfl; have hcz5_5 : w3.cell? ⟨gb372, 5, none⟩ = some (.int .i64 a0_5) := (blk_cell BK372.out 5).trans rfl; have hfz5_0 := blk_frozen BK372.out 0; have hfz5_1 := blk_frozen BK372.out 1; have hfz5_2 := blk_frozen BK372.out 2; have hfz5_3 := blk_frozen BK372.out 3; have hfz5_4 := blk_frozen BK372.out 4; have hfz5_5 := blk_frozen BK372.out 5; have hcz6_0 : w3.cell? ⟨gb373, 0, none⟩ = some (.int .i64 0) := (blk_cell BK373.out 0).trans rfl; have hcz6_1 : w3.cell? ⟨gb373, 1, none⟩ = some (.int .i64 0) := (blk_cell BK373.out 1).trans rfl; have hcz6_2 : w3.cell? ⟨gb373, 2, none⟩ = some (.int .i64 0) := (blk_cell BK373.out 2).trans rfl; have hcz6_3 : w3.cell? ⟨gb373, 3, none⟩ = some (.int .i64 0) := (blk_cell BK373.out 3).trans rfl; have hcz6_4 : w3.cell? ⟨gb373, 4, none⟩ = some (.int .i64 0) := (blk_cell BK373.out 4).trans rfl; have hcz6_5 : w3.cell? ⟨gb373, 5, none⟩ = some (.int .i64 0) := (blk_cell BK373.out 5).trans rfl; have hfz6_0 := blk_frozen BK373.out 0; have hfz6_1 := blk_frozen BK373.out 1; have hfz6_2 := blk_frozen BK373.out 2; have hfz6_3 := blk_frozen BK373.out 3; have hfz6_4 := blk_frozen BK373.out 4; have hfz6_5 := blk_frozen BK373.out 5))
 refine bodyPost_ret (results_cell_row rfl _ _ gb373 26 #[.int .i64 a0_0, .int .i64 a0_1, .int .i64 a0_2, .int .i64 a0_3, .int .i64 a0_4, .int .i64 a0_5] (0, 0) _ rfl (by (with_reducible repeat (first | refine blk_drewN ?_ _ | refine blk_drew ?_ | refine blk_alloc ?_ _)); refine blk_put (cs := #[.int .i64 a0_0, .int .i64 a0_1, .int .i64 a0_2, .int .i64 a0_3, .int .i64 a0_4, .int .i64 0]) ?_ 5 _ rfl; (with_reducible repeat (first | refine blk_drewN ?_ _ | refine blk_drew ?_ | refine blk_alloc ?_ _)); refine blk_put (cs := #[.int .i64 a0_0, .int .i64 a0_1, .int .i64 a0_2, .int .i64 a0_3, .int .i64 0, .int .i64 0]) ?_ 4 _ rfl; (with_reducible repeat (first | refine blk_drewN ?_ _ | refine blk_drew ?_ | refine blk_alloc ?_ _)); refine blk_put (cs := #[.int .i64 a0_0, .int .i64 a0_1, .int .i64 a0_2, .int .i64 0, .int .i64 0, .int .i64 0]) ?_ 3 _ rfl; (with_reducible repeat (first | refine blk_drewN ?_ _ | refine blk_drew ?_ | refine blk_alloc ?_ _)); refine blk_put (cs := #[.int .i64 a0_0, .int .i64 a0_1, .int .i64 0, .int .i64 0, .int .i64 0, .int .i64 0]) ?_ 2 _ rfl; (with_reducible repeat (first | refine blk_drewN ?_ _ | refine blk_drew ?_ | refine blk_alloc ?_ _)); refine blk_put (cs := #[.int .i64 a0_0, .int .i64 0, .int .i64 0, .int .i64 0, .int .i64 0, .int .i64 0]) ?_ 1 _ rfl; (with_reducible repeat (first | refine blk_drewN ?_ _ | refine blk_drew ?_ | refine blk_alloc ?_ _)); refine blk_put (cs := #[.int .i64 0, .int .i64 0, .int .i64 0, .int .i64 0, .int .i64 0, .int .i64 0]) ?_ 0 _ rfl; (with_reducible repeat (first | refine blk_drewN ?_ _ | refine blk_drew ?_ | refine blk_alloc ?_ _)); exact BK373.out) Tryz.underlying26 rfl (by kernel_rfl)) rfl ?_
 exact ⟨by first | rfl | (simp [errW_none, errW_some] <;> rfl) | (simp [*, errW_none, errW_some] <;> rfl), by repeat (with_reducible first | exact HB.out | apply below_alloc | apply pw_below_drewN | apply below_drew1 | refine below_set ?_ GE372.out | refine below_set ?_ GE373.out)⟩
end Go.Proofs.YtjpcdkhapeejjaaGreatDoor.A
end
section
namespace Go.Proofs.YtjpcdkhapeejjaaGreatDoor.A
open Go.RowKit Cal Go.Proofs.YtjpcdkhapeejjaaGreatDoorW.PrintWords Go.Proofs.YtjpcdkhapeejjaaGreatDoorW.PrintLast Go.Proofs.YtjpcdkhapeejjaaGreatDoorW.PrintMore
theorem momin_of {t : Int} (h : InR t) : MomIn (yearS t) (monS t) (dayS t) (hourS t) (minS t) (secS t) := by
  have a := year_bd t h
  have b := mon_bd t
  have c := day_bd t
  refine ⟨a.1, a.2, b.1, b.2, by omega, by omega, ?_, ?_, ?_, ?_, ?_, ?_⟩ <;> first | (unfold hourS; omega) | (unfold minS; omega) | (unfold secS; omega)
theorem at_f (s y m d h mi se r : Int) (hy : yearS s = y) (hm : monS s = m) (hd : dayS s = d) (r0 : 0 ≤ r) (r1 : r ≤ 86399) :
    spec_At.f y m d h mi se r = some (yearS (s / 86400 * 86400 + r), monS (s / 86400 * 86400 + r), dayS (s / 86400 * 86400 + r), hourS (s / 86400 * 86400 + r), minS (s / 86400 * 86400 + r), secS (s / 86400 * 86400 + r)) := by
  have e : (s / 86400 * 86400 + r) / 86400 = s / 86400 := by omega
  have q1 : yearS (s / 86400 * 86400 + r) = y := by rw [← hy]; unfold yearS eS; rw [e]
  have q2 : monS (s / 86400 * 86400 + r) = m := by rw [← hm]; unfold monS eS; rw [e]
  have q3 : dayS (s / 86400 * 86400 + r) = d := by rw [← hd]; unfold dayS eS; rw [e]
  unfold spec_At.f
  rw [q1, q2, q3, tdiv_eq _ _ r0, tdiv_eq _ _ r0, w64' (r / 3600) (by omega) (by omega), w64' (r / 60) (by omega) (by omega), tmod_eq _ _ r0, tmod_eq _ _ (show 0 ≤ r / 60 by omega)]
  rw [show hourS (s / 86400 * 86400 + r) = r / 3600 by unfold hourS; omega, show minS (s / 86400 * 86400 + r) = r / 60 % 60 by unfold minS; omega, show secS (s / 86400 * 86400 + r) = r % 60 by unfold secS; omega]
theorem quiet_all (l : List (List S53)) (a : Bool) (y m d h mi se a2 : Int) (A : Option Addr) (c : Nat) (w : World) (hSt : StdAt w) (hr : Kd.C (Kd.slice 53 k53) w A l.length l) (hc : l.length ≤ c) :
    Calls Tryz.prog 7 #[.agg #[.slice A l.length c, .bool a], .agg #[.int .i64 y, .int .i64 m, .int .i64 d, .int .i64 h, .int .i64 mi, .int .i64 se], .int .i64 a2] w fun e w' => e = .returned (.bool true) ∧ Below w.heap.size w w' := by
  obtain ⟨b, ⟨K1, h1⟩, q1⟩ := fits_f l a
  have C10 := Aside0.mk fun (W : World) (hb : Below w.heap.size w W) => laws_zzFits1.calls K1 A c l a b W (Kd.C_below hr hb) hc (h1 K1 (Nat.le_refl _))
  cases b with
  | false => exact quiet_a A c l a y m d h mi se a2 w C10
  | true =>
  have hs := q1 rfl
  obtain ⟨q, ⟨K3, h3⟩, q3⟩ := asked_f (cvE l) a (cv_small hs) y m d h mi se
  obtain ⟨K2, h2⟩ := expr_f l hs a
  have C11 := Aside0.mk fun (W : World) (hb : Below w.heap.size w W) => laws_expr.calls K2 A c l a (cvE l) a W (Kd.C_below hr hb) hc (h2 K2 (Nat.le_refl _))
  have C12 := Aside0.mk fun (W : World) (Ao : Option Addr) (co : Nat) (hC : Kd.C (Kd.slice 54 k54) W Ao (cvE l).length (cvE l)) (hc' : (cvE l).length ≤ co) => laws_asked.calls K3 Ao co (cvE l) a y m d h mi se q W hC hc' (h3 K3 (Nat.le_refl _))
  cases q with
  | false => exact quiet_b A c l a y m d h mi se a2 w (cvE l) a false C10 C11 C12 (.inl rfl)
  | true =>
  by_cases d0 : a2 < 0
  · exact quiet_b A c l a y m d h mi se a2 w (cvE l) a true C10 C11 C12 (.inr (.inl (decide_eq_true d0)))
  by_cases d1 : 86399 < a2
  · exact quiet_b A c l a y m d h mi se a2 w (cvE l) a true C10 C11 C12 (.inr (.inr ⟨decide_eq_false d0, decide_eq_true d1⟩))
  obtain ⟨⟨f0, f1, f2, f3, f4, f5, hfs, hE, hns⟩, hG⟩ := q3 rfl
  obtain ⟨s, hms, e1, e2, e3, e4, e5, e6, hlo, hhi, hM⟩ := hG.at_
  have kk := kk_bd
  obtain ⟨t, ht0, ht1, hN, hsp, htk⟩ := next_both hE a false s (by omega) (by omega) KK kk
  rw [if_neg (by decide)] at hN
  have hst := hN.1
  have hI : InR s := inr_of (by omega) (by omega)
  have hIt : InR t := inr_of (by omega) (by omega)
  have hI2 : InR (s / 86400 * 86400 + a2) := inr_of (by omega) (by omega)
  have hin := inext_f hE a hns 0 (by decide) false y m d h mi se s t hM hms hI hIt htk
  have hd1 := idue_f hE a hns 0 (by decide) _ _ _ _ _ _ _ (momin_of hI2) (mk_rt _) hI2
  have hd2 := idue_f hE a hns 0 (by decide) _ _ _ _ _ _ _ (momin_of hIt) (mk_rt _) hIt
  rw [hN.2.1] at hd2
  have htx := text_f hE a KK (by omega)
  rw [← hfs] at htx
  have hat := at_f s y m d h mi se a2 e1 e2 e3 (by omega) (by omega)
  have hs1 : spec_Seconds.f y m d h mi se = some (s % 86400) := by rw [← e4, ← e5, ← e6]; exact secs_f s y m d
  exact quiet_c A c l a y m d h mi se a2 w (cvE l) a (fitB f0 f1 f2 f3 f4 f5 (s / 86400 * 86400 + a2)) _ _ _ _ _ _ _ _ _ _ _ _ _ (s % 86400) (t % 86400) C10 C11 C12 (decide_eq_false d0) (decide_eq_false d1)
    ⟨fun W Ao co hC hc' => spec_Text.calls KK Ao co (cvE l) a _ W hC hc' htx⟩
    ⟨fun W hw => impl_Next.calls _ y m d h mi se false _ _ _ _ _ _ true W hin (.inl (hSt.below hw))⟩
    ⟨fun W => laws_moment.calls y m d h mi se y m d h mi se W rfl⟩ ⟨fun W => laws_moment.calls _ _ _ _ _ _ _ _ _ _ _ _ W rfl⟩
    ⟨fun W => spec_At.calls y m d h mi se a2 _ _ _ _ _ _ W hat⟩ ⟨fun W => laws_back.calls _ _ _ _ _ _ _ _ _ _ _ _ W rfl⟩
    ⟨fun W => impl_Due.calls _ _ _ _ _ _ _ _ true W hd1⟩ ⟨fun W => impl_Due.calls _ _ _ _ _ _ _ true true W hd2⟩
    ⟨fun W => spec_Seconds.calls y m d h mi se _ W hs1⟩ ⟨fun W => spec_Seconds.calls _ _ _ _ _ _ _ W (secs_f t _ _ _)⟩
    (fun c0 cn => by
      cases ef : fitB f0 f1 f2 f3 f4 f5 (s / 86400 * 86400 + a2) with
      | false => rfl
      | true =>
        exfalso
        by_cases c1 : s / 86400 * 86400 + a2 < t
        · exact hN.2.2 _ (by omega) c1 ef
        · have e : t / 86400 = s / 86400 := by omega
          exact cn ⟨by rw [← e1]; unfold yearS eS; rw [e], by rw [← e2]; unfold monS eS; rw [e], by rw [← e3]; unfold dayS eS; rw [e]⟩)
    (fun c0 y1 y2 y3 cn => by
      cases ef : fitB f0 f1 f2 f3 f4 f5 (s / 86400 * 86400 + a2) with
      | false => rfl
      | true =>
        exfalso
        have u1 := mk_date s 0 0 0
        have u2 := mk_date t 0 0 0
        rw [e1, e2, e3] at u1
        rw [y1, y2, y3] at u2
        exact hN.2.2 _ (by omega) (by omega) ef)
end Go.Proofs.YtjpcdkhapeejjaaGreatDoor.A
end
section
namespace Go.Proofs.YtjpcdkhapeejjaaGreatDoor.A
open Go.ChangeShapes Go.WideShapes Go.RowKit Go.Proofs.YtjpcdkhapeejjaaGreatDoorW.PrintWords Go.Proofs.YtjpcdkhapeejjaaGreatDoorW.PrintLast Go.Proofs.YtjpcdkhapeejjaaGreatDoorW.PrintMore
set_option maxRecDepth 100000
section
variable {H : Type} {enc : TypeId × Value → H} {w : World} {base : Nat} {spare : Nat → Bool} {held : Bool}
/-- A slice, opened as a row of the kind of its elements. -/
theorem row_open {α : Type} (d : Kd α) {t e : TypeId} {fuel : Nat} {cs : List Value} {x : DataW H × List MemPlace} (ht : Tryz.prog.underlying t = some (.slice e)) (hC : Tryz.prog.cellsOf e = d.sz)
    (hel : ∀ (n : Nat) (c : List Value) (y : DataW H × List MemPlace), DataW.trod enc Tryz.prog w base spare held n e c = some y → ∃ z, d.K w z c) (h : DataW.trod enc Tryz.prog w base spare held fuel t cs = some x) :
    ∃ A len cap xs, cs = [.slice A len cap] ∧ len ≤ cap ∧ xs.length = len ∧ d.C w A len xs := by
  rcases Go.Deep.open_slice ht h with ⟨rfl, _⟩ | ⟨a, len, cap, m, n, D, Pl, rfl, _, hl, hm, hmm, _, hx⟩
  · exact ⟨none, 0, 0, [], rfl, Nat.le_refl _, rfl, rfl, by omega, fun h0 => absurd h0 (by omega)⟩
  · have hml : maxLen ≤ 9223372036854775807 := by unfold maxLen; decide
    have hlm : len ≤ m := by rw [hmm]; split <;> omega
    have hi : ∀ i, i < len → ∃ (p : α × List Value), d.K w p.1 p.2 ∧ ∀ j u, p.2[j]? = some u → w.cell? (a.add (i * d.sz + j)) = some u := fun i hi => by
      obtain ⟨c, h1, h2⟩ := hx i (by omega)
      obtain ⟨z, hz⟩ := hel n c _ h2
      refine ⟨(z, c), hz, fun j u hu => ?_⟩
      obtain ⟨_, hlen, hat⟩ := World.cells?_some h1
      rw [hC] at h1 hlen hat
      have hj : j < d.sz := by rw [← hlen]; exact (List.getElem?_eq_some_iff.1 hu).1
      have := hat j hj
      rw [Go.Deep.add_add] at this
      rw [this]; exact hu
    refine ⟨some a, len, cap, List.ofFn fun i : Fin len => (Classical.choose (hi i.1 i.2)).1, rfl, hl, List.length_ofFn, List.length_ofFn, by omega, fun _ => ⟨a, rfl, fun j p hp => ?_⟩⟩
    rw [List.getElem?_ofFn] at hp
    split at hp
    · rename_i hj
      cases hp
      have hs := Classical.choose_spec (hi j hj)
      exact ⟨_, d.K_len hs.1, hs.1, hs.2⟩
    · cases hp
/-- A piece. -/
theorem item_open (n : Nat) (c : List Value) (y : DataW H × List MemPlace) (h : DataW.trod enc Tryz.prog w base spare held n 53 c = some y) : ∃ z, k53.K w z c := by
  obtain ⟨y0, y1, y2, y3, m, _, hl, h0, h1, h2, h3⟩ := Go.Joins.trod_struct4 Tryz.underlying53 h
  have c4 : Tryz.prog.cellsOf 4 = 1 := by kernel_rfl
  have c3 : Tryz.prog.cellsOf 3 = 1 := by kernel_rfl
  have c53 : Tryz.prog.cellsOf 53 = 4 := by kernel_rfl
  have hl4 : c.length = 4 := hl.trans c53
  clear hl
  match c, hl4 with
  | [a0, a1, a2, a3], _ =>
    obtain ⟨b, e0, _⟩ := DataW.trod_bool Tryz.underlying4 h0
    obtain ⟨n1, e1, _, _⟩ := DataW.trod_int Tryz.underlying3 h1
    obtain ⟨n2, e2, _, _⟩ := DataW.trod_int Tryz.underlying3 h2
    obtain ⟨n3, e3, _, _⟩ := DataW.trod_int Tryz.underlying3 h3
    simp only [c4, c3, List.drop_zero, List.drop_succ_cons, List.take_succ_cons, List.take_zero, List.cons.injEq, and_true] at e0 e1 e2 e3
    subst e0 e1 e2 e3
    exact ⟨⟨b, n1, n2, n3⟩, k53_mk w ⟨b, n1, n2, n3⟩⟩
/-- A list of pieces. -/
theorem list_open (n : Nat) (c : List Value) (y : DataW H × List MemPlace) (h : DataW.trod enc Tryz.prog w base spare held n 50 c = some y) : ∃ z, (Kd.slice 53 k53).K w z c := by
  obtain ⟨A, len, cap, xs, rfl, hl, hx, hC⟩ := row_open k53 (t := 50) (e := 53) Tryz.underlying50 (by kernel_rfl) item_open h
  exact ⟨xs, A, cap, by rw [hx], by omega, by rw [hx]; exact hC⟩
/-- An expression. -/
theorem expr_open {r : Reach} {b0 : Nat} {v : Value} {d : DataW H} {p : List MemPlace} (hv : Value.okWide Tryz.prog w r b0 24 v) (h : DataW.Trod enc Tryz.prog w base spare held 24 v d p) :
    ∃ A cap xs b, v = .agg #[.slice A xs.length cap, .bool b] ∧ xs.length ≤ cap ∧ Kd.C (Kd.slice 53 k53) w A xs.length xs := by
  have c24 : Tryz.prog.cellsOf 24 = 2 := by kernel_rfl
  have c22 : Tryz.prog.cellsOf 22 = 1 := by kernel_rfl
  have c4 : Tryz.prog.cellsOf 4 = 1 := by kernel_rfl
  obtain ⟨cs, rfl, hsz⟩ := okWide_struct Tryz.underlying24 hv
  obtain ⟨l⟩ := cs
  have hs2 : l.length = 2 := hsz.trans c24
  clear hsz
  match l, hs2 with
  | [a0, a1], _ =>
    obtain ⟨fuel, hf⟩ := h
    obtain ⟨y0, y1, n, _, _, h0, h1⟩ := trod_struct2 Tryz.underlying24 hf
    simp only [Value.cells, c22, c4, List.drop_zero, List.drop_succ_cons, List.take_succ_cons, List.take_zero] at h0 h1
    obtain ⟨A, len, cap, xs, e0, hl, hx, hC⟩ := row_open (Kd.slice 53 k53) (t := 22) (e := 50) Tryz.underlying22 (by kernel_rfl) list_open h0
    obtain ⟨b, e1, _⟩ := DataW.trod_bool Tryz.underlying4 h1
    simp only [List.cons.injEq, and_true] at e0 e1
    subst e0 e1
    subst hx
    exact ⟨A, cap, xs, b, rfl, hl, hC⟩
/-- A moment. -/
theorem mom_open {r : Reach} {b0 : Nat} {v : Value} {d : DataW H} {p : List MemPlace} (hv : Value.okWide Tryz.prog w r b0 26 v) (h : DataW.Trod enc Tryz.prog w base spare held 26 v d p) :
    ∃ y m dd hh mi se, v = .agg #[.int .i64 y, .int .i64 m, .int .i64 dd, .int .i64 hh, .int .i64 mi, .int .i64 se] := by
  have c26 : Tryz.prog.cellsOf 26 = 6 := by kernel_rfl
  have c3 : Tryz.prog.cellsOf 3 = 1 := by kernel_rfl
  obtain ⟨cs, rfl, hsz⟩ := okWide_struct Tryz.underlying26 hv
  obtain ⟨l⟩ := cs
  have hs6 : l.length = 6 := hsz.trans c26
  clear hsz
  match l, hs6 with
  | [a0, a1, a2, a3, a4, a5], _ =>
    obtain ⟨fuel, hf⟩ := h
    obtain ⟨xs, n, _, _, _, hlen, hg⟩ := DataW.trod_struct Tryz.underlying26 hf
    match xs, hlen with
    | [y0, y1, y2, y3, y4, y5], _ =>
      have g0 : DataW.trod enc Tryz.prog w base spare held n 3 [a0] = some y0 := by simpa [Value.cells, c3] using hg 0 _ rfl
      have g1 : DataW.trod enc Tryz.prog w base spare held n 3 [a1] = some y1 := by simpa [Value.cells, c3] using hg 1 _ rfl
      have g2 : DataW.trod enc Tryz.prog w base spare held n 3 [a2] = some y2 := by simpa [Value.cells, c3] using hg 2 _ rfl
      have g3 : DataW.trod enc Tryz.prog w base spare held n 3 [a3] = some y3 := by simpa [Value.cells, c3] using hg 3 _ rfl
      have g4 : DataW.trod enc Tryz.prog w base spare held n 3 [a4] = some y4 := by simpa [Value.cells, c3] using hg 4 _ rfl
      have g5 : DataW.trod enc Tryz.prog w base spare held n 3 [a5] = some y5 := by simpa [Value.cells, c3] using hg 5 _ rfl
      obtain ⟨n0, e0, _, _⟩ := DataW.trod_int Tryz.underlying3 g0
      obtain ⟨n1, e1, _, _⟩ := DataW.trod_int Tryz.underlying3 g1
      obtain ⟨n2, e2, _, _⟩ := DataW.trod_int Tryz.underlying3 g2
      obtain ⟨n3, e3, _, _⟩ := DataW.trod_int Tryz.underlying3 g3
      obtain ⟨n4, e4, _, _⟩ := DataW.trod_int Tryz.underlying3 g4
      obtain ⟨n5, e5, _, _⟩ := DataW.trod_int Tryz.underlying3 g5
      simp only [List.cons.injEq, and_true] at e0 e1 e2 e3 e4 e5
      subst e0 e1 e2 e3 e4 e5
      exact ⟨n0, n1, n2, n3, n4, n5, rfl⟩
end
end Go.Proofs.YtjpcdkhapeejjaaGreatDoor.A
end
