/- The law FnRow (function 9): each way through it, where the callees keep their contracts. Conditions: those that each theorem names. -/
import Derived.Test.YtjpcdkhapeejjaaGreatDoorX0
namespace Go.Proofs.YtjpcdkhapeejjaaGreatDoor.A
open Go.RowKit Cal Go.Proofs.YtjpcdkhapeejjaaGreatDoorW.PrintWords Go.Proofs.YtjpcdkhapeejjaaGreatDoorW.PrintLast Go.Proofs.YtjpcdkhapeejjaaGreatDoorW.PrintMore
set_option linter.unusedVariables false
set_option linter.unusedSimpArgs false
set_option maxRecDepth 100000
attribute [local go_sem high] eqB26
set_option maxHeartbeats 8000000 in
theorem row_a (A0_0 : Option Addr) (c0_0 : Nat) (l0_0 : List (List S53)) (a0_1 : Bool) (a1_0 a1_1 a1_2 a1_3 a1_4 a1_5 a2 : Int) (w : World) (C10 : Aside0 (∀ W, Below w.heap.size w W → Calls Tryz.prog 10 #[.agg #[.slice A0_0 l0_0.length c0_0, .bool a0_1]] W fun e w' => e = .returned (.bool false) ∧ Below W.heap.size W w')) :
    Calls Tryz.prog 9 #[.agg #[.slice A0_0 l0_0.length c0_0, .bool a0_1], .agg #[.int .i64 a1_0, .int .i64 a1_1, .int .i64 a1_2, .int .i64 a1_3, .int .i64 a1_4, .int .i64 a1_5], .int .i64 a2] w fun e w' => e = .returned (.bool true) ∧ Below w.heap.size w w' := by
  have hu24 := Tryz.underlying24
  have hu26 := Tryz.underlying26
  have hu30 := Tryz.underlying30
  have hu33 := Tryz.underlying33
  have HM := Aside0.mk (((Mem.start w).new (et 24 A0_0 l0_0.length c0_0 a0_1)).new (mt 26 a1_0 a1_1 a1_2 a1_3 a1_4 a1_5))
  rw [World.size_alloc] at HM
  go_enter Tryz.func9, Tryz.ntmps9
  go_wp2_with (first | (go_at_call 10; (with_reducible refine Calls.mono (C10.out _ HM.out.below) ?_); rintro e wz ⟨rfl, hb⟩; have HB := (HM.out.step hb).below))
  go_ret
  exact ⟨rfl, HB⟩
set_option maxHeartbeats 8000000 in
theorem row_b (A0_0 : Option Addr) (c0_0 : Nat) (l0_0 : List (List S53)) (a0_1 : Bool) (a1_0 a1_1 a1_2 a1_3 a1_4 a1_5 a2 : Int) (w : World) (le : List (List S54)) (sc q : Bool) (C10 : Aside0 (∀ W, Below w.heap.size w W → Calls Tryz.prog 10 #[.agg #[.slice A0_0 l0_0.length c0_0, .bool a0_1]] W fun e w' => e = .returned (.bool true) ∧ Below W.heap.size W w')) (C11 : Aside0 (∀ W, Below w.heap.size w W → Calls Tryz.prog 11 #[.agg #[.slice A0_0 l0_0.length c0_0, .bool a0_1]] W fun e w' => ∃ v0_ : Value, e = .returned (.agg #[v0_, .bool sc]) ∧ Kd.S (Kd.slice 54 k54) 51 w' W.heap.size (fun _ => True) v0_ le ∧ Below W.heap.size W w')) (C12 : Aside0 (∀ W Ao co, Kd.C (Kd.slice 54 k54) W Ao le.length le → le.length ≤ co → Calls Tryz.prog 12 #[.agg #[.slice Ao le.length co, .bool sc], .agg #[.int .i64 a1_0, .int .i64 a1_1, .int .i64 a1_2, .int .i64 a1_3, .int .i64 a1_4, .int .i64 a1_5]] W fun e w' => e = .returned (.bool q) ∧ Below W.heap.size W w')) (hq : q = false ∨ decide (a2 < 1) = true ∨ (decide (a2 < 1) = false ∧ decide (5 < a2) = true)) :
    Calls Tryz.prog 9 #[.agg #[.slice A0_0 l0_0.length c0_0, .bool a0_1], .agg #[.int .i64 a1_0, .int .i64 a1_1, .int .i64 a1_2, .int .i64 a1_3, .int .i64 a1_4, .int .i64 a1_5], .int .i64 a2] w fun e w' => e = .returned (.bool true) ∧ Below w.heap.size w w' := by
  have hu24 := Tryz.underlying24
  have hu26 := Tryz.underlying26
  have hu30 := Tryz.underlying30
  have hu33 := Tryz.underlying33
  have HM := Aside0.mk (((Mem.start w).new (et 24 A0_0 l0_0.length c0_0 a0_1)).new (mt 26 a1_0 a1_1 a1_2 a1_3 a1_4 a1_5))
  rw [World.size_alloc] at HM
  have go_on : ∀ q' : Bool, q = q' → (q' = false ∨ decide (a2 < 1) = true ∨ (decide (a2 < 1) = false ∧ decide (5 < a2) = true)) := fun q' e => e ▸ hq
  clear hq
  cases q with
  | false =>
    clear go_on
    go_enter Tryz.func9, Tryz.ntmps9
    go_wp2_with (first
      | (go_at_call 10; (with_reducible refine Calls.mono (C10.out _ HM.out.below) ?_); rintro e wz ⟨rfl, hb⟩; have HN := Aside0.mk (HM.out.step hb); clear HM hb; have HM := HN; clear HN; have r0 := (et_cells (HM.out.at_ 1 rfl)).1; have r1 := (et_cells (HM.out.at_ 1 rfl)).2; obtain ⟨k0, k1, k2, k3, k4, k5⟩ := mt_cells (HM.out.at_ 0 rfl))
      | (go_at_call 11; (with_reducible refine Calls.mono (C11.out _ HM.out.below) ?_); rintro e wy ⟨v0, rfl, hS, hb⟩; obtain ⟨Ao, co, rfl⟩ := Kd.S_slice hS; have hC := Aside0.mk (Kd.S_reads' hS).2.2; have hc := Aside0.mk (Kd.S_reads' hS).2.1; have HN := Aside0.mk (HM.out.step hb); clear HM hb hS r0 r1 k0 k1 k2 k3 k4 k5; have HM := HN; clear HN; have KM := Aside0.mk fun (W : World) (hb : Below wy.heap.size wy W) => mt_cells (g := w.heap.size + 1) (t := 26) ((hb.block _ (HM.out.lt 0 rfl)).trans (HM.out.at_ 0 rfl)); obtain ⟨k0, k1, k2, k3, k4, k5⟩ := mt_cells (HM.out.at_ 0 rfl); have klt := HM.out.lt 0 rfl; have HE := Aside0.mk ((Mem.start wy).new (et 30 Ao le.length co sc)))
      | (go_at_call 12; (with_reducible refine Calls.mono (C12.out _ Ao co (Kd.C_below hC.out HE.out.below) hc.out) ?_); rintro e wd ⟨rfl, hb⟩; have HN := Aside0.mk (HE.out.step hb); clear HE hb; (try clear e0); (try clear e1); (try clear k0); (try clear k1); (try clear k2); (try clear k3); (try clear k4); (try clear k5); (try clear n0); (try clear n1); (try clear n2); (try clear n3); (try clear n4); (try clear n5); (try clear p0); (try clear p1); (try clear p2); (try clear p3); (try clear p4); (try clear p5); have HE := HN; clear HN; obtain ⟨e0, e1⟩ := et_cells (HE.out.blk (wy.heap.size, et 30 Ao le.length co sc) (by simp)).1; obtain ⟨k0, k1, k2, k3, k4, k5⟩ := KM.out _ HE.out.below))
    go_ret
    exact ⟨rfl, below_step HM.out.below HE.out.below⟩
  | true =>
    rcases go_on true rfl with h | d0 | ⟨d0, d1⟩
    · cases h
    all_goals
      go_enter Tryz.func9, Tryz.ntmps9
      go_wp2_with (first
      | (go_at_call 10; (with_reducible refine Calls.mono (C10.out _ HM.out.below) ?_); rintro e wz ⟨rfl, hb⟩; have HN := Aside0.mk (HM.out.step hb); clear HM hb; have HM := HN; clear HN; have r0 := (et_cells (HM.out.at_ 1 rfl)).1; have r1 := (et_cells (HM.out.at_ 1 rfl)).2; obtain ⟨k0, k1, k2, k3, k4, k5⟩ := mt_cells (HM.out.at_ 0 rfl))
      | (go_at_call 11; (with_reducible refine Calls.mono (C11.out _ HM.out.below) ?_); rintro e wy ⟨v0, rfl, hS, hb⟩; obtain ⟨Ao, co, rfl⟩ := Kd.S_slice hS; have hC := Aside0.mk (Kd.S_reads' hS).2.2; have hc := Aside0.mk (Kd.S_reads' hS).2.1; have HN := Aside0.mk (HM.out.step hb); clear HM hb hS r0 r1 k0 k1 k2 k3 k4 k5; have HM := HN; clear HN; have KM := Aside0.mk fun (W : World) (hb : Below wy.heap.size wy W) => mt_cells (g := w.heap.size + 1) (t := 26) ((hb.block _ (HM.out.lt 0 rfl)).trans (HM.out.at_ 0 rfl)); obtain ⟨k0, k1, k2, k3, k4, k5⟩ := mt_cells (HM.out.at_ 0 rfl); have klt := HM.out.lt 0 rfl; have HE := Aside0.mk ((Mem.start wy).new (et 30 Ao le.length co sc)))
      | (go_at_call 12; (with_reducible refine Calls.mono (C12.out _ Ao co (Kd.C_below hC.out HE.out.below) hc.out) ?_); rintro e wd ⟨rfl, hb⟩; have HN := Aside0.mk (HE.out.step hb); clear HE hb; (try clear e0); (try clear e1); (try clear k0); (try clear k1); (try clear k2); (try clear k3); (try clear k4); (try clear k5); (try clear n0); (try clear n1); (try clear n2); (try clear n3); (try clear n4); (try clear n5); (try clear p0); (try clear p1); (try clear p2); (try clear p3); (try clear p4); (try clear p5); have HE := HN; clear HN; obtain ⟨e0, e1⟩ := et_cells (HE.out.blk (wy.heap.size, et 30 Ao le.length co sc) (by simp)).1; obtain ⟨k0, k1, k2, k3, k4, k5⟩ := KM.out _ HE.out.below))
      go_ret
      exact ⟨rfl, below_step HM.out.below HE.out.below⟩
set_option maxHeartbeats 8000000 in
theorem row_c (A0_0 : Option Addr) (c0_0 : Nat) (l0_0 : List (List S53)) (a0_1 : Bool) (a1_0 a1_1 a1_2 a1_3 a1_4 a1_5 a2 : Int) (w : World) (le : List (List S54)) (sc : Bool) (tx : ByteArray) (Y M D HH MI SE : Nat → Int) (C10 : Aside0 (∀ W, Below w.heap.size w W → Calls Tryz.prog 10 #[.agg #[.slice A0_0 l0_0.length c0_0, .bool a0_1]] W fun e w' => e = .returned (.bool true) ∧ Below W.heap.size W w')) (C11 : Aside0 (∀ W, Below w.heap.size w W → Calls Tryz.prog 11 #[.agg #[.slice A0_0 l0_0.length c0_0, .bool a0_1]] W fun e w' => ∃ v0_ : Value, e = .returned (.agg #[v0_, .bool sc]) ∧ Kd.S (Kd.slice 54 k54) 51 w' W.heap.size (fun _ => True) v0_ le ∧ Below W.heap.size W w')) (C12 : Aside0 (∀ W Ao co, Kd.C (Kd.slice 54 k54) W Ao le.length le → le.length ≤ co → Calls Tryz.prog 12 #[.agg #[.slice Ao le.length co, .bool sc], .agg #[.int .i64 a1_0, .int .i64 a1_1, .int .i64 a1_2, .int .i64 a1_3, .int .i64 a1_4, .int .i64 a1_5]] W fun e w' => e = .returned (.bool true) ∧ Below W.heap.size W w')) (d0 : decide (a2 < 1) = false) (d1 : decide (5 < a2) = false)
    (C16 : Aside0 (∀ W Ao co, Kd.C (Kd.slice 54 k54) W Ao le.length le → le.length ≤ co → Calls Tryz.prog 16 #[.agg #[.slice Ao le.length co, .bool sc]] W fun e w' => e = .returned (.string tx) ∧ Below W.heap.size W w'))
    (C15t : Aside0 (∀ W, Below w.heap.size w W → Calls Tryz.prog 15 #[.string tx, .agg #[.int .i64 a1_0, .int .i64 a1_1, .int .i64 a1_2, .int .i64 a1_3, .int .i64 a1_4, .int .i64 a1_5], .bool true] W fun e w' => e = .returned (.tuple #[.agg #[.int .i64 (Y (0)), .int .i64 (M (0)), .int .i64 (D (0)), .int .i64 (HH (0)), .int .i64 (MI (0)), .int .i64 (SE (0))], .bool true]) ∧ Below W.heap.size W w'))
    (C14 : Aside0 (∀ W, Calls Tryz.prog 14 #[.agg #[.int .i64 a1_0, .int .i64 a1_1, .int .i64 a1_2, .int .i64 a1_3, .int .i64 a1_4, .int .i64 a1_5]] W fun e w' => e = .returned (.agg #[.int .i64 a1_0, .int .i64 a1_1, .int .i64 a1_2, .int .i64 a1_3, .int .i64 a1_4, .int .i64 a1_5]) ∧ Below W.heap.size W w'))
    (C13t : Aside0 (∀ W Ao co, Kd.C (Kd.slice 54 k54) W Ao le.length le → le.length ≤ co → Calls Tryz.prog 13 #[.agg #[.slice Ao le.length co, .bool sc], .agg #[.int .i64 a1_0, .int .i64 a1_1, .int .i64 a1_2, .int .i64 a1_3, .int .i64 a1_4, .int .i64 a1_5], .bool true] W fun e w' => e = .returned (.tuple #[.agg #[.int .i64 (Y (0)), .int .i64 (M (0)), .int .i64 (D (0)), .int .i64 (HH (0)), .int .i64 (MI (0)), .int .i64 (SE (0))], .bool true]) ∧ Below W.heap.size W w'))
    (C15 : Aside0 (∀ i : Nat, i < 5 → ∀ W, Below w.heap.size w W → Calls Tryz.prog 15 #[.string tx, .agg #[.int .i64 (Y (i)), .int .i64 (M (i)), .int .i64 (D (i)), .int .i64 (HH (i)), .int .i64 (MI (i)), .int .i64 (SE (i))], .bool false] W fun e w' => e = .returned (.tuple #[.agg #[.int .i64 (Y (i + 1)), .int .i64 (M (i + 1)), .int .i64 (D (i + 1)), .int .i64 (HH (i + 1)), .int .i64 (MI (i + 1)), .int .i64 (SE (i + 1))], .bool true]) ∧ Below W.heap.size W w'))
    (C13 : Aside0 (∀ i : Nat, i < 5 → ∀ W Ao co, Kd.C (Kd.slice 54 k54) W Ao le.length le → le.length ≤ co → Calls Tryz.prog 13 #[.agg #[.slice Ao le.length co, .bool sc], .agg #[.int .i64 (Y (i)), .int .i64 (M (i)), .int .i64 (D (i)), .int .i64 (HH (i)), .int .i64 (MI (i)), .int .i64 (SE (i))], .bool false] W fun e w' => e = .returned (.tuple #[.agg #[.int .i64 (Y (i + 1)), .int .i64 (M (i + 1)), .int .i64 (D (i + 1)), .int .i64 (HH (i + 1)), .int .i64 (MI (i + 1)), .int .i64 (SE (i + 1))], .bool true]) ∧ Below W.heap.size W w'))
    (C19 : Aside0 (∀ i : Nat, i < 5 → ∀ W, Below w.heap.size w W → Calls Tryz.prog 19 #[.string tx, .agg #[.int .i64 (Y (i + 1)), .int .i64 (M (i + 1)), .int .i64 (D (i + 1)), .int .i64 (HH (i + 1)), .int .i64 (MI (i + 1)), .int .i64 (SE (i + 1))], .bool false] W fun e w' => e = .returned (.tuple #[.agg #[.int .i64 (Y (i)), .int .i64 (M (i)), .int .i64 (D (i)), .int .i64 (HH (i)), .int .i64 (MI (i)), .int .i64 (SE (i))], .bool true]) ∧ Below W.heap.size W w'))
    (C17 : Aside0 (∀ i : Nat, ∀ W, Calls Tryz.prog 17 #[.agg #[.int .i64 (Y (i)), .int .i64 (M (i)), .int .i64 (D (i)), .int .i64 (HH (i)), .int .i64 (MI (i)), .int .i64 (SE (i))], .bool true, .agg #[.int .i64 (Y (i)), .int .i64 (M (i)), .int .i64 (D (i)), .int .i64 (HH (i)), .int .i64 (MI (i)), .int .i64 (SE (i))], .bool true] W fun e w' => e = .returned (.bool true) ∧ Below W.heap.size W w')) :
    Calls Tryz.prog 9 #[.agg #[.slice A0_0 l0_0.length c0_0, .bool a0_1], .agg #[.int .i64 a1_0, .int .i64 a1_1, .int .i64 a1_2, .int .i64 a1_3, .int .i64 a1_4, .int .i64 a1_5], .int .i64 a2] w fun e w' => e = .returned (.bool true) ∧ Below w.heap.size w w' := by
  have hu24 := Tryz.underlying24
  have hu26 := Tryz.underlying26
  have hu30 := Tryz.underlying30
  have hu33 := Tryz.underlying33
  have HM := Aside0.mk (((Mem.start w).new (et 24 A0_0 l0_0.length c0_0 a0_1)).new (mt 26 a1_0 a1_1 a1_2 a1_3 a1_4 a1_5))
  rw [World.size_alloc] at HM
  go_enter Tryz.func9, Tryz.ntmps9
  go_upto_region 7 with (first
      | (go_at_call 10; (with_reducible refine Calls.mono (C10.out _ HM.out.below) ?_); rintro e wz ⟨rfl, hb⟩; have HN := Aside0.mk (HM.out.step hb); clear HM hb; have HM := HN; clear HN; have r0 := (et_cells (HM.out.at_ 1 rfl)).1; have r1 := (et_cells (HM.out.at_ 1 rfl)).2; obtain ⟨k0, k1, k2, k3, k4, k5⟩ := mt_cells (HM.out.at_ 0 rfl))
      | (go_at_call 11; (with_reducible refine Calls.mono (C11.out _ HM.out.below) ?_); rintro e wy ⟨v0, rfl, hS, hb⟩; obtain ⟨Ao, co, rfl⟩ := Kd.S_slice hS; have hC := Aside0.mk (Kd.S_reads' hS).2.2; have hc := Aside0.mk (Kd.S_reads' hS).2.1; have HN := Aside0.mk (HM.out.step hb); clear HM hb hS r0 r1 k0 k1 k2 k3 k4 k5; have HM := HN; clear HN; have KM := Aside0.mk fun (W : World) (hb : Below wy.heap.size wy W) => mt_cells (g := w.heap.size + 1) (t := 26) ((hb.block _ (HM.out.lt 0 rfl)).trans (HM.out.at_ 0 rfl)); obtain ⟨k0, k1, k2, k3, k4, k5⟩ := mt_cells (HM.out.at_ 0 rfl); have klt := HM.out.lt 0 rfl; have HE := Aside0.mk ((Mem.start wy).new (et 30 Ao le.length co sc)))
      | (go_at_call 12; (with_reducible refine Calls.mono (C12.out _ Ao co (Kd.C_below hC.out HE.out.below) hc.out) ?_); rintro e wd ⟨rfl, hb⟩; have HN := Aside0.mk (HE.out.step hb); clear HE hb; (try clear e0); (try clear e1); (try clear k0); (try clear k1); (try clear k2); (try clear k3); (try clear k4); (try clear k5); (try clear n0); (try clear n1); (try clear n2); (try clear n3); (try clear n4); (try clear n5); (try clear p0); (try clear p1); (try clear p2); (try clear p3); (try clear p4); (try clear p5); have HE := HN; clear HN; obtain ⟨e0, e1⟩ := et_cells (HE.out.blk (wy.heap.size, et 30 Ao le.length co sc) (by simp)).1; obtain ⟨k0, k1, k2, k3, k4, k5⟩ := KM.out _ HE.out.below)
      | (go_at_call 16; (with_reducible refine Calls.mono (C16.out _ Ao co (Kd.C_below hC.out HE.out.below) hc.out) ?_); rintro e wd ⟨rfl, hb⟩; have HN := Aside0.mk (HE.out.step hb); clear HE hb; (try clear e0); (try clear e1); (try clear k0); (try clear k1); (try clear k2); (try clear k3); (try clear k4); (try clear k5); (try clear n0); (try clear n1); (try clear n2); (try clear n3); (try clear n4); (try clear n5); (try clear p0); (try clear p1); (try clear p2); (try clear p3); (try clear p4); (try clear p5); have HE := HN; clear HN; obtain ⟨e0, e1⟩ := et_cells (HE.out.blk (wy.heap.size, et 30 Ao le.length co sc) (by simp)).1; obtain ⟨k0, k1, k2, k3, k4, k5⟩ := KM.out _ HE.out.below))
  have BW := Aside0.mk fun (W : World) (hb : Below wy.heap.size wy W) => below_step HM.out.below hb
  have CL := Aside0.mk fun (W : World) (hb : Below wy.heap.size wy W) => Kd.C_below hC.out hb
  have hcC := hc.out
  have KS := Aside0.mk fun (W : World) (L : List (Nat × Obj)) (i : Nat) (hm : Mem wy L W) (hi : L[i]? = some (wy.heap.size, et 30 Ao le.length co sc)) => (⟨(et_cells (hm.at_ i hi)).1, (et_cells (hm.at_ i hi)).2, KM.out W hm.below⟩ : W.cell? ⟨wy.heap.size, 0, none⟩ = some (.slice Ao le.length co) ∧ W.cell? ⟨wy.heap.size, 1, none⟩ = some (.bool sc) ∧ W.cell? ⟨w.heap.size + 1, 0, none⟩ = some (.int .i64 a1_0) ∧ W.cell? ⟨w.heap.size + 1, 1, none⟩ = some (.int .i64 a1_1) ∧ W.cell? ⟨w.heap.size + 1, 2, none⟩ = some (.int .i64 a1_2) ∧ W.cell? ⟨w.heap.size + 1, 3, none⟩ = some (.int .i64 a1_3) ∧ W.cell? ⟨w.heap.size + 1, 4, none⟩ = some (.int .i64 a1_4) ∧ W.cell? ⟨w.heap.size + 1, 5, none⟩ = some (.int .i64 a1_5))
  have KS1 := Aside0.mk fun (W : World) (q : Nat × Obj) (hm : Mem wy [q, (wy.heap.size, et 30 Ao le.length co sc)] W) => KS.out W _ 1 hm rfl
  have KS2 := Aside0.mk fun (W : World) (q r : Nat × Obj) (hm : Mem wy [q, r, (wy.heap.size, et 30 Ao le.length co sc)] W) => KS.out W _ 2 hm rfl
  go_cut [9, 10] (fun s9 s10 wc => ∃ g, s9 = .pointer (some ⟨g, 0, none⟩) ∧ s10 = .bool true ∧ Aside0 (Mem wy [(g, mt 26 (Y (0)) (M (0)) (D (0)) (HH (0)) (MI (0)) (SE (0))), (wy.heap.size, et 30 Ao le.length co sc)] wc))
  case first =>
    go_wp2_with (first
      | (go_at_call 15; (with_reducible refine Calls.mono (C15t.out _ (below_step HM.out.below HE.out.below)) ?_); rintro e wn ⟨rfl, hb⟩; have HN := Aside0.mk ((HE.out.step hb).new (mt 26 (Y (0)) (M (0)) (D (0)) (HH (0)) (MI (0)) (SE (0)))); clear HE hb; (try clear e0); (try clear e1); (try clear k0); (try clear k1); (try clear k2); (try clear k3); (try clear k4); (try clear k5); (try clear n0); (try clear n1); (try clear n2); (try clear n3); (try clear n4); (try clear n5); (try clear p0); (try clear p1); (try clear p2); (try clear p3); (try clear p4); (try clear p5); have HE := HN; clear HN; obtain ⟨e0, e1⟩ := et_cells (HE.out.blk (wy.heap.size, et 30 Ao le.length co sc) (by simp)).1; obtain ⟨k0, k1, k2, k3, k4, k5⟩ := KM.out _ HE.out.below))
    go_meet
    exact ⟨_, rfl, rfl, HE⟩
  case rest =>
  clear HM HE e0 e1 k0 k1 k2 k3 k4 k5
  obtain ⟨g9, rfl, rfl, HE⟩ := hcut
  go_upto_region 8 with fail
  go_cut [11, 12] (fun s11 s12 wc => ∃ g, s11 = .pointer (some ⟨g, 0, none⟩) ∧ s12 = .bool true ∧ Aside0 (Mem wy [(g, mt 33 (Y (0)) (M (0)) (D (0)) (HH (0)) (MI (0)) (SE (0))), (g9, mt 26 (Y (0)) (M (0)) (D (0)) (HH (0)) (MI (0)) (SE (0))), (wy.heap.size, et 30 Ao le.length co sc)] wc))
  case first =>
    go_region_held3 (fun w' => w'.cell? ⟨wy.heap.size, 0, none⟩ = some (.slice Ao le.length co) ∧ w'.cell? ⟨wy.heap.size, 1, none⟩ = some (.bool sc) ∧ w'.cell? ⟨w.heap.size + 1, 0, none⟩ = some (.int .i64 a1_0) ∧ w'.cell? ⟨w.heap.size + 1, 1, none⟩ = some (.int .i64 a1_1) ∧ w'.cell? ⟨w.heap.size + 1, 2, none⟩ = some (.int .i64 a1_2) ∧ w'.cell? ⟨w.heap.size + 1, 3, none⟩ = some (.int .i64 a1_3) ∧ w'.cell? ⟨w.heap.size + 1, 4, none⟩ = some (.int .i64 a1_4) ∧ w'.cell? ⟨w.heap.size + 1, 5, none⟩ = some (.int .i64 a1_5))
      (first | ((with_reducible show World.cell? (World.setCell _ _ _) _ = _ ∧ _); with_reducible exact KS2.out _ _ _ (Mem.put6 HE.out _ _ _ _ _ _)) | with_reducible exact KS1.out _ _ HE.out.drew | with_reducible exact KS1.out _ _ HE.out | with_reducible exact KS2.out _ _ _ HE.out | with_reducible exact KS2.out _ _ _ (HE.out.new _) | with_reducible exact KS2.out _ _ _ (HE.out.newD _))
      (first
        | (go_at_call 14; (with_reducible refine Calls.mono (C14.out _) ?_); rintro e wd ⟨rfl, hb⟩; (first | have HN := Aside0.mk (HE.out.step hb) | have HN := Aside0.mk (HE.out.drew.step hb) | have HN := Aside0.mk ((HE.out.drewN _).step hb) | have HN := Aside0.mk ((HE.out.new _).step hb) | have HN := Aside0.mk ((HE.out.newD _).step hb)); clear HE hb; have HE := HN; clear HN; (try obtain ⟨f0, f1, f2, f3, f4, f5⟩ := mt_frozen (HE.out.at_ 0 rfl)); (try have flt := HE.out.lt 0 rfl); (try dsimp only at f0 f1 f2 f3 f4 f5 flt); (try obtain ⟨z0, z1, z2, z3, z4, z5⟩ := mt_cells (HE.out.at_ 0 rfl)); (try dsimp only at z0 z1 z2 z3 z4 z5))
        | (go_at_call 13; (first | with_reducible refine Calls.mono (C13t.out _ Ao co (CL.out _ HE.out.below) hcC) ?_ | with_reducible refine Calls.mono (C13t.out _ Ao co (CL.out _ HE.out.drew.below) hcC) ?_ | with_reducible refine Calls.mono (C13t.out _ Ao co (CL.out _ (HE.out.drewN _).below) hcC) ?_ | with_reducible refine Calls.mono (C13t.out _ Ao co (CL.out _ (HE.out.alloc _).below) hcC) ?_ | with_reducible refine Calls.mono (C13t.out _ Ao co (CL.out _ (HE.out.drew.alloc _).below) hcC) ?_ | with_reducible refine Calls.mono (C13t.out _ Ao co (CL.out _ (HE.out.alloc _).drew.below) hcC) ?_); rintro e wd ⟨rfl, hb⟩; (first | have HN := Aside0.mk (HE.out.step hb) | have HN := Aside0.mk (HE.out.drew.step hb) | have HN := Aside0.mk ((HE.out.drewN _).step hb) | have HN := Aside0.mk ((HE.out.new _).step hb) | have HN := Aside0.mk ((HE.out.newD _).step hb)); clear HE hb; have HE := HN; clear HN; (try obtain ⟨f0, f1, f2, f3, f4, f5⟩ := mt_frozen (HE.out.at_ 0 rfl)); (try have flt := HE.out.lt 0 rfl); (try dsimp only at f0 f1 f2 f3 f4 f5 flt); (try obtain ⟨z0, z1, z2, z3, z4, z5⟩ := mt_cells (HE.out.at_ 0 rfl)); (try dsimp only at z0 z1 z2 z3 z4 z5)))
    all_goals (go_wp2_with fail; go_meet; exact ⟨_, rfl, rfl, ⟨by first | with_reducible exact HE.out.new _ | with_reducible exact HE.out.newD _ | with_reducible exact Mem.put6 HE.out _ _ _ _ _ _⟩⟩)
  case rest =>
  obtain ⟨g11, rfl, rfl, HE⟩ := hcut
  clear C15t C13t C10 C11 C12 C16 C14
  have a0 : 1 ≤ a2 := by have := of_decide_eq_false d0; omega
  have a5 : a2 ≤ 5 := by have := of_decide_eq_false d1; omega
  go_wp2
  go_loopg [10, 12, 50] 6 (fun kq v10 v12 v50 w' => ∃ i : Nat, v10 = .bool true ∧ v12 = .bool true ∧ v50 = .int .i64 (i : Int) ∧ Aside0 (i + kq = 6) ∧ Aside0 (Mem wy [(g11, mt 33 (Y (i)) (M (i)) (D (i)) (HH (i)) (MI (i)) (SE (i))), (g9, mt 26 (Y (i)) (M (i)) (D (i)) (HH (i)) (MI (i)) (SE (i))), (wy.heap.size, et 30 Ao le.length co sc)] w'))
  case atStart => exact ⟨0, rfl, rfl, rfl, ⟨rfl⟩, HE⟩
  case round =>
    clear HE
    obtain ⟨i, rfl, rfl, rfl, HK, HE⟩ := hrel
    have C17i := Aside0.mk (C17.out i)
    obtain ⟨k0, k1, k2, k3, k4, k5⟩ := mt_cells (HE.out.at_ 1 rfl)
    obtain ⟨z0, z1, z2, z3, z4, z5⟩ := mt_cells (HE.out.at_ 0 rfl)
    by_cases c : (i : Int) < a2
    case neg =>
      have b := decide_eq_false c
      go_wp2_with (first | (go_at_call 17; (with_reducible refine Calls.mono (C17i.out _) ?_); rintro e wd ⟨rfl, hb⟩; have HB := BW.out _ (HE.out.step hb).below))
      go_ret
      exact ⟨rfl, HB⟩
    have b := decide_eq_true c
    have hi5 : i < 5 := by omega
    rcases gk with _ | gq
    · have := HK.out; omega
    have C15i := Aside0.mk (C15.out i hi5)
    have C13i := Aside0.mk (C13.out i hi5)
    have C19i := Aside0.mk (C19.out i hi5)
    clear C15 C13 C19 C17
    go_upto_region 14 with (first
      | (go_at_call 17; (with_reducible refine Calls.mono (C17i.out _) ?_); rintro e wd ⟨rfl, hb⟩; have HN := Aside0.mk (HE.out.step hb); clear HE hb k0 k1 k2 k3 k4 k5 z0 z1 z2 z3 z4 z5; have HE := HN; clear HN; obtain ⟨k0, k1, k2, k3, k4, k5⟩ := mt_cells (HE.out.at_ 1 rfl); obtain ⟨z0, z1, z2, z3, z4, z5⟩ := mt_cells (HE.out.at_ 0 rfl))
      | (go_at_call 15; (with_reducible refine Calls.mono (C15i.out _ (BW.out _ HE.out.below)) ?_); rintro e wn ⟨rfl, hb⟩; have HN := Aside0.mk ((HE.out.step hb).new (mt 26 (Y (i + 1)) (M (i + 1)) (D (i + 1)) (HH (i + 1)) (MI (i + 1)) (SE (i + 1)))); clear HE hb k0 k1 k2 k3 k4 k5 z0 z1 z2 z3 z4 z5; have HE := HN; clear HN))
    go_cut [12, 13, 14] (fun s12 s13 s14 wc => ∃ g, s12 = .bool true ∧ s13 = .pointer (some ⟨g, 0, none⟩) ∧ s14 = .bool true ∧ Aside0 (Mem wy [(g, mt 26 (Y (i + 1)) (M (i + 1)) (D (i + 1)) (HH (i + 1)) (MI (i + 1)) (SE (i + 1))), (g11, mt 33 (Y (i + 1)) (M (i + 1)) (D (i + 1)) (HH (i + 1)) (MI (i + 1)) (SE (i + 1))), (g9, mt 26 (Y (i)) (M (i)) (D (i)) (HH (i)) (MI (i)) (SE (i))), (wy.heap.size, et 30 Ao le.length co sc)] wc))
    case first =>
      obtain ⟨e0, e1⟩ := et_cells (HE.out.at_ 3 rfl)
      obtain ⟨z0, z1, z2, z3, z4, z5⟩ := mt_cells (HE.out.at_ 1 rfl)
      go_wp2_with (first | (go_at_call 13; (with_reducible refine Calls.mono (C13i.out _ Ao co (CL.out _ HE.out.below) hcC) ?_); rintro e wd ⟨rfl, hb⟩; have HN := Aside0.mk (HE.out.step hb); clear HE hb e0 e1 z0 z1 z2 z3 z4 z5; have HE := HN; clear HN; obtain ⟨z0, z1, z2, z3, z4, z5⟩ := mt_cells (HE.out.at_ 1 rfl); obtain ⟨f0, f1, f2, f3, f4, f5⟩ := mt_frozen (HE.out.at_ 1 rfl)))
      go_meet
      exact ⟨_, rfl, rfl, rfl, ⟨HE.out.set6 1 rfl _ _ _ _ _ _⟩⟩
    case rest =>
    clear HE
    obtain ⟨g13, rfl, rfl, rfl, HE⟩ := hcut
    go_upto_region 15 with fail
    go_cut [15, 16] (fun s15 s16 wc => ∃ g, s15 = .pointer (some ⟨g, 0, none⟩) ∧ s16 = .bool true ∧ Aside0 (Mem wy [(g, mt 26 (Y (i)) (M (i)) (D (i)) (HH (i)) (MI (i)) (SE (i))), (g13, mt 26 (Y (i + 1)) (M (i + 1)) (D (i + 1)) (HH (i + 1)) (MI (i + 1)) (SE (i + 1))), (g11, mt 33 (Y (i + 1)) (M (i + 1)) (D (i + 1)) (HH (i + 1)) (MI (i + 1)) (SE (i + 1))), (g9, mt 26 (Y (i)) (M (i)) (D (i)) (HH (i)) (MI (i)) (SE (i))), (wy.heap.size, et 30 Ao le.length co sc)] wc))
    case first =>
      obtain ⟨z0, z1, z2, z3, z4, z5⟩ := mt_cells (HE.out.at_ 0 rfl)
      go_wp2_with (first | (go_at_call 19; (with_reducible refine Calls.mono (C19i.out _ (BW.out _ HE.out.below)) ?_); rintro e wn ⟨rfl, hb⟩; have HN := Aside0.mk ((HE.out.step hb).new (mt 26 (Y (i)) (M (i)) (D (i)) (HH (i)) (MI (i)) (SE (i)))); clear HE hb z0 z1 z2 z3 z4 z5; have HE := HN; clear HN))
      go_meet
      exact ⟨_, rfl, rfl, HE⟩
    case rest =>
    clear HE C15i C13i C19i
    obtain ⟨g15, rfl, rfl, HE⟩ := hcut
    obtain ⟨k0, k1, k2, k3, k4, k5⟩ := mt_cells (HE.out.at_ 3 rfl)
    obtain ⟨z0, z1, z2, z3, z4, z5⟩ := mt_cells (HE.out.at_ 0 rfl)
    go_upto_region 18 with fail
    clear z0 z1 z2 z3 z4 z5
    obtain ⟨z0, z1, z2, z3, z4, z5⟩ := mt_cells (HE.out.at_ 1 rfl)
    obtain ⟨f0, f1, f2, f3, f4, f5⟩ := mt_frozen (HE.out.at_ 3 rfl)
    have l9 := HE.out.lt 3 rfl
    go_wp2
    go_roundg gq
    case measure => omega
    case rel => exact ⟨i + 1, rfl, rfl, rfl, ⟨by have := HK.out; omega⟩, ⟨(HE.out.set6 3 rfl _ _ _ _ _ _).drop 2⟩⟩
end Go.Proofs.YtjpcdkhapeejjaaGreatDoor.A
