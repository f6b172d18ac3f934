/- Steps of the proof of the law: contracts of functions of the given program, and plain lemmas about what they compute.
Conditions: none beyond those that each theorem names. -/
import Derived.Deep.Slices
import Derived.Lib.SmallJoins
import Derived.OpenShut
import Derived.Test.YtjpcdkhapeejjaaGreatDoorK02
import Derived.Test.YtjpcdkhapeejjaaGreatDoorK30
import Derived.Test.YtjpcdkhapeejjaaGreatDoorK45
import Derived.Test.YtjpcdkhapeejjaaGreatDoorP01
import Derived.Test.YtjpcdkhapeejjaaGreatDoorP02
import Derived.Test.YtjpcdkhapeejjaaGreatDoorP03
import Derived.Test.YtjpcdkhapeejjaaGreatDoorP04
import Derived.Test.YtjpcdkhapeejjaaGreatDoorP05
set_option linter.unusedVariables false
set_option linter.unusedSimpArgs false
section
namespace Go.Proofs.YtjpcdkhapeejjaaGreatDoor.A
open Go.RowKit Go.Proofs.YtjpcdkhapeejjaaGreatDoorW.PrintWords Go.Proofs.YtjpcdkhapeejjaaGreatDoorW.PrintLast Go.Proofs.YtjpcdkhapeejjaaGreatDoorW.PrintMore
def laws_FnPrevIncl.f (k : Nat) (l0_0 : List (List (S53))) (a0_1 : Bool) (a1_0 : Int) (a1_1 : Int) (a1_2 : Int) (a1_3 : Int) (a1_4 : Int) (a1_5 : Int) : Option (Bool) := (laws_zzFits1.f k l0_0 a0_1).bind fun t341 => (if t341 = true then ((laws_expr.f k l0_0 a0_1).bind fun bt342 => ((laws_asked.f k bt342.1 bt342.2 a1_0 a1_1 a1_2 a1_3 a1_4 a1_5).bind fun t347 => (if t347 = true then ((laws_moment.f a1_0 a1_1 a1_2 a1_3 a1_4 a1_5).bind fun bt348 => ((spec_Prev.f k bt342.1 bt342.2 bt348.1 bt348.2.1 bt348.2.2.1 bt348.2.2.2.1 bt348.2.2.2.2.1 bt348.2.2.2.2.2 true).bind fun bt354 => ((spec_Text.f k bt342.1 bt342.2).bind fun t362 => ((impl_Prev.f t362 a1_0 a1_1 a1_2 a1_3 a1_4 a1_5 true).bind fun bt363 => ((laws_same.f bt363.1 bt363.2.1 bt363.2.2.1 bt363.2.2.2.1 bt363.2.2.2.2.1 bt363.2.2.2.2.2.1 bt363.2.2.2.2.2.2 bt354.1 bt354.2.1 bt354.2.2.1 bt354.2.2.2.1 bt354.2.2.2.2.1 bt354.2.2.2.2.2.1 bt354.2.2.2.2.2.2).bind fun t371 => (some t371)))))) else (some true)))) else (some true))
set_option maxHeartbeats 8000000 in
set_option maxRecDepth 100000 in
theorem laws_FnPrevIncl.calls (k : Nat) (A0_0 : Option Addr) (c0_0 : Nat) (l0_0 : List (List (S53))) (a0_1 : Bool) (a1_0 : Int) (a1_1 : Int) (a1_2 : Int) (a1_3 : Int) (a1_4 : Int) (a1_5 : Int) (r : Bool) (w : World) (hr0_0 : Kd.C (Kd.slice 53 k53) w A0_0 l0_0.length l0_0) (hc0_0 : l0_0.length ≤ c0_0) (h : laws_FnPrevIncl.f k l0_0 a0_1 a1_0 a1_1 a1_2 a1_3 a1_4 a1_5 = some r) :
    Calls Tryz.prog 6 #[.agg #[.slice A0_0 l0_0.length c0_0, .bool a0_1], .agg #[.int .i64 a1_0, .int .i64 a1_1, .int .i64 a1_2, .int .i64 a1_3, .int .i64 a1_4, .int .i64 a1_5]] w fun e w' => e = .returned (.bool r) ∧ Below w.heap.size w w' := by
  have hu24 := Tryz.underlying24
  have hu26 := Tryz.underlying26
  have hu30 := Tryz.underlying30
  have hu33 := Tryz.underlying33
  unfold laws_FnPrevIncl.f at h
  replace h := Option.bind_eq_some_iff.mp h
  obtain ⟨t0, A0, h⟩ := h
  have C10 := Aside0.mk fun (W : World) (hb : Below w.heap.size w W) => laws_zzFits1.calls k A0_0 c0_0 l0_0 a0_1 t0 W (Kd.C_below hr0_0 hb) hc0_0 A0
  have HM := Aside0.mk (((Mem.start w).new (et 24 A0_0 l0_0.length c0_0 a0_1)).new (mt 26 a1_0 a1_1 a1_2 a1_3 a1_4 a1_5))
  rw [World.size_alloc] at HM
  clear A0
  cases t0 with
  | false =>
    rw [if_neg (by simp)] at h
    obtain rfl := Option.some.inj h
    clear h
    go_enter Tryz.func6, Tryz.ntmps6
    go_wp2_with (first | (go_at_call 10; (with_reducible refine Calls.mono (C10.out _ HM.out.below) ?_); rintro e wz ⟨rfl, hb⟩; have HB := (HM.out.step hb).below))
    go_ret
    exact ⟨rfl, HB⟩
  | true =>
  rw [if_pos rfl] at h
  replace h := Option.bind_eq_some_iff.mp h
  obtain ⟨⟨le, sc⟩, A1, h⟩ := h
  have C11 := Aside0.mk fun (W : World) (hb : Below w.heap.size w W) => laws_expr.calls k A0_0 c0_0 l0_0 a0_1 le sc W (Kd.C_below hr0_0 hb) hc0_0 A1
  replace h := Option.bind_eq_some_iff.mp h
  obtain ⟨t2, A2, h⟩ := h
  dsimp only at A2 h
  have C12 := Aside0.mk fun (W : World) (Ao : Option Addr) (co : Nat) (hC : Kd.C (Kd.slice 54 k54) W Ao le.length le) (hc : le.length ≤ co) => laws_asked.calls k Ao co le sc a1_0 a1_1 a1_2 a1_3 a1_4 a1_5 t2 W hC hc A2
  clear A1 A2
  cases t2 with
  | false =>
    rw [if_neg (by simp)] at h
    obtain rfl := Option.some.inj h
    clear h hr0_0 hc0_0
    go_enter Tryz.func6, Tryz.ntmps6
    go_wp2_with (first
      | (go_at_call 10; (with_reducible refine Calls.mono (C10.out _ HM.out.below) ?_); rintro e wz ⟨rfl, hb⟩; have HN := Aside0.mk (HM.out.step hb); clear HM hb; have HM := HN; clear HN; have r0 := (et_cells (HM.out.at_ 1 rfl)).1; have r1 := (et_cells (HM.out.at_ 1 rfl)).2; obtain ⟨k0, k1, k2, k3, k4, k5⟩ := mt_cells (HM.out.at_ 0 rfl))
      | (go_at_call 11; (with_reducible refine Calls.mono (C11.out _ HM.out.below) ?_); rintro e wy ⟨v0, rfl, hS, hb⟩; obtain ⟨Ao, co, rfl⟩ := Kd.S_slice hS; have hC := Aside0.mk (Kd.S_reads' hS).2.2; have hc := Aside0.mk (Kd.S_reads' hS).2.1; have HN := Aside0.mk (HM.out.step hb); clear HM hb hS r0 r1 k0 k1 k2 k3 k4 k5; have HM := HN; clear HN; obtain ⟨k0, k1, k2, k3, k4, k5⟩ := mt_cells (HM.out.at_ 0 rfl); have klt := HM.out.lt 0 rfl; have HE := Aside0.mk ((Mem.start wy).new (et 30 Ao le.length co sc)))
      | (go_at_call 12; (with_reducible refine Calls.mono (C12.out _ Ao co (Kd.C_below hC.out HE.out.below) hc.out) ?_); rintro e wx ⟨rfl, hb⟩; have HN := Aside0.mk (HE.out.step hb); clear HE hb k0 k1 k2 k3 k4 k5; have HE := HN; clear HN))
    go_ret
    exact ⟨rfl, below_step HM.out.below HE.out.below⟩
  | true =>
  rw [if_pos rfl] at h
  replace h := Option.bind_eq_some_iff.mp h
  obtain ⟨⟨n1, n2, n3, n4, n5, n6⟩, A3, h⟩ := h
  replace h := Option.bind_eq_some_iff.mp h
  obtain ⟨⟨v1, v2, v3, v4, v5, v6, fi⟩, A4, h⟩ := h
  replace h := Option.bind_eq_some_iff.mp h
  obtain ⟨tx, A5, h⟩ := h
  replace h := Option.bind_eq_some_iff.mp h
  obtain ⟨⟨x1, x2, x3, x4, x5, x6, ok⟩, A6, h⟩ := h
  replace h := Option.bind_eq_some_iff.mp h
  obtain ⟨rs, A7, h⟩ := h
  obtain rfl := Option.some.inj h
  dsimp only at A3 A4 A5 A6 A7
  have C14 := Aside0.mk fun (W : World) => laws_moment.calls a1_0 a1_1 a1_2 a1_3 a1_4 a1_5 n1 n2 n3 n4 n5 n6 W A3
  have C13 := Aside0.mk fun (W : World) (Ao : Option Addr) (co : Nat) (hC : Kd.C (Kd.slice 54 k54) W Ao le.length le) (hc : le.length ≤ co) => spec_Prev.calls k Ao co le sc n1 n2 n3 n4 n5 n6 true v1 v2 v3 v4 v5 v6 fi W hC hc A4
  have C16 := Aside0.mk fun (W : World) (Ao : Option Addr) (co : Nat) (hC : Kd.C (Kd.slice 54 k54) W Ao le.length le) (hc : le.length ≤ co) => spec_Text.calls k Ao co le sc tx W hC hc A5
  have C15 := Aside0.mk fun (W : World) (hw : Below w.heap.size w W) => impl_Prev.calls tx a1_0 a1_1 a1_2 a1_3 a1_4 a1_5 true x1 x2 x3 x4 x5 x6 ok W A6 (.inr rfl)
  have C17 := Aside0.mk fun (W : World) => laws_same.calls x1 x2 x3 x4 x5 x6 ok v1 v2 v3 v4 v5 v6 fi rs W A7
  clear A3 A4 A5 A6 A7 h hr0_0 hc0_0
  go_enter Tryz.func6, Tryz.ntmps6
  go_upto_region 6 with (first
    | (go_at_call 10; (with_reducible refine Calls.mono (C10.out _ HM.out.below) ?_); rintro e wz ⟨rfl, hb⟩; have HN := Aside0.mk (HM.out.step hb); clear HM hb; have HM := HN; clear HN; have r0 := (et_cells (HM.out.at_ 1 rfl)).1; have r1 := (et_cells (HM.out.at_ 1 rfl)).2; obtain ⟨k0, k1, k2, k3, k4, k5⟩ := mt_cells (HM.out.at_ 0 rfl))
    | (go_at_call 11; (with_reducible refine Calls.mono (C11.out _ HM.out.below) ?_); rintro e wy ⟨v0, rfl, hS, hb⟩; obtain ⟨Ao, co, rfl⟩ := Kd.S_slice hS; have hC := Aside0.mk (Kd.S_reads' hS).2.2; have hc := Aside0.mk (Kd.S_reads' hS).2.1; have HN := Aside0.mk (HM.out.step hb); clear HM hb hS r0 r1 k0 k1 k2 k3 k4 k5; have HM := HN; clear HN; obtain ⟨k0, k1, k2, k3, k4, k5⟩ := mt_cells (HM.out.at_ 0 rfl); have klt := HM.out.lt 0 rfl; have HE := Aside0.mk ((Mem.start wy).new (et 30 Ao le.length co sc)))
    | (go_at_call 12; (with_reducible refine Calls.mono (C12.out _ Ao co (Kd.C_below hC.out HE.out.below) hc.out) ?_); rintro e wx ⟨rfl, hb⟩; have HN := Aside0.mk (HE.out.step hb); clear HE hb k0 k1 k2 k3 k4 k5; have HE := HN; clear HN))
  have KM := Aside0.mk fun (W : World) (hb : Below wy.heap.size wy W) => mt_cells (g := w.heap.size + 1) (t := 26) ((hb.block _ (HM.out.lt 0 rfl)).trans (HM.out.at_ 0 rfl))
  have BW := Aside0.mk fun (W : World) (hb : Below wy.heap.size wy W) => below_step HM.out.below hb
  have CL := Aside0.mk fun (W : World) (hb : Below wy.heap.size wy W) => Kd.C_below hC.out hb
  clear HM
  have HE0 := HE.out
  obtain ⟨g5, hg5⟩ : ∃ g : Nat, g = wy.heap.size := ⟨_, rfl⟩
  have hcC := hc.out
  have KS := Aside0.mk fun (W : World) (L : List (Nat × Obj)) (i : Nat) (hm : Mem wy L W) (hi : L[i]? = some (wy.heap.size, et 30 Ao le.length co sc)) => (⟨(et_cells (hm.at_ i hi)).1, (et_cells (hm.at_ i hi)).2, KM.out W hm.below⟩ : W.cell? ⟨wy.heap.size, 0, none⟩ = some (.slice Ao le.length co) ∧ W.cell? ⟨wy.heap.size, 1, none⟩ = some (.bool sc) ∧ W.cell? ⟨w.heap.size + 1, 0, none⟩ = some (.int .i64 a1_0) ∧ W.cell? ⟨w.heap.size + 1, 1, none⟩ = some (.int .i64 a1_1) ∧ W.cell? ⟨w.heap.size + 1, 2, none⟩ = some (.int .i64 a1_2) ∧ W.cell? ⟨w.heap.size + 1, 3, none⟩ = some (.int .i64 a1_3) ∧ W.cell? ⟨w.heap.size + 1, 4, none⟩ = some (.int .i64 a1_4) ∧ W.cell? ⟨w.heap.size + 1, 5, none⟩ = some (.int .i64 a1_5))
  have KS0 := Aside0.mk fun (W : World) (hm : Mem wy [(wy.heap.size, et 30 Ao le.length co sc)] W) => KS.out W _ 0 hm rfl
  have KS1 := Aside0.mk fun (W : World) (q : Nat × Obj) (hm : Mem wy [q, (wy.heap.size, et 30 Ao le.length co sc)] W) => KS.out W _ 1 hm rfl
  go_cut [6, 7] (fun s6 s7 wc => ∃ g, s6 = .pointer (some ⟨g, 0, none⟩) ∧ s7 = .bool fi ∧ Aside0 (Mem wy [(g, mt 33 v1 v2 v3 v4 v5 v6), (wy.heap.size, et 30 Ao le.length co sc)] wc))
  case first =>
    go_region_held3 (fun w' => w'.cell? ⟨wy.heap.size, 0, none⟩ = some (.slice Ao le.length co) ∧ w'.cell? ⟨wy.heap.size, 1, none⟩ = some (.bool sc) ∧ w'.cell? ⟨w.heap.size + 1, 0, none⟩ = some (.int .i64 a1_0) ∧ w'.cell? ⟨w.heap.size + 1, 1, none⟩ = some (.int .i64 a1_1) ∧ w'.cell? ⟨w.heap.size + 1, 2, none⟩ = some (.int .i64 a1_2) ∧ w'.cell? ⟨w.heap.size + 1, 3, none⟩ = some (.int .i64 a1_3) ∧ w'.cell? ⟨w.heap.size + 1, 4, none⟩ = some (.int .i64 a1_4) ∧ w'.cell? ⟨w.heap.size + 1, 5, none⟩ = some (.int .i64 a1_5))
      (first | ((with_reducible show World.cell? (World.setCell _ _ _) _ = _ ∧ _); with_reducible exact KS1.out _ _ (Mem.put6 HE.out _ _ _ _ _ _)) | with_reducible exact KS0.out _ HE.out.drew | with_reducible exact KS0.out _ HE.out | with_reducible exact KS1.out _ _ HE.out | with_reducible exact KS1.out _ _ (HE.out.new _) | with_reducible exact KS1.out _ _ (HE.out.newD _) | with_reducible exact KS1.out _ _ (HE.out.newR _))
      (first
        | (go_at_call 14; (with_reducible refine Calls.mono (C14.out _) ?_); rintro e wd ⟨rfl, hb⟩; (first | have HN := Aside0.mk (HE.out.step hb) | have HN := Aside0.mk (HE.out.drew.step hb) | have HN := Aside0.mk ((HE.out.drewN _).step hb) | have HN := Aside0.mk ((HE.out.new _).step hb) | have HN := Aside0.mk ((HE.out.newD _).step hb) | have HN := Aside0.mk ((HE.out.newN _ _).step hb) | have HN := Aside0.mk ((HE.out.newR _).step hb)); clear HE hb; have HE := HN; clear HN; (try obtain ⟨f0, f1, f2, f3, f4, f5⟩ := mt_frozen (HE.out.at_ 0 rfl)); (try have flt := HE.out.lt 0 rfl); (try dsimp only at f0 f1 f2 f3 f4 f5 flt); (try obtain ⟨z0, z1, z2, z3, z4, z5⟩ := mt_cells (HE.out.at_ 0 rfl)); (try dsimp only at z0 z1 z2 z3 z4 z5))
        | (go_at_call 18; (first | with_reducible refine Calls.mono (C13.out _ Ao co (CL.out _ HE.out.below) hcC) ?_ | with_reducible refine Calls.mono (C13.out _ Ao co (CL.out _ HE.out.drew.below) hcC) ?_ | with_reducible refine Calls.mono (C13.out _ Ao co (CL.out _ (HE.out.drewN _).below) hcC) ?_ | with_reducible refine Calls.mono (C13.out _ Ao co (CL.out _ (HE.out.alloc _).below) hcC) ?_ | with_reducible refine Calls.mono (C13.out _ Ao co (CL.out _ (HE.out.drew.alloc _).below) hcC) ?_ | with_reducible refine Calls.mono (C13.out _ Ao co (CL.out _ (HE.out.alloc _).drew.below) hcC) ?_); rintro e wd ⟨rfl, hb⟩; (first | have HN := Aside0.mk (HE.out.step hb) | have HN := Aside0.mk (HE.out.drew.step hb) | have HN := Aside0.mk ((HE.out.drewN _).step hb) | have HN := Aside0.mk ((HE.out.new _).step hb) | have HN := Aside0.mk ((HE.out.newD _).step hb) | have HN := Aside0.mk ((HE.out.newN _ _).step hb) | have HN := Aside0.mk ((HE.out.newR _).step hb)); clear HE hb; have HE := HN; clear HN; (try obtain ⟨f0, f1, f2, f3, f4, f5⟩ := mt_frozen (HE.out.at_ 0 rfl)); (try have flt := HE.out.lt 0 rfl); (try dsimp only at f0 f1 f2 f3 f4 f5 flt); (try obtain ⟨z0, z1, z2, z3, z4, z5⟩ := mt_cells (HE.out.at_ 0 rfl)); (try dsimp only at z0 z1 z2 z3 z4 z5)))
    all_goals (go_wp2_with fail; go_meet; exact ⟨_, rfl, rfl, ⟨by first | with_reducible exact HE.out.new _ | with_reducible exact HE.out.newD _ | with_reducible exact Mem.put6 HE.out _ _ _ _ _ _⟩⟩)
  case rest =>
  obtain ⟨g6, rfl, rfl, HE⟩ := hcut
  clear HE0
  have KS2 := Aside0.mk fun (W : World) (q r : Nat × Obj) (hm : Mem wy [q, r, (wy.heap.size, et 30 Ao le.length co sc)] W) => KS.out W _ 2 hm rfl
  go_upto_region 7 with fail
  go_cut [8, 9] (fun s8 s9 wc => ∃ g, s8 = .pointer (some ⟨g, 0, none⟩) ∧ s9 = .bool ok ∧ Aside0 (Mem wy [(g, mt 26 x1 x2 x3 x4 x5 x6), (g6, mt 33 v1 v2 v3 v4 v5 v6), (wy.heap.size, et 30 Ao le.length co sc)] wc))
  case first =>
    go_region_held3 (fun w' => w'.cell? ⟨wy.heap.size, 0, none⟩ = some (.slice Ao le.length co) ∧ w'.cell? ⟨wy.heap.size, 1, none⟩ = some (.bool sc) ∧ w'.cell? ⟨w.heap.size + 1, 0, none⟩ = some (.int .i64 a1_0) ∧ w'.cell? ⟨w.heap.size + 1, 1, none⟩ = some (.int .i64 a1_1) ∧ w'.cell? ⟨w.heap.size + 1, 2, none⟩ = some (.int .i64 a1_2) ∧ w'.cell? ⟨w.heap.size + 1, 3, none⟩ = some (.int .i64 a1_3) ∧ w'.cell? ⟨w.heap.size + 1, 4, none⟩ = some (.int .i64 a1_4) ∧ w'.cell? ⟨w.heap.size + 1, 5, none⟩ = some (.int .i64 a1_5))
      (first | ((with_reducible show World.cell? (World.setCell _ _ _) _ = _ ∧ _); with_reducible exact KS2.out _ _ _ (Mem.put6 HE.out _ _ _ _ _ _)) | with_reducible exact KS1.out _ _ HE.out.drew | with_reducible exact KS1.out _ _ HE.out | with_reducible exact KS2.out _ _ _ HE.out | with_reducible exact KS2.out _ _ _ (HE.out.new _) | with_reducible exact KS2.out _ _ _ (HE.out.newD _) | with_reducible exact KS2.out _ _ _ (HE.out.newR _))
      (first
        | (go_at_call 16; (first | with_reducible refine Calls.mono (C16.out _ Ao co (CL.out _ HE.out.below) hcC) ?_ | with_reducible refine Calls.mono (C16.out _ Ao co (CL.out _ HE.out.drew.below) hcC) ?_ | with_reducible refine Calls.mono (C16.out _ Ao co (CL.out _ (HE.out.drewN _).below) hcC) ?_ | with_reducible refine Calls.mono (C16.out _ Ao co (CL.out _ (HE.out.alloc _).below) hcC) ?_ | with_reducible refine Calls.mono (C16.out _ Ao co (CL.out _ (HE.out.drew.alloc _).below) hcC) ?_ | with_reducible refine Calls.mono (C16.out _ Ao co (CL.out _ (HE.out.alloc _).drew.below) hcC) ?_); rintro e wd ⟨rfl, hb⟩; (first | have HN := Aside0.mk (HE.out.step hb) | have HN := Aside0.mk (HE.out.drew.step hb) | have HN := Aside0.mk ((HE.out.drewN _).step hb) | have HN := Aside0.mk ((HE.out.new _).step hb) | have HN := Aside0.mk ((HE.out.newD _).step hb) | have HN := Aside0.mk ((HE.out.newN _ _).step hb) | have HN := Aside0.mk ((HE.out.newR _).step hb)); clear HE hb; have HE := HN; clear HN; (try obtain ⟨f0, f1, f2, f3, f4, f5⟩ := mt_frozen (HE.out.at_ 0 rfl)); (try have flt := HE.out.lt 0 rfl); (try dsimp only at f0 f1 f2 f3 f4 f5 flt); (try obtain ⟨z0, z1, z2, z3, z4, z5⟩ := mt_cells (HE.out.at_ 0 rfl)); (try dsimp only at z0 z1 z2 z3 z4 z5))
        | (go_at_call 19; (first | with_reducible refine Calls.mono (C15.out _ (BW.out _ HE.out.below)) ?_ | with_reducible refine Calls.mono (C15.out _ (BW.out _ HE.out.drew.below)) ?_ | with_reducible refine Calls.mono (C15.out _ (BW.out _ (HE.out.drewN _).below)) ?_ | with_reducible refine Calls.mono (C15.out _ (BW.out _ (HE.out.alloc _).below)) ?_ | with_reducible refine Calls.mono (C15.out _ (BW.out _ (HE.out.drew.alloc _).below)) ?_ | with_reducible refine Calls.mono (C15.out _ (BW.out _ (HE.out.alloc _).drew.below)) ?_); rintro e wd ⟨rfl, hb⟩; (first | have HN := Aside0.mk (HE.out.step hb) | have HN := Aside0.mk (HE.out.drew.step hb) | have HN := Aside0.mk ((HE.out.drewN _).step hb) | have HN := Aside0.mk ((HE.out.new _).step hb) | have HN := Aside0.mk ((HE.out.newD _).step hb) | have HN := Aside0.mk ((HE.out.newN _ _).step hb) | have HN := Aside0.mk ((HE.out.newR _).step hb)); clear HE hb; have HE := HN; clear HN; (try obtain ⟨f0, f1, f2, f3, f4, f5⟩ := mt_frozen (HE.out.at_ 0 rfl)); (try have flt := HE.out.lt 0 rfl); (try dsimp only at f0 f1 f2 f3 f4 f5 flt); (try obtain ⟨z0, z1, z2, z3, z4, z5⟩ := mt_cells (HE.out.at_ 0 rfl)); (try dsimp only at z0 z1 z2 z3 z4 z5)))
    all_goals (go_wp2_with fail; go_meet; exact ⟨_, rfl, rfl, ⟨by first | with_reducible exact HE.out.new _ | with_reducible exact HE.out.newD _ | with_reducible exact Mem.put6 HE.out _ _ _ _ _ _⟩⟩)
  case rest =>
  obtain ⟨g8, rfl, rfl, HE⟩ := hcut
  obtain ⟨k0, k1, k2, k3, k4, k5⟩ := mt_cells (HE.out.at_ 0 rfl)
  obtain ⟨j0, j1, j2, j3, j4, j5⟩ := mt_cells (HE.out.at_ 1 rfl)
  go_wp2_with (first | (go_at_call 17; (with_reducible refine Calls.mono (C17.out _) ?_); rintro e wd ⟨rfl, hb⟩; have HB := BW.out _ (HE.out.step hb).below))
  go_ret
  exact ⟨rfl, HB⟩
end Go.Proofs.YtjpcdkhapeejjaaGreatDoor.A
end
section
namespace Go.Proofs.YtjpcdkhapeejjaaGreatDoor.A
open Go.ChangeShapes Go.WideShapes Go.RowKit Go.Proofs.YtjpcdkhapeejjaaGreatDoorW.PrintWords Go.Proofs.YtjpcdkhapeejjaaGreatDoorW.PrintLast Go.Proofs.YtjpcdkhapeejjaaGreatDoorW.PrintMore
set_option maxRecDepth 100000
section
variable {H : Type} {enc : TypeId × Value → H} {w : World} {base : Nat} {spare : Nat → Bool} {held : Bool}
/-- A slice, opened as a row of the kind of its elements. -/
theorem row_open {α : Type} (d : Kd α) {t e : TypeId} {fuel : Nat} {cs : List Value} {x : DataW H × List MemPlace} (ht : Tryz.prog.underlying t = some (.slice e)) (hC : Tryz.prog.cellsOf e = d.sz)
    (hel : ∀ (n : Nat) (c : List Value) (y : DataW H × List MemPlace), DataW.trod enc Tryz.prog w base spare held n e c = some y → ∃ z, d.K w z c) (h : DataW.trod enc Tryz.prog w base spare held fuel t cs = some x) :
    ∃ A len cap xs, cs = [.slice A len cap] ∧ len ≤ cap ∧ xs.length = len ∧ d.C w A len xs := by
  rcases Go.Deep.open_slice ht h with ⟨rfl, _⟩ | ⟨a, len, cap, m, n, D, Pl, rfl, _, hl, hm, hmm, _, hx⟩
  · exact ⟨none, 0, 0, [], rfl, Nat.le_refl _, rfl, rfl, by omega, fun h0 => absurd h0 (by omega)⟩
  · have hml : maxLen ≤ 9223372036854775807 := by unfold maxLen; decide
    have hlm : len ≤ m := by rw [hmm]; split <;> omega
    have hi : ∀ i, i < len → ∃ (p : α × List Value), d.K w p.1 p.2 ∧ ∀ j u, p.2[j]? = some u → w.cell? (a.add (i * d.sz + j)) = some u := fun i hi => by
      obtain ⟨c, h1, h2⟩ := hx i (by omega)
      obtain ⟨z, hz⟩ := hel n c _ h2
      refine ⟨(z, c), hz, fun j u hu => ?_⟩
      obtain ⟨_, hlen, hat⟩ := World.cells?_some h1
      rw [hC] at h1 hlen hat
      have hj : j < d.sz := by rw [← hlen]; exact (List.getElem?_eq_some_iff.1 hu).1
      have := hat j hj
      rw [Go.Deep.add_add] at this
      rw [this]; exact hu
    refine ⟨some a, len, cap, List.ofFn fun i : Fin len => (Classical.choose (hi i.1 i.2)).1, rfl, hl, List.length_ofFn, List.length_ofFn, by omega, fun _ => ⟨a, rfl, fun j p hp => ?_⟩⟩
    rw [List.getElem?_ofFn] at hp
    split at hp
    · rename_i hj
      cases hp
      have hs := Classical.choose_spec (hi j hj)
      exact ⟨_, d.K_len hs.1, hs.1, hs.2⟩
    · cases hp
/-- A piece. -/
theorem item_open (n : Nat) (c : List Value) (y : DataW H × List MemPlace) (h : DataW.trod enc Tryz.prog w base spare held n 53 c = some y) : ∃ z, k53.K w z c := by
  obtain ⟨y0, y1, y2, y3, m, _, hl, h0, h1, h2, h3⟩ := Go.Joins.trod_struct4 Tryz.underlying53 h
  have c4 : Tryz.prog.cellsOf 4 = 1 := by kernel_rfl
  have c3 : Tryz.prog.cellsOf 3 = 1 := by kernel_rfl
  have c53 : Tryz.prog.cellsOf 53 = 4 := by kernel_rfl
  have hl4 : c.length = 4 := hl.trans c53
  clear hl
  match c, hl4 with
  | [a0, a1, a2, a3], _ =>
    obtain ⟨b, e0, _⟩ := DataW.trod_bool Tryz.underlying4 h0
    obtain ⟨n1, e1, _, _⟩ := DataW.trod_int Tryz.underlying3 h1
    obtain ⟨n2, e2, _, _⟩ := DataW.trod_int Tryz.underlying3 h2
    obtain ⟨n3, e3, _, _⟩ := DataW.trod_int Tryz.underlying3 h3
    simp only [c4, c3, List.drop_zero, List.drop_succ_cons, List.take_succ_cons, List.take_zero, List.cons.injEq, and_true] at e0 e1 e2 e3
    subst e0 e1 e2 e3
    exact ⟨⟨b, n1, n2, n3⟩, k53_mk w ⟨b, n1, n2, n3⟩⟩
/-- A list of pieces. -/
theorem list_open (n : Nat) (c : List Value) (y : DataW H × List MemPlace) (h : DataW.trod enc Tryz.prog w base spare held n 50 c = some y) : ∃ z, (Kd.slice 53 k53).K w z c := by
  obtain ⟨A, len, cap, xs, rfl, hl, hx, hC⟩ := row_open k53 (t := 50) (e := 53) Tryz.underlying50 (by kernel_rfl) item_open h
  exact ⟨xs, A, cap, by rw [hx], by omega, by rw [hx]; exact hC⟩
/-- An expression. -/
theorem expr_open {r : Reach} {b0 : Nat} {v : Value} {d : DataW H} {p : List MemPlace} (hv : Value.okWide Tryz.prog w r b0 24 v) (h : DataW.Trod enc Tryz.prog w base spare held 24 v d p) :
    ∃ A cap xs b, v = .agg #[.slice A xs.length cap, .bool b] ∧ xs.length ≤ cap ∧ Kd.C (Kd.slice 53 k53) w A xs.length xs := by
  have c24 : Tryz.prog.cellsOf 24 = 2 := by kernel_rfl
  have c22 : Tryz.prog.cellsOf 22 = 1 := by kernel_rfl
  have c4 : Tryz.prog.cellsOf 4 = 1 := by kernel_rfl
  obtain ⟨cs, rfl, hsz⟩ := okWide_struct Tryz.underlying24 hv
  obtain ⟨l⟩ := cs
  have hs2 : l.length = 2 := hsz.trans c24
  clear hsz
  match l, hs2 with
  | [a0, a1], _ =>
    obtain ⟨fuel, hf⟩ := h
    obtain ⟨y0, y1, n, _, _, h0, h1⟩ := trod_struct2 Tryz.underlying24 hf
    simp only [Value.cells, c22, c4, List.drop_zero, List.drop_succ_cons, List.take_succ_cons, List.take_zero] at h0 h1
    obtain ⟨A, len, cap, xs, e0, hl, hx, hC⟩ := row_open (Kd.slice 53 k53) (t := 22) (e := 50) Tryz.underlying22 (by kernel_rfl) list_open h0
    obtain ⟨b, e1, _⟩ := DataW.trod_bool Tryz.underlying4 h1
    simp only [List.cons.injEq, and_true] at e0 e1
    subst e0 e1
    subst hx
    exact ⟨A, cap, xs, b, rfl, hl, hC⟩
/-- A moment. -/
theorem mom_open {r : Reach} {b0 : Nat} {v : Value} {d : DataW H} {p : List MemPlace} (hv : Value.okWide Tryz.prog w r b0 26 v) (h : DataW.Trod enc Tryz.prog w base spare held 26 v d p) :
    ∃ y m dd hh mi se, v = .agg #[.int .i64 y, .int .i64 m, .int .i64 dd, .int .i64 hh, .int .i64 mi, .int .i64 se] := by
  have c26 : Tryz.prog.cellsOf 26 = 6 := by kernel_rfl
  have c3 : Tryz.prog.cellsOf 3 = 1 := by kernel_rfl
  obtain ⟨cs, rfl, hsz⟩ := okWide_struct Tryz.underlying26 hv
  obtain ⟨l⟩ := cs
  have hs6 : l.length = 6 := hsz.trans c26
  clear hsz
  match l, hs6 with
  | [a0, a1, a2, a3, a4, a5], _ =>
    obtain ⟨fuel, hf⟩ := h
    obtain ⟨xs, n, _, _, _, hlen, hg⟩ := DataW.trod_struct Tryz.underlying26 hf
    match xs, hlen with
    | [y0, y1, y2, y3, y4, y5], _ =>
      have g0 : DataW.trod enc Tryz.prog w base spare held n 3 [a0] = some y0 := by simpa [Value.cells, c3] using hg 0 _ rfl
      have g1 : DataW.trod enc Tryz.prog w base spare held n 3 [a1] = some y1 := by simpa [Value.cells, c3] using hg 1 _ rfl
      have g2 : DataW.trod enc Tryz.prog w base spare held n 3 [a2] = some y2 := by simpa [Value.cells, c3] using hg 2 _ rfl
      have g3 : DataW.trod enc Tryz.prog w base spare held n 3 [a3] = some y3 := by simpa [Value.cells, c3] using hg 3 _ rfl
      have g4 : DataW.trod enc Tryz.prog w base spare held n 3 [a4] = some y4 := by simpa [Value.cells, c3] using hg 4 _ rfl
      have g5 : DataW.trod enc Tryz.prog w base spare held n 3 [a5] = some y5 := by simpa [Value.cells, c3] using hg 5 _ rfl
      obtain ⟨n0, e0, _, _⟩ := DataW.trod_int Tryz.underlying3 g0
      obtain ⟨n1, e1, _, _⟩ := DataW.trod_int Tryz.underlying3 g1
      obtain ⟨n2, e2, _, _⟩ := DataW.trod_int Tryz.underlying3 g2
      obtain ⟨n3, e3, _, _⟩ := DataW.trod_int Tryz.underlying3 g3
      obtain ⟨n4, e4, _, _⟩ := DataW.trod_int Tryz.underlying3 g4
      obtain ⟨n5, e5, _, _⟩ := DataW.trod_int Tryz.underlying3 g5
      simp only [List.cons.injEq, and_true] at e0 e1 e2 e3 e4 e5
      subst e0 e1 e2 e3 e4 e5
      exact ⟨n0, n1, n2, n3, n4, n5, rfl⟩
end
end Go.Proofs.YtjpcdkhapeejjaaGreatDoor.A
end
