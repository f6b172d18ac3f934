/- Steps of the proof of the law: contracts of functions of the given program, and plain lemmas about what they compute.
Conditions: none beyond those that each theorem names. -/
import Derived.Test.YtjpcdkhapeejjaaGreatDoorK26
set_option linter.unusedVariables false
set_option linter.unusedSimpArgs false
open Go.RowKit Go.Proofs.YtjpcdkhapeejjaaGreatDoorW.PrintWords Go.Proofs.YtjpcdkhapeejjaaGreatDoorW.PrintLast Go.Proofs.YtjpcdkhapeejjaaGreatDoorW.PrintMore
namespace Go.Proofs.YtjpcdkhapeejjaaGreatDoor.A
mutual
def spec_Good.l0 : Nat → Int → List (S54) → List (S54) → Int → Int → Option (Bool)
  | 0, _, _, _, _, _ => none
  | k + 1, x0, x1, x7, x8, x9 => if x9 < x8 then (if 0 ≤ x9 then (if x9 < (x7.length : Int) then (if ((rd_T54 x7 x9).f3) < 1 then (spec_Good.j1 k x0 x1 x7 x8 x9 true ((rd_T54 x7 x9).f0) ((rd_T54 x7 x9).f1) ((rd_T54 x7 x9).f2) ((rd_T54 x7 x9).f3)) else (spec_Good.j1 k x0 x1 x7 x8 x9 (decide (((rd_T54 x7 x9).f3) > 60)) ((rd_T54 x7 x9).f0) ((rd_T54 x7 x9).f1) ((rd_T54 x7 x9).f2) ((rd_T54 x7 x9).f3))) else (none)) else (none)) else (if (x1.length : Int) ≥ 1 then (some (decide ((x1.length : Int) ≤ 6))) else (some false))
def spec_Good.j1 : Nat → Int → List (S54) → List (S54) → Int → Int → Bool → Bool → Int → Int → Int → Option (Bool)
  | 0, _, _, _, _, _, _, _, _, _, _ => none
  | k + 1, x0, x1, x7, x8, x9, x20, x123000, x123001, x123002, x123003 => if x20 = true then (some false) else (if x123000 = true then (spec_Good.l0 k x0 x1 x7 x8 (wrap64 (x9 + 1))) else ((spec_Low.f x0).bind fun t123 => (if x123001 < t123 then (some false) else ((spec_High.f x0).bind fun t124 => (if x123002 > t124 then (some false) else (if x123001 > x123002 then (some false) else (spec_Good.l0 k x0 x1 x7 x8 (wrap64 (x9 + 1)))))))))
end
def spec_Good.f (k : Nat) (a0 : Int) (l1 : List (S54)) : Option (Bool) := spec_Good.l0 k a0 l1 l1 (l1.length : Int) 0
set_option maxHeartbeats 8000000 in
set_option maxRecDepth 100000 in
theorem spec_Good.calls (k : Nat) (a0 : Int) (A1 : Option Addr) (c1 : Nat) (l1 : List (S54)) (r : Bool) (w : World) (hr1 : Kd.C k54 w A1 l1.length l1) (hc1 : l1.length ≤ c1) (h : spec_Good.f k a0 l1 = some r) :
    Calls Tryz.prog 38 #[.int .i64 a0, .slice A1 l1.length c1] w fun e w' => e = .returned (.bool r) ∧ Below w.heap.size w w' := by
 have hu54 := Tryz.underlying54
 have HR1 := Aside0.mk hr1
 have HC1 := Aside0.mk hc1
 clear hr1 hc1
 have HB := Aside0.mk (Below.refl w.heap.size w)
 have H : (spec_Good.l0 k a0 l1 l1 (l1.length : Int) 0) = some r := h
 clear h
 have H' := Aside0.mk H
 clear H
 go_enter Tryz.func38, Tryz.ntmps38
 go_wp2
 repeat (go_quiet (fail); try go_wp2)
 go_loopg [9] k (fun kq v9 w' => ∃ (x9_1 : Int), v9 = .int .i64 x9_1 ∧ Aside0 (spec_Good.l0 kq a0 l1 l1 (l1.length : Int) x9_1 = some r) ∧ Aside0 (kq ≤ k) ∧ Aside0 (Below w.heap.size w w'))
 case atStart => exact ⟨(0), (by first | rfl | (simp; done) | (simp [*]; done)), H', ⟨Nat.le_refl _⟩, ⟨by repeat (with_reducible first | exact HB.out | apply below_alloc | apply pw_below_drewN | apply below_drew1)⟩⟩
 case round =>
  clear H'
  try clear c1
  obtain ⟨x9_1, rfl, HA, HK1, HB⟩ := hrel
  cases gk with
  | zero => exact absurd HA.out (by simp [spec_Good.l0])
  | succ k1 =>
   have H := HA.out
   clear HA
   simp only [spec_Good.l0] at H
   refine (Classical.em (x9_1 < (l1.length : Int))).elim (fun c3 => ?a1_) (fun c3 => ?b1_)
   case' a1_ =>
    rw [if_pos c3] at H
    have c3b0 : decide (x9_1 < (l1.length : Int)) = true := decide_eq_true c3
    clear c3
    refine (Classical.em (0 ≤ x9_1)).elim (fun c4 => ?a2_) (fun c4 => ?b2_)
   case' a2_ =>
    rw [if_pos c4] at H
    have c4b0 : decide (0 ≤ x9_1) = true := decide_eq_true c4
    clear c4
    refine (Classical.em (x9_1 < (l1.length : Int))).elim (fun c5 => ?a3_) (fun c5 => ?b3_)
   case a3_ =>
    rw [if_pos c5] at H
    have c5b0 : decide (x9_1 < (l1.length : Int)) = true := decide_eq_true c5
    clear c5
    have HC6 := Aside0.mk H
    clear H
    have p121 : 0 ≤ (x9_1 : Int) := of_decide_eq_true (by first | (with_reducible assumption) | assumption)
    have q121 : x9_1 < (l1.length : Int) := of_decide_eq_true (by first | (with_reducible assumption) | assumption)
    obtain ⟨ad121, e121, hx121_0, hx121_1, hx121_2, hx121_3⟩ := at_T54 HR1.out x9_1 p121 q121
    cases e121
    replace hx121_0 := (HB.out.cell (World.block_lt_of_cell? w _ hx121_0)).trans hx121_0
    replace hx121_1 := (HB.out.cell (World.block_lt_of_cell? w _ hx121_1)).trans hx121_1
    replace hx121_2 := (HB.out.cell (World.block_lt_of_cell? w _ hx121_2)).trans hx121_2
    replace hx121_3 := (HB.out.cell (World.block_lt_of_cell? w _ hx121_3)).trans hx121_3
    replace p121 := eq_true p121
    replace q121 := eq_true q121
    go_upto_region 4 with (first | ((with_reducible refine gate_dst (N := 6) rfl ?_); (try (refine gate_guard (by rfl) ?_; dsimp only)); refine box_event ?hg (N := 6) ?hd (cs := #[.bool false, .int .i64 0, .int .i64 0, .int .i64 0]) (t := 54) ?hr ?_; (case hd => rfl); (case hg => rfl); (case hr => first | (go_simp; done) | (go_simp; rfl)); intro gb122 hg w7 hbox hb; have n0_ := Aside0.mk (below_step (by repeat (with_reducible first | exact HB.out | apply below_alloc | apply pw_below_drewN | apply below_drew1)) hb); have n1_ := Aside0.mk (hbox); have n2_ := Aside0.mk ((by rw [hg]; exact (below_size (by repeat (with_reducible first | exact HB.out | apply below_alloc | apply pw_below_drewN | apply below_drew1))) : w.heap.size ≤ gb122)); have n3_ := Aside0.mk ((by rw [hg]; exact (below_size (by repeat (with_reducible first | exact HB.out | apply below_alloc | apply pw_below_drewN | apply below_drew1))) : w.heap.size ≤ gb122)); clear HB; have HB := n0_; have BK122 := n1_; have GW122 := n2_; have GE122 := n3_; clear n0_ n1_ n2_ n3_; clear hb hbox hg; have hcz8_0 : w7.cell? ⟨gb122, 0, none⟩ = some (.bool false) := (blk_cell BK122.out 0).trans rfl; have hcz8_1 : w7.cell? ⟨gb122, 1, none⟩ = some (.int .i64 0) := (blk_cell BK122.out 1).trans rfl; have hcz8_2 : w7.cell? ⟨gb122, 2, none⟩ = some (.int .i64 0) := (blk_cell BK122.out 2).trans rfl; have hcz8_3 : w7.cell? ⟨gb122, 3, none⟩ = some (.int .i64 0) := (blk_cell BK122.out 3).trans rfl; have hfz8_0 := blk_frozen BK122.out 0; have hfz8_1 := blk_frozen BK122.out 1; have hfz8_2 := blk_frozen BK122.out 2; have hfz8_3 := blk_frozen BK122.out 3))
    repeat (go_quiet (first | ((with_reducible refine gate_dst (N := 6) rfl ?_); (try (refine gate_guard (by rfl) ?_; dsimp only)); refine box_event ?hg (N := 6) ?hd (cs := #[.bool false, .int .i64 0, .int .i64 0, .int .i64 0]) (t := 54) ?hr ?_; (case hd => rfl); (case hg => rfl); (case hr => first | (go_simp; done) | (go_simp; rfl)); intro gb122 hg w7 hbox hb; have n0_ := Aside0.mk (below_step (by repeat (with_reducible first | exact HB.out | apply below_alloc | apply pw_below_drewN | apply below_drew1)) hb); have n1_ := Aside0.mk (hbox); have n2_ := Aside0.mk ((by rw [hg]; exact (below_size (by repeat (with_reducible first | exact HB.out | apply below_alloc | apply pw_below_drewN | apply below_drew1))) : w.heap.size ≤ gb122)); have n3_ := Aside0.mk ((by rw [hg]; exact (below_size (by repeat (with_reducible first | exact HB.out | apply below_alloc | apply pw_below_drewN | apply below_drew1))) : w.heap.size ≤ gb122)); clear HB; have HB := n0_; have BK122 := n1_; have GW122 := n2_; have GE122 := n3_; clear n0_ n1_ n2_ n3_; clear hb hbox hg; have hcz8_0 : w7.cell? ⟨gb122, 0, none⟩ = some (.bool false) := (blk_cell BK122.out 0).trans rfl; have hcz8_1 : w7.cell? ⟨gb122, 1, none⟩ = some (.int .i64 0) := (blk_cell BK122.out 1).trans rfl; have hcz8_2 : w7.cell? ⟨gb122, 2, none⟩ = some (.int .i64 0) := (blk_cell BK122.out 2).trans rfl; have hcz8_3 : w7.cell? ⟨gb122, 3, none⟩ = some (.int .i64 0) := (blk_cell BK122.out 3).trans rfl; have hfz8_0 := blk_frozen BK122.out 0; have hfz8_1 := blk_frozen BK122.out 1; have hfz8_2 := blk_frozen BK122.out 2; have hfz8_3 := blk_frozen BK122.out 3)); go_upto_region 4 with (first | ((with_reducible refine gate_dst (N := 6) rfl ?_); (try (refine gate_guard (by rfl) ?_; dsimp only)); refine box_event ?hg (N := 6) ?hd (cs := #[.bool false, .int .i64 0, .int .i64 0, .int .i64 0]) (t := 54) ?hr ?_; (case hd => rfl); (case hg => rfl); (case hr => first | (go_simp; done) | (go_simp; rfl)); intro gb122 hg w7 hbox hb; have n0_ := Aside0.mk (below_step (by repeat (with_reducible first | exact HB.out | apply below_alloc | apply pw_below_drewN | apply below_drew1)) hb); have n1_ := Aside0.mk (hbox); have n2_ := Aside0.mk ((by rw [hg]; exact (below_size (by repeat (with_reducible first | exact HB.out | apply below_alloc | apply pw_below_drewN | apply below_drew1))) : w.heap.size ≤ gb122)); have n3_ := Aside0.mk ((by rw [hg]; exact (below_size (by repeat (with_reducible first | exact HB.out | apply below_alloc | apply pw_below_drewN | apply below_drew1))) : w.heap.size ≤ gb122)); clear HB; have HB := n0_; have BK122 := n1_; have GW122 := n2_; have GE122 := n3_; clear n0_ n1_ n2_ n3_; clear hb hbox hg; have hcz8_0 : w7.cell? ⟨gb122, 0, none⟩ = some (.bool false) := (blk_cell BK122.out 0).trans rfl; have hcz8_1 : w7.cell? ⟨gb122, 1, none⟩ = some (.int .i64 0) := (blk_cell BK122.out 1).trans rfl; have hcz8_2 : w7.cell? ⟨gb122, 2, none⟩ = some (.int .i64 0) := (blk_cell BK122.out 2).trans rfl; have hcz8_3 : w7.cell? ⟨gb122, 3, none⟩ = some (.int .i64 0) := (blk_cell BK122.out 3).trans rfl; have hfz8_0 := blk_frozen BK122.out 0; have hfz8_1 := blk_frozen BK122.out 1; have hfz8_2 := blk_frozen BK122.out 2; have hfz8_3 := blk_frozen BK122.out 3)))
    (try simp only [Act.put, List.setIfInBounds_toArray, List.set_cons_zero, List.set_cons_succ])
    go_cut [20] (fun v20 wc => ∃ (kq : Nat) (x20_5 : Bool), v20 = .bool x20_5 ∧ Aside0 (spec_Good.j1 kq a0 l1 l1 (l1.length : Int) x9_1 x20_5 ((rd_T54 l1 x9_1).f0) ((rd_T54 l1 x9_1).f1) ((rd_T54 l1 x9_1).f2) ((rd_T54 l1 x9_1).f3) = some r) ∧ Aside0 (kq ≤ k1) ∧ Aside0 (wc.heap[gb122]? = some (.cells #[.bool ((rd_T54 l1 x9_1).f0), .int .i64 ((rd_T54 l1 x9_1).f1), .int .i64 ((rd_T54 l1 x9_1).f2), .int .i64 ((rd_T54 l1 x9_1).f3)] 54 (0, 0))) ∧ Aside0 (Below w.heap.size w wc))
    case first =>
     have H := HC6.out
     clear HC6
     refine (Classical.em (((rd_T54 l1 x9_1).f3) < 1)).elim (fun c9 => ?a5_) (fun c9 => ?b5_)
     case a5_ =>
      rw [if_pos c9] at H
      have c9b0 : decide (((rd_T54 l1 x9_1).f3) < 1) = true := decide_eq_true c9
      clear c9
      (first | rw [c9b0] | (simp only [i64_w, i32_w]; rw [c9b0]) | skip)
      have H' := Aside0.mk H
      clear H
      have hcz10_0 : w7.cell? ⟨gb122, 0, none⟩ = some (.bool false) := (blk_cell BK122.out 0).trans rfl
      have hcz10_1 : w7.cell? ⟨gb122, 1, none⟩ = some (.int .i64 0) := (blk_cell BK122.out 1).trans rfl
      have hcz10_2 : w7.cell? ⟨gb122, 2, none⟩ = some (.int .i64 0) := (blk_cell BK122.out 2).trans rfl
      have hcz10_3 : w7.cell? ⟨gb122, 3, none⟩ = some (.int .i64 0) := (blk_cell BK122.out 3).trans rfl
      have hfz10_0 := blk_frozen BK122.out 0
      have hfz10_1 := blk_frozen BK122.out 1
      have hfz10_2 := blk_frozen BK122.out 2
      have hfz10_3 := blk_frozen BK122.out 3
      go_wp2
      repeat (go_quiet (fail); try go_wp2)
      go_meet
      case rel => exact ⟨_, (true), (by first | rfl | (simp; done) | (simp [*]; done)), H', ⟨by have := HK1.out; first | omega | exact Nat.le_refl _⟩, ⟨by (with_reducible repeat (first | refine blk_drewN ?_ _ | refine blk_drew ?_ | refine blk_alloc ?_ _)); refine blk_put (cs := #[.bool ((rd_T54 l1 x9_1).f0), .int .i64 ((rd_T54 l1 x9_1).f1), .int .i64 ((rd_T54 l1 x9_1).f2), .int .i64 0]) ?_ 3 _ rfl; (with_reducible repeat (first | refine blk_drewN ?_ _ | refine blk_drew ?_ | refine blk_alloc ?_ _)); refine blk_put (cs := #[.bool ((rd_T54 l1 x9_1).f0), .int .i64 ((rd_T54 l1 x9_1).f1), .int .i64 0, .int .i64 0]) ?_ 2 _ rfl; (with_reducible repeat (first | refine blk_drewN ?_ _ | refine blk_drew ?_ | refine blk_alloc ?_ _)); refine blk_put (cs := #[.bool ((rd_T54 l1 x9_1).f0), .int .i64 0, .int .i64 0, .int .i64 0]) ?_ 1 _ rfl; (with_reducible repeat (first | refine blk_drewN ?_ _ | refine blk_drew ?_ | refine blk_alloc ?_ _)); refine blk_put (cs := #[.bool false, .int .i64 0, .int .i64 0, .int .i64 0]) ?_ 0 _ rfl; (with_reducible repeat (first | refine blk_drewN ?_ _ | refine blk_drew ?_ | refine blk_alloc ?_ _)); exact BK122.out⟩, ⟨by repeat (with_reducible first | exact HB.out | apply below_alloc | apply pw_below_drewN | apply below_drew1 | refine below_set ?_ GE122.out)⟩⟩
     case b5_ =>
      rw [if_neg c9] at H
      have c9b0 : decide (((rd_T54 l1 x9_1).f3) < 1) = false := decide_eq_false c9
      clear c9
      (first | rw [c9b0] | (simp only [i64_w, i32_w]; rw [c9b0]) | skip)
      have H' := Aside0.mk H
      clear H
      have hcz11_0 : w7.cell? ⟨gb122, 0, none⟩ = some (.bool false) := (blk_cell BK122.out 0).trans rfl
      have hcz11_1 : w7.cell? ⟨gb122, 1, none⟩ = some (.int .i64 0) := (blk_cell BK122.out 1).trans rfl
      have hcz11_2 : w7.cell? ⟨gb122, 2, none⟩ = some (.int .i64 0) := (blk_cell BK122.out 2).trans rfl
      have hcz11_3 : w7.cell? ⟨gb122, 3, none⟩ = some (.int .i64 0) := (blk_cell BK122.out 3).trans rfl
      have hfz11_0 := blk_frozen BK122.out 0
      have hfz11_1 := blk_frozen BK122.out 1
      have hfz11_2 := blk_frozen BK122.out 2
      have hfz11_3 := blk_frozen BK122.out 3
      go_wp2
      repeat (go_quiet (fail); try go_wp2)
      go_meet
      case rel => exact ⟨_, (decide (((rd_T54 l1 x9_1).f3) > 60)), (by first | rfl | (simp; done) | (simp [*]; done)), H', ⟨by have := HK1.out; first | omega | exact Nat.le_refl _⟩, ⟨by (with_reducible repeat (first | refine blk_drewN ?_ _ | refine blk_drew ?_ | refine blk_alloc ?_ _)); refine blk_put (cs := #[.bool ((rd_T54 l1 x9_1).f0), .int .i64 ((rd_T54 l1 x9_1).f1), .int .i64 ((rd_T54 l1 x9_1).f2), .int .i64 0]) ?_ 3 _ rfl; (with_reducible repeat (first | refine blk_drewN ?_ _ | refine blk_drew ?_ | refine blk_alloc ?_ _)); refine blk_put (cs := #[.bool ((rd_T54 l1 x9_1).f0), .int .i64 ((rd_T54 l1 x9_1).f1), .int .i64 0, .int .i64 0]) ?_ 2 _ rfl; (with_reducible repeat (first | refine blk_drewN ?_ _ | refine blk_drew ?_ | refine blk_alloc ?_ _)); refine blk_put (cs := #[.bool ((rd_T54 l1 x9_1).f0), .int .i64 0, .int .i64 0, .int .i64 0]) ?_ 1 _ rfl; (with_reducible repeat (first | refine blk_drewN ?_ _ | refine blk_drew ?_ | refine blk_alloc ?_ _)); refine blk_put (cs := #[.bool false, .int .i64 0, .int .i64 0, .int .i64 0]) ?_ 0 _ rfl; (with_reducible repeat (first | refine blk_drewN ?_ _ | refine blk_drew ?_ | refine blk_alloc ?_ _)); exact BK122.out⟩, ⟨by repeat (with_reducible first | exact HB.out | apply below_alloc | apply pw_below_drewN | apply below_drew1 | refine below_set ?_ GE122.out)⟩⟩
    case rest =>
     clear HC6
     try clear c1
     try clear c3
     try clear c3b0
     try clear c4
     try clear c4b0
     try clear c5
     try clear c5b0
     try clear c9
     try clear c9b0
     try clear hcz10_0
     try clear hcz10_1
     try clear hcz10_2
     try clear hcz10_3
     try clear hcz11_0
     try clear hcz11_1
     try clear hcz11_2
     try clear hcz11_3
     try clear hcz8_0
     try clear hcz8_1
     try clear hcz8_2
     try clear hcz8_3
     try clear hfz10_0
     try clear hfz10_1
     try clear hfz10_2
     try clear hfz10_3
     try clear hfz11_0
     try clear hfz11_1
     try clear hfz11_2
     try clear hfz11_3
     try clear hfz8_0
     try clear hfz8_1
     try clear hfz8_2
     try clear hfz8_3
     try clear hx121_0
     try clear hx121_1
     try clear hx121_2
     try clear hx121_3
     try clear p121
     try clear q121
     obtain ⟨kq, x20_5, rfl, HA, HJ5, BK122, HB⟩ := hcut
     cases kq with
     | zero => exact absurd HA.out (by simp [spec_Good.j1])
     | succ kj5 =>
      have H := HA.out
      clear HA
      simp only [spec_Good.j1] at H
      refine (Classical.em (x20_5 = true)).elim (fun c12 => ?a6_) (fun c12 => ?b6_)
      case a6_ =>
       subst c12
       rw [if_pos rfl] at H
       obtain rfl := Option.some.inj H
       go_wp2
       repeat (go_quiet (fail); try go_wp2)
       go_ret
       exact ⟨by first | rfl | (simp [errW_none, errW_some] <;> rfl) | (simp [*, errW_none, errW_some] <;> rfl), by repeat (with_reducible first | exact HB.out | apply below_alloc | apply pw_below_drewN | apply below_drew1 | refine below_set ?_ GE122.out)⟩
      case' b6_ =>
       replace c12 := Bool.eq_false_iff.mpr c12
       subst c12
       rw [if_neg (show ¬ (false = true) by decide)] at H
       refine (Classical.em (((rd_T54 l1 x9_1).f0) = true)).elim (fun c13 => ?a7_) (fun c13 => ?b7_)
      case a7_ =>
       rw [if_pos c13] at H
       have c13b0 : ((rd_T54 l1 x9_1).f0) = true := c13
       clear c13
       have H' := Aside0.mk H
       clear H
       have hcz14_0 : wc.cell? ⟨gb122, 0, none⟩ = some (.bool ((rd_T54 l1 x9_1).f0)) := (blk_cell BK122.out 0).trans rfl
       have hcz14_1 : wc.cell? ⟨gb122, 1, none⟩ = some (.int .i64 ((rd_T54 l1 x9_1).f1)) := (blk_cell BK122.out 1).trans rfl
       have hcz14_2 : wc.cell? ⟨gb122, 2, none⟩ = some (.int .i64 ((rd_T54 l1 x9_1).f2)) := (blk_cell BK122.out 2).trans rfl
       have hcz14_3 : wc.cell? ⟨gb122, 3, none⟩ = some (.int .i64 ((rd_T54 l1 x9_1).f3)) := (blk_cell BK122.out 3).trans rfl
       have hfz14_0 := blk_frozen BK122.out 0
       have hfz14_1 := blk_frozen BK122.out 1
       have hfz14_2 := blk_frozen BK122.out 2
       have hfz14_3 := blk_frozen BK122.out 3
       go_wp2
       repeat (go_quiet (fail); try go_wp2)
       go_roundg kj5
       case measure => have := HK1.out; have := HJ5.out; omega
       case rel => exact ⟨(wrap64 (x9_1 + 1)), (by first | rfl | (simp; done) | (simp [*]; done)), H', ⟨by have := HK1.out; have := HJ5.out; omega⟩, ⟨by repeat (with_reducible first | exact HB.out | apply below_alloc | apply pw_below_drewN | apply below_drew1 | refine below_set ?_ GE122.out)⟩⟩
      case' b7_ =>
       rw [if_neg c13] at H
       have c13b0 : ((rd_T54 l1 x9_1).f0) = false := by simpa using c13
       clear c13
       replace H := Option.bind_eq_some_iff.mp H
       obtain ⟨t123, A150, H⟩ := H
       try dsimp only at H
       have A15 := Aside0.mk A150
       clear A150
       refine (Classical.em (((rd_T54 l1 x9_1).f1) < t123)).elim (fun c16 => ?a8_) (fun c16 => ?b8_)
      case a8_ =>
       rw [if_pos c16] at H
       have c16b0 : decide (((rd_T54 l1 x9_1).f1) < t123) = true := decide_eq_true c16
       clear c16
       obtain rfl := Option.some.inj H
       have hcz17_0 : wc.cell? ⟨gb122, 0, none⟩ = some (.bool ((rd_T54 l1 x9_1).f0)) := (blk_cell BK122.out 0).trans rfl
       have hcz17_1 : wc.cell? ⟨gb122, 1, none⟩ = some (.int .i64 ((rd_T54 l1 x9_1).f1)) := (blk_cell BK122.out 1).trans rfl
       have hcz17_2 : wc.cell? ⟨gb122, 2, none⟩ = some (.int .i64 ((rd_T54 l1 x9_1).f2)) := (blk_cell BK122.out 2).trans rfl
       have hcz17_3 : wc.cell? ⟨gb122, 3, none⟩ = some (.int .i64 ((rd_T54 l1 x9_1).f3)) := (blk_cell BK122.out 3).trans rfl
       have hfz17_0 := blk_frozen BK122.out 0
       have hfz17_1 := blk_frozen BK122.out 1
       have hfz17_2 := blk_frozen BK122.out 2
       have hfz17_3 := blk_frozen BK122.out 3
       go_wp2_with (first | (go_at_call 55; (with_reducible refine (spec_Low.calls a0 t123 _ A15.out).mono ?_); rintro e w' ⟨rfl, ⟨nd, rfl⟩⟩; (try first | exact ⟨rfl, _, World.drewN_drewN _ _ _⟩ | exact ⟨rfl, _, Eq.trans (World.drewN_drewN _ _ _) (congrArg (World.drewN _) (Nat.add_assoc _ _ _))⟩)))
       repeat (go_quiet (first | (go_at_call 55; (with_reducible refine (spec_Low.calls a0 t123 _ A15.out).mono ?_); rintro e w' ⟨rfl, ⟨nd, rfl⟩⟩; (try first | exact ⟨rfl, _, World.drewN_drewN _ _ _⟩ | exact ⟨rfl, _, Eq.trans (World.drewN_drewN _ _ _) (congrArg (World.drewN _) (Nat.add_assoc _ _ _))⟩))); try go_wp2_with (first | (go_at_call 55; (with_reducible refine (spec_Low.calls a0 t123 _ A15.out).mono ?_); rintro e w' ⟨rfl, ⟨nd, rfl⟩⟩; (try first | exact ⟨rfl, _, World.drewN_drewN _ _ _⟩ | exact ⟨rfl, _, Eq.trans (World.drewN_drewN _ _ _) (congrArg (World.drewN _) (Nat.add_assoc _ _ _))⟩))))
       go_ret
       exact ⟨by first | rfl | (simp [errW_none, errW_some] <;> rfl) | (simp [*, errW_none, errW_some] <;> rfl), by repeat (with_reducible first | exact HB.out | apply below_alloc | apply pw_below_drewN | apply below_drew1 | refine below_set ?_ GE122.out)⟩
      case' b8_ =>
       rw [if_neg c16] at H
       have c16b0 : decide (((rd_T54 l1 x9_1).f1) < t123) = false := decide_eq_false c16
       clear c16
       replace H := Option.bind_eq_some_iff.mp H
       obtain ⟨t124, A180, H⟩ := H
       try dsimp only at H
       have A18 := Aside0.mk A180
       clear A180
       refine (Classical.em (((rd_T54 l1 x9_1).f2) > t124)).elim (fun c19 => ?a9_) (fun c19 => ?b9_)
      case' a9_ =>
       rw [if_pos c19] at H
       have c19b0 : decide (t124 < ((rd_T54 l1 x9_1).f2)) = true := decide_eq_true c19
       clear c19
       obtain rfl := Option.some.inj H
      case' b9_ =>
       rw [if_neg c19] at H
       have c19b0 : decide (t124 < ((rd_T54 l1 x9_1).f2)) = false := decide_eq_false c19
       clear c19
       refine (Classical.em (((rd_T54 l1 x9_1).f1) > ((rd_T54 l1 x9_1).f2))).elim (fun c21 => ?a10_) (fun c21 => ?b10_)
      case' a10_ =>
       rw [if_pos c21] at H
       have c21b0 : decide (((rd_T54 l1 x9_1).f2) < ((rd_T54 l1 x9_1).f1)) = true := decide_eq_true c21
       clear c21
       obtain rfl := Option.some.inj H
      case b10_ =>
       rw [if_neg c21] at H
       have c21b0 : decide (((rd_T54 l1 x9_1).f2) < ((rd_T54 l1 x9_1).f1)) = false := decide_eq_false c21
       clear c21
       have H' := Aside0.mk H
       clear H
       have hcz23_0 : wc.cell? ⟨gb122, 0, none⟩ = some (.bool ((rd_T54 l1 x9_1).f0)) := (blk_cell BK122.out 0).trans rfl
       have hcz23_1 : wc.cell? ⟨gb122, 1, none⟩ = some (.int .i64 ((rd_T54 l1 x9_1).f1)) := (blk_cell BK122.out 1).trans rfl
       have hcz23_2 : wc.cell? ⟨gb122, 2, none⟩ = some (.int .i64 ((rd_T54 l1 x9_1).f2)) := (blk_cell BK122.out 2).trans rfl
       have hcz23_3 : wc.cell? ⟨gb122, 3, none⟩ = some (.int .i64 ((rd_T54 l1 x9_1).f3)) := (blk_cell BK122.out 3).trans rfl
       have hfz23_0 := blk_frozen BK122.out 0
       have hfz23_1 := blk_frozen BK122.out 1
       have hfz23_2 := blk_frozen BK122.out 2
       have hfz23_3 := blk_frozen BK122.out 3
       go_wp2_with (first | (go_at_call 55; (with_reducible refine (spec_Low.calls a0 t123 _ A15.out).mono ?_); rintro e w' ⟨rfl, ⟨nd, rfl⟩⟩; (try first | exact ⟨rfl, _, World.drewN_drewN _ _ _⟩ | exact ⟨rfl, _, Eq.trans (World.drewN_drewN _ _ _) (congrArg (World.drewN _) (Nat.add_assoc _ _ _))⟩)) | (go_at_call 56; (with_reducible refine (spec_High.calls a0 t124 _ A18.out).mono ?_); rintro e w' ⟨rfl, ⟨nd, rfl⟩⟩; (try first | exact ⟨rfl, _, World.drewN_drewN _ _ _⟩ | exact ⟨rfl, _, Eq.trans (World.drewN_drewN _ _ _) (congrArg (World.drewN _) (Nat.add_assoc _ _ _))⟩)))
       repeat (go_quiet (first | (go_at_call 55; (with_reducible refine (spec_Low.calls a0 t123 _ A15.out).mono ?_); rintro e w' ⟨rfl, ⟨nd, rfl⟩⟩; (try first | exact ⟨rfl, _, World.drewN_drewN _ _ _⟩ | exact ⟨rfl, _, Eq.trans (World.drewN_drewN _ _ _) (congrArg (World.drewN _) (Nat.add_assoc _ _ _))⟩)) | (go_at_call 56; (with_reducible refine (spec_High.calls a0 t124 _ A18.out).mono ?_); rintro e w' ⟨rfl, ⟨nd, rfl⟩⟩; (try first | exact ⟨rfl, _, World.drewN_drewN _ _ _⟩ | exact ⟨rfl, _, Eq.trans (World.drewN_drewN _ _ _) (congrArg (World.drewN _) (Nat.add_assoc _ _ _))⟩))); try go_wp2_with (first | (go_at_call 55; (with_reducible refine (spec_Low.calls a0 t123 _ A15.out).mono ?_); rintro e w' ⟨rfl, ⟨nd, rfl⟩⟩; (try first | exact ⟨rfl, _, World.drewN_drewN _ _ _⟩ | exact ⟨rfl, _, Eq.trans (World.drewN_drewN _ _ _) (congrArg (World.drewN _) (Nat.add_assoc _ _ _))⟩)) | (go_at_call 56; (with_reducible refine (spec_High.calls a0 t124 _ A18.out).mono ?_); rintro e w' ⟨rfl, ⟨nd, rfl⟩⟩; (try first | exact ⟨rfl, _, World.drewN_drewN _ _ _⟩ | exact ⟨rfl, _, Eq.trans (World.drewN_drewN _ _ _) (congrArg (World.drewN _) (Nat.add_assoc _ _ _))⟩))))
       go_roundg kj5
       case measure => have := HK1.out; have := HJ5.out; omega
       case rel => exact ⟨(wrap64 (x9_1 + 1)), (by first | rfl | (simp; done) | (simp [*]; done)), H', ⟨by have := HK1.out; have := HJ5.out; omega⟩, ⟨by repeat (with_reducible first | exact HB.out | apply below_alloc | apply pw_below_drewN | apply below_drew1 | refine below_set ?_ GE122.out)⟩⟩
      case a9_ | a10_ =>
       have hcz20_0 : wc.cell? ⟨gb122, 0, none⟩ = some (.bool ((rd_T54 l1 x9_1).f0)) := (blk_cell BK122.out 0).trans rfl
       have hcz20_1 : wc.cell? ⟨gb122, 1, none⟩ = some (.int .i64 ((rd_T54 l1 x9_1).f1)) := (blk_cell BK122.out 1).trans rfl
       have hcz20_2 : wc.cell? ⟨gb122, 2, none⟩ = some (.int .i64 ((rd_T54 l1 x9_1).f2)) := (blk_cell BK122.out 2).trans rfl
       have hcz20_3 : wc.cell? ⟨gb122, 3, none⟩ = some (.int .i64 ((rd_T54 l1 x9_1).f3)) := (blk_cell BK122.out 3).trans rfl
       have hfz20_0 := blk_frozen BK122.out 0
       have hfz20_1 := blk_frozen BK122.out 1
       have hfz20_2 := blk_frozen BK122.out 2
       have hfz20_3 := blk_frozen BK122.out 3
       go_wp2_with (first | (go_at_call 56; (with_reducible refine (spec_High.calls a0 t124 _ A18.out).mono ?_); rintro e w' ⟨rfl, ⟨nd, rfl⟩⟩; (try first | exact ⟨rfl, _, World.drewN_drewN _ _ _⟩ | exact ⟨rfl, _, Eq.trans (World.drewN_drewN _ _ _) (congrArg (World.drewN _) (Nat.add_assoc _ _ _))⟩)) | (go_at_call 55; (with_reducible refine (spec_Low.calls a0 t123 _ A15.out).mono ?_); rintro e w' ⟨rfl, ⟨nd, rfl⟩⟩; (try first | exact ⟨rfl, _, World.drewN_drewN _ _ _⟩ | exact ⟨rfl, _, Eq.trans (World.drewN_drewN _ _ _) (congrArg (World.drewN _) (Nat.add_assoc _ _ _))⟩)))
       repeat (go_quiet (first | (go_at_call 55; (with_reducible refine (spec_Low.calls a0 t123 _ A15.out).mono ?_); rintro e w' ⟨rfl, ⟨nd, rfl⟩⟩; (try first | exact ⟨rfl, _, World.drewN_drewN _ _ _⟩ | exact ⟨rfl, _, Eq.trans (World.drewN_drewN _ _ _) (congrArg (World.drewN _) (Nat.add_assoc _ _ _))⟩)) | (go_at_call 56; (with_reducible refine (spec_High.calls a0 t124 _ A18.out).mono ?_); rintro e w' ⟨rfl, ⟨nd, rfl⟩⟩; (try first | exact ⟨rfl, _, World.drewN_drewN _ _ _⟩ | exact ⟨rfl, _, Eq.trans (World.drewN_drewN _ _ _) (congrArg (World.drewN _) (Nat.add_assoc _ _ _))⟩))); try go_wp2_with (first | (go_at_call 55; (with_reducible refine (spec_Low.calls a0 t123 _ A15.out).mono ?_); rintro e w' ⟨rfl, ⟨nd, rfl⟩⟩; (try first | exact ⟨rfl, _, World.drewN_drewN _ _ _⟩ | exact ⟨rfl, _, Eq.trans (World.drewN_drewN _ _ _) (congrArg (World.drewN _) (Nat.add_assoc _ _ _))⟩)) | (go_at_call 56; (with_reducible refine (spec_High.calls a0 t124 _ A18.out).mono ?_); rintro e w' ⟨rfl, ⟨nd, rfl⟩⟩; (try first | exact ⟨rfl, _, World.drewN_drewN _ _ _⟩ | exact ⟨rfl, _, Eq.trans (World.drewN_drewN _ _ _) (congrArg (World.drewN _) (Nat.add_assoc _ _ _))⟩))))
       go_ret
       exact ⟨by first | rfl | (simp [errW_none, errW_some] <;> rfl) | (simp [*, errW_none, errW_some] <;> rfl), by repeat (with_reducible first | exact HB.out | apply below_alloc | apply pw_below_drewN | apply below_drew1 | refine below_set ?_ GE122.out)⟩
   case b3_ =>
    rw [if_neg c5] at H
    exact absurd H (by simp)
   case b2_ =>
    rw [if_neg c4] at H
    exact absurd H (by simp)
   case' b1_ =>
    rw [if_neg c3] at H
    have c3b0 : decide (x9_1 < (l1.length : Int)) = false := decide_eq_false c3
    clear c3
    refine (Classical.em ((l1.length : Int) ≥ 1)).elim (fun c24 => ?a4_) (fun c24 => ?b4_)
   case' a4_ =>
    rw [if_pos c24] at H
    have c24b0 : decide (1 ≤ (l1.length : Int)) = true := decide_eq_true c24
    have c24b1 : decide (1 ≤ l1.length) = true := decide_eq_true (by omega)
    clear c24
    obtain rfl := Option.some.inj H
   case' b4_ =>
    rw [if_neg c24] at H
    have c24b0 : decide (1 ≤ (l1.length : Int)) = false := decide_eq_false c24
    have c24b1 : decide (1 ≤ l1.length) = false := decide_eq_false (by omega)
    clear c24
    obtain rfl := Option.some.inj H
   case a4_ | b4_ =>
    go_wp2
    repeat (go_quiet (fail); try go_wp2)
    go_ret
    exact ⟨by first | rfl | (simp [errW_none, errW_some] <;> rfl) | (simp [*, errW_none, errW_some] <;> rfl), by repeat (with_reducible first | exact HB.out | apply below_alloc | apply pw_below_drewN | apply below_drew1)⟩
def spec_Star.f (l0 : List (S54)) : Option (Bool) := if (l0.length : Int) = 1 then (if 0 < (l0.length : Int) then (if (rd_T54 l0 0).f0 = true then (some (((rd_T54 l0 0).f3) == 1)) else (some false)) else (none)) else (some false)
set_option maxHeartbeats 8000000 in
set_option maxRecDepth 100000 in
theorem spec_Star.calls (A0 : Option Addr) (c0 : Nat) (l0 : List (S54)) (r : Bool) (w : World) (hr0 : Kd.C k54 w A0 l0.length l0) (hc0 : l0.length ≤ c0) (h : spec_Star.f l0 = some r) :
    Calls Tryz.prog 39 #[.slice A0 l0.length c0] w fun e w' => e = .returned (.bool r) ∧ Drawn0 w w' := by
 have HR0 := Aside0.mk hr0
 have HC0 := Aside0.mk hc0
 clear hr0 hc0
 have H : (if (l0.length : Int) = 1 then (if 0 < (l0.length : Int) then (if (rd_T54 l0 0).f0 = true then (some (((rd_T54 l0 0).f3) == 1)) else (some false)) else (none)) else (some false)) = some r := h
 clear h
 refine (Classical.em ((l0.length : Int) = 1)).elim (fun c2 => ?a1_) (fun c2 => ?b1_)
 case' a1_ =>
  rw [if_pos c2] at H
  have c2b0 : ((l0.length : Int) == 1) = true := beq_iff_eq.mpr c2
  have c2b1 : ((l0.length : Int) != 1) = false := bne_eq_false_iff_eq.mpr c2
  clear c2
  refine (Classical.em (0 < (l0.length : Int))).elim (fun c3 => ?a2_) (fun c3 => ?b2_)
 case' a2_ =>
  rw [if_pos c3] at H
  have c3b0 : decide (0 < (l0.length : Int)) = true := decide_eq_true c3
  have c3b1 : decide (0 < l0.length) = true := decide_eq_true (by omega)
  clear c3
  obtain ⟨bq4, hbq4⟩ : ∃ b_ : Bool, b_ = ((rd_T54 l0 0).f0) := ⟨_, rfl⟩
  replace H : (if bq4 = true then (some (((rd_T54 l0 0).f3) == 1)) else (some false)) = some r := by rw [← hbq4] at H; exact H
  have Nbq4 := Aside0.mk hbq4
  clear hbq4
  refine (Classical.em (bq4 = true)).elim (fun c5 => ?a3_) (fun c5 => ?b3_)
 case a3_ =>
  subst c5
  rw [if_pos rfl] at H
  obtain rfl := Option.some.inj H
  have p125 : 0 ≤ (0 : Int) := (by omega)
  have q125 : 0 < (l0.length : Int) := of_decide_eq_true (by first | (with_reducible assumption) | assumption)
  obtain ⟨ad125, e125, hx125_0, hx125_1, hx125_2, hx125_3⟩ := at_T54 HR0.out 0 p125 q125
  (try rw [← Nbq4.out] at hx125_0)
  cases e125
  have qi125 : (0 < l0.length) = True := eq_true (by omega)
  (try rw [show ((0 : Int)).toNat = 0 from rfl] at hx125_0)
  (try rw [show 0 * 4 = 0 from rfl] at hx125_0)
  (try rw [Addr.add_zero'] at hx125_0)
  (try rw [show ((0 : Int)).toNat = 0 from rfl] at hx125_1)
  (try rw [show 0 * 4 = 0 from rfl] at hx125_1)
  (try rw [Addr.add_zero'] at hx125_1)
  (try rw [show ((0 : Int)).toNat = 0 from rfl] at hx125_2)
  (try rw [show 0 * 4 = 0 from rfl] at hx125_2)
  (try rw [Addr.add_zero'] at hx125_2)
  (try rw [show ((0 : Int)).toNat = 0 from rfl] at hx125_3)
  (try rw [show 0 * 4 = 0 from rfl] at hx125_3)
  (try rw [Addr.add_zero'] at hx125_3)
  replace p125 := eq_true p125
  replace q125 := eq_true q125
  have p126 : 0 ≤ (0 : Int) := (by omega)
  have q126 : 0 < (l0.length : Int) := of_decide_eq_true (by first | (with_reducible assumption) | assumption)
  obtain ⟨ad126, e126, hx126_0, hx126_1, hx126_2, hx126_3⟩ := at_T54 HR0.out 0 p126 q126
  (try rw [← Nbq4.out] at hx126_0)
  obtain rfl : ad125 = ad126 := (by injection e126)
  have qi126 : (0 < l0.length) = True := eq_true (by omega)
  (try rw [show ((0 : Int)).toNat = 0 from rfl] at hx126_0)
  (try rw [show 0 * 4 = 0 from rfl] at hx126_0)
  (try rw [Addr.add_zero'] at hx126_0)
  (try rw [show ((0 : Int)).toNat = 0 from rfl] at hx126_1)
  (try rw [show 0 * 4 = 0 from rfl] at hx126_1)
  (try rw [Addr.add_zero'] at hx126_1)
  (try rw [show ((0 : Int)).toNat = 0 from rfl] at hx126_2)
  (try rw [show 0 * 4 = 0 from rfl] at hx126_2)
  (try rw [Addr.add_zero'] at hx126_2)
  (try rw [show ((0 : Int)).toNat = 0 from rfl] at hx126_3)
  (try rw [show 0 * 4 = 0 from rfl] at hx126_3)
  (try rw [Addr.add_zero'] at hx126_3)
  replace p126 := eq_true p126
  replace q126 := eq_true q126
  go_enter Tryz.func39, Tryz.ntmps39
  go_wp2
  go_ret
  exact ⟨by first | rfl | (simp; done) | (simp [*]; done), by repeat (first | exact Drawn0.refl _ | apply Drawn0.step)⟩
 case b3_ =>
  replace c5 := Bool.eq_false_iff.mpr c5
  subst c5
  rw [if_neg (show ¬ (false = true) by decide)] at H
  obtain rfl := Option.some.inj H
  have p125 : 0 ≤ (0 : Int) := (by omega)
  have q125 : 0 < (l0.length : Int) := of_decide_eq_true (by first | (with_reducible assumption) | assumption)
  obtain ⟨ad125, e125, hx125_0, hx125_1, hx125_2, hx125_3⟩ := at_T54 HR0.out 0 p125 q125
  (try rw [← Nbq4.out] at hx125_0)
  cases e125
  have qi125 : (0 < l0.length) = True := eq_true (by omega)
  (try rw [show ((0 : Int)).toNat = 0 from rfl] at hx125_0)
  (try rw [show 0 * 4 = 0 from rfl] at hx125_0)
  (try rw [Addr.add_zero'] at hx125_0)
  (try rw [show ((0 : Int)).toNat = 0 from rfl] at hx125_1)
  (try rw [show 0 * 4 = 0 from rfl] at hx125_1)
  (try rw [Addr.add_zero'] at hx125_1)
  (try rw [show ((0 : Int)).toNat = 0 from rfl] at hx125_2)
  (try rw [show 0 * 4 = 0 from rfl] at hx125_2)
  (try rw [Addr.add_zero'] at hx125_2)
  (try rw [show ((0 : Int)).toNat = 0 from rfl] at hx125_3)
  (try rw [show 0 * 4 = 0 from rfl] at hx125_3)
  (try rw [Addr.add_zero'] at hx125_3)
  replace p125 := eq_true p125
  replace q125 := eq_true q125
  go_enter Tryz.func39, Tryz.ntmps39
  go_wp2
  go_ret
  exact ⟨by first | rfl | (simp; done) | (simp [*]; done), by repeat (first | exact Drawn0.refl _ | apply Drawn0.step)⟩
 case b2_ =>
  rw [if_neg c3] at H
  exact absurd H (by simp)
 case b1_ =>
  rw [if_neg c2] at H
  have c2b0 : ((l0.length : Int) == 1) = false := beq_eq_false_iff_ne.mpr c2
  have c2b1 : ((l0.length : Int) != 1) = true := bne_iff_ne.mpr c2
  obtain rfl := Option.some.inj H
  go_enter Tryz.func39, Tryz.ntmps39
  go_wp2
  go_ret
  exact ⟨by first | rfl | (simp; done) | (simp [*]; done), by repeat (first | exact Drawn0.refl _ | apply Drawn0.step)⟩
end Go.Proofs.YtjpcdkhapeejjaaGreatDoor.A
