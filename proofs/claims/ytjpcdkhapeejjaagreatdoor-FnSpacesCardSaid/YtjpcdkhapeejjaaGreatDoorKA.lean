/- Steps of the proof of the law: contracts of functions of the given program, and plain lemmas about what they compute.
Conditions: none beyond those that each theorem names. -/
import Derived.Test.YtjpcdkhapeejjaaGreatDoorK02
set_option linter.unusedVariables false
set_option linter.unusedSimpArgs false
open Go.RowKit Go.Proofs.YtjpcdkhapeejjaaGreatDoorW.PrintWords Go.Proofs.YtjpcdkhapeejjaaGreatDoorW.PrintLast Go.Proofs.YtjpcdkhapeejjaaGreatDoorW.PrintMore
namespace Go.Proofs.YtjpcdkhapeejjaaGreatDoor.A
def spec_At.f (a0_0 : Int) (a0_1 : Int) (a0_2 : Int) (a0_3 : Int) (a0_4 : Int) (a0_5 : Int) (a1 : Int) : Option (Int × Int × Int × Int × Int × Int) := some (a0_0, a0_1, a0_2, wrap64 (Int.tdiv a1 3600), Int.tmod (wrap64 (Int.tdiv a1 60)) 60, Int.tmod a1 60)
set_option maxHeartbeats 8000000 in
set_option maxRecDepth 100000 in
theorem spec_At.calls (a0_0 : Int) (a0_1 : Int) (a0_2 : Int) (a0_3 : Int) (a0_4 : Int) (a0_5 : Int) (a1 : Int) (r1 : Int) (r2 : Int) (r3 : Int) (r4 : Int) (r5 : Int) (r6 : Int) (w : World) (h : spec_At.f a0_0 a0_1 a0_2 a0_3 a0_4 a0_5 a1 = some (r1, r2, r3, r4, r5, r6)) :
    Calls Tryz.prog 20 #[.agg #[.int .i64 a0_0, .int .i64 a0_1, .int .i64 a0_2, .int .i64 a0_3, .int .i64 a0_4, .int .i64 a0_5], .int .i64 a1] w fun e w' => e = .returned (.agg #[.int .i64 r1, .int .i64 r2, .int .i64 r3, .int .i64 r4, .int .i64 r5, .int .i64 r6]) ∧ Below w.heap.size w w' := by
 have hu33 := Tryz.underlying33
 have HB := Aside0.mk (Below.refl w.heap.size w)
 have H : (some (a0_0, a0_1, a0_2, wrap64 (Int.tdiv a1 3600), Int.tmod (wrap64 (Int.tdiv a1 60)) 60, Int.tmod a1 60)) = some (r1, r2, r3, r4, r5, r6) := h
 clear h
 simp only [Option.some.injEq, Prod.mk.injEq] at H
 obtain ⟨rfl, rfl, rfl, rfl, rfl, rfl⟩ := H
 go_enter Tryz.func20, Tryz.ntmps20
 go_wp2_with (first | ((with_reducible refine gate_dst (N := 2) rfl ?_); refine box_event ?hg (N := 2) ?hd (cs := #[.int .i64 a0_0, .int .i64 a0_1, .int .i64 a0_2, .int .i64 a0_3, .int .i64 a0_4, .int .i64 a0_5]) (t := 33) ?hr ?_; (case hd => rfl); (case hg => rfl); (case hr => first | (go_simp; done) | (go_simp; rfl)); intro gb152 hg w3 hbox hb; have n0_ := Aside0.mk (below_step (by repeat (with_reducible first | exact HB.out | apply below_alloc | apply pw_below_drewN | apply below_drew1)) hb); have n1_ := Aside0.mk (hbox); have n2_ := Aside0.mk ((by rw [hg]; exact (below_size (by repeat (with_reducible first | exact HB.out | apply below_alloc | apply pw_below_drewN | apply below_drew1))) : w.heap.size ≤ gb152)); have n3_ := Aside0.mk ((by rw [hg]; exact (below_size (by repeat (with_reducible first | exact HB.out | apply below_alloc | apply pw_below_drewN | apply below_drew1))) : w.heap.size ≤ gb152)); clear HB; have HB := n0_; have BK152 := n1_; have GW152 := n2_; have GE152 := n3_; clear n0_ n1_ n2_ n3_; clear hb hbox hg) | ((with_reducible refine gate_dst (N := 4) rfl ?_); refine box_event ?hg (N := 4) ?hd (cs := #[.int .i64 0, .int .i64 0, .int .i64 0, .int .i64 0, .int .i64 0, .int .i64 0]) (t := 33) ?hr ?_; (case hd => rfl); (case hg => rfl); (case hr => first | (go_simp; done) | (go_simp; rfl)); intro gb153 hg w4 hbox hb; have n0_ := Aside0.mk (blk_below (g := gb152) (o := .cells #[.int .i64 a0_0, .int .i64 a0_1, .int .i64 a0_2, .int .i64 a0_3, .int .i64 a0_4, .int .i64 a0_5] 33 (0, 0)) (by (with_reducible repeat (first | refine blk_drewN ?_ _ | refine blk_drew ?_ | refine blk_alloc ?_ _)); exact BK152.out) hb); have n1_ := Aside0.mk (below_step (by repeat (with_reducible first | exact HB.out | apply below_alloc | apply pw_below_drewN | apply below_drew1 | refine below_set ?_ GE152.out)) hb); have n2_ := Aside0.mk (hbox); have n3_ := Aside0.mk ((by rw [hg]; exact (below_size (by repeat (with_reducible first | exact HB.out | apply below_alloc | apply pw_below_drewN | apply below_drew1 | refine below_set ?_ GE152.out))) : w.heap.size ≤ gb153)); have n4_ := Aside0.mk ((by rw [hg]; exact (below_size (by repeat (with_reducible first | exact HB.out | apply below_alloc | apply pw_below_drewN | apply below_drew1 | refine below_set ?_ GE152.out))) : w.heap.size ≤ gb153)); have n5_ := Aside0.mk ((by rw [hg]; exact Nat.ne_of_lt (blk_lt (g := gb152) (o := .cells #[.int .i64 a0_0, .int .i64 a0_1, .int .i64 a0_2, .int .i64 a0_3, .int .i64 a0_4, .int .i64 a0_5] 33 (0, 0)) (by (with_reducible repeat (first | refine blk_drewN ?_ _ | refine blk_drew ?_ | refine blk_alloc ?_ _)); exact BK152.out)) : gb152 ≠ gb153)); have n6_ := Aside0.mk ((by rw [hg]; exact Nat.ne_of_gt (blk_lt (g := gb152) (o := .cells #[.int .i64 a0_0, .int .i64 a0_1, .int .i64 a0_2, .int .i64 a0_3, .int .i64 a0_4, .int .i64 a0_5] 33 (0, 0)) (by (with_reducible repeat (first | refine blk_drewN ?_ _ | refine blk_drew ?_ | refine blk_alloc ?_ _)); exact BK152.out)) : gb153 ≠ gb152)); clear BK152; clear HB; have BK152 := n0_; have HB := n1_; have BK153 := n2_; have GW153 := n3_; have GE153 := n4_; have NB152_153 := n5_; have NB153_152 := n6_; clear n0_ n1_ n2_ n3_ n4_ n5_ n6_; clear hb hbox hg; have hnb5 := NB152_153.out; have hnc5 := NB153_152.out; have hcz6_0 : w4.cell? ⟨gb152, 0, none⟩ = some (.int .i64 a0_0) := (blk_cell BK152.out 0).trans rfl; have hcz6_1 : w4.cell? ⟨gb152, 1, none⟩ = some (.int .i64 a0_1) := (blk_cell BK152.out 1).trans rfl; have hcz6_2 : w4.cell? ⟨gb152, 2, none⟩ = some (.int .i64 a0_2) := (blk_cell BK152.out 2).trans rfl; have hcz6_3 : w4.cell? ⟨gb152, 3, none⟩ = some (.int .i64 a0_3) := (blk_cell BK152.out 3).trans rfl; have hcz6_4 : w4.cell? ⟨gb152, 4, none⟩ = some (.int .i64 a0_4) := (blk_cell BK152.out 4).trans rfl; have hcz6_5 : w4.cell? ⟨gb152, 5, none⟩ = some (.int .i64 a0_5) := (blk_cell BK152.out 5).trans rfl; have hfz6_0 := blk_frozen BK152.out 0; have hfz6_1 := blk_frozen BK152.out 1; have hfz6_2 := blk_frozen BK152.out 2; have hfz6_3 := blk_frozen BK152.out 3; have hfz6_4 := blk_frozen BK152.out 4; have hfz6_5 := blk_frozen BK152.out 5; have hcz7_0 : w4.cell? ⟨gb153, 0, none⟩ = some (.int .i64 0) := (blk_cell BK153.out 0).trans rfl; have hcz7_1 : w4.cell? ⟨gb153, 1, none⟩ = some (.int .i64 0) := (blk_cell BK153.out 1).trans rfl; have hcz7_2 : w4.cell? ⟨gb153, 2, none⟩ = some (.int .i64 0) := (blk_cell BK153.out 2).trans rfl; have hcz7_3 : w4.cell? ⟨gb153, 3, none⟩ = some (.int .i64 0) := (blk_cell BK153.out 3).trans rfl; have hcz7_4 : w4.cell? ⟨gb153, 4, none⟩ = some (.int .i64 0) := (blk_cell BK153.out 4).trans rfl; have hcz7_5 : w4.cell? ⟨gb153, 5, none⟩ = some (.int .i64 0) := (blk_cell BK153.out 5).trans rfl; have hfz7_0 := blk_frozen BK153.out 0; have hfz7_1 := blk_frozen BK153.out 1; have hfz7_2 := blk_frozen BK153.out 2; have hfz7_3 := blk_frozen BK153.out 3; have hfz7_4 := blk_frozen BK153.out 4; have hfz7_5 := blk_frozen BK153.out 5))
 refine bodyPost_ret (results_cell_row rfl _ _ gb153 33 #[.int .i64 a0_0, .int .i64 a0_1, .int .i64 a0_2, .int .i64 (wrap64 (Int.tdiv a1 3600)), .int .i64 (Int.tmod (wrap64 (Int.tdiv a1 60)) 60), .int .i64 (Int.tmod a1 60)] (0, 0) _ rfl (by (with_reducible repeat (first | refine blk_drewN ?_ _ | refine blk_drew ?_ | refine blk_alloc ?_ _)); refine blk_put (cs := #[.int .i64 a0_0, .int .i64 a0_1, .int .i64 a0_2, .int .i64 (wrap64 (Int.tdiv a1 3600)), .int .i64 (Int.tmod (wrap64 (Int.tdiv a1 60)) 60), .int .i64 0]) ?_ 5 _ rfl; (with_reducible repeat (first | refine blk_drewN ?_ _ | refine blk_drew ?_ | refine blk_alloc ?_ _)); refine blk_put (cs := #[.int .i64 a0_0, .int .i64 a0_1, .int .i64 a0_2, .int .i64 (wrap64 (Int.tdiv a1 3600)), .int .i64 0, .int .i64 0]) ?_ 4 _ rfl; (with_reducible repeat (first | refine blk_drewN ?_ _ | refine blk_drew ?_ | refine blk_alloc ?_ _)); refine blk_put (cs := #[.int .i64 a0_0, .int .i64 a0_1, .int .i64 a0_2, .int .i64 0, .int .i64 0, .int .i64 0]) ?_ 3 _ rfl; (with_reducible repeat (first | refine blk_drewN ?_ _ | refine blk_drew ?_ | refine blk_alloc ?_ _)); refine blk_put (cs := #[.int .i64 a0_0, .int .i64 a0_1, .int .i64 0, .int .i64 0, .int .i64 0, .int .i64 0]) ?_ 2 _ rfl; (with_reducible repeat (first | refine blk_drewN ?_ _ | refine blk_drew ?_ | refine blk_alloc ?_ _)); refine blk_put (cs := #[.int .i64 a0_0, .int .i64 0, .int .i64 0, .int .i64 0, .int .i64 0, .int .i64 0]) ?_ 1 _ rfl; (with_reducible repeat (first | refine blk_drewN ?_ _ | refine blk_drew ?_ | refine blk_alloc ?_ _)); refine blk_put (cs := #[.int .i64 0, .int .i64 0, .int .i64 0, .int .i64 0, .int .i64 0, .int .i64 0]) ?_ 0 _ rfl; (with_reducible repeat (first | refine blk_drewN ?_ _ | refine blk_drew ?_ | refine blk_alloc ?_ _)); refine blk_far ?_ NB153_152.out _; (with_reducible repeat (first | refine blk_drewN ?_ _ | refine blk_drew ?_ | refine blk_alloc ?_ _)); refine blk_far ?_ NB153_152.out _; (with_reducible repeat (first | refine blk_drewN ?_ _ | refine blk_drew ?_ | refine blk_alloc ?_ _)); refine blk_far ?_ NB153_152.out _; (with_reducible repeat (first | refine blk_drewN ?_ _ | refine blk_drew ?_ | refine blk_alloc ?_ _)); exact BK153.out) Tryz.underlying33 rfl (by kernel_rfl)) rfl ?_
 exact ⟨by first | rfl | (simp [errW_none, errW_some] <;> rfl) | (simp [*, errW_none, errW_some] <;> rfl), by repeat (with_reducible first | exact HB.out | apply below_alloc | apply pw_below_drewN | apply below_drew1 | refine below_set ?_ GE152.out | refine below_set ?_ GE153.out)⟩
def spec_Seconds.f (a0_0 : Int) (a0_1 : Int) (a0_2 : Int) (a0_3 : Int) (a0_4 : Int) (a0_5 : Int) : Option (Int) := some (wrap64 ((wrap64 ((wrap64 (a0_3 * 3600)) + (wrap64 (a0_4 * 60)))) + a0_5))
set_option maxHeartbeats 8000000 in
set_option maxRecDepth 100000 in
theorem spec_Seconds.calls (a0_0 : Int) (a0_1 : Int) (a0_2 : Int) (a0_3 : Int) (a0_4 : Int) (a0_5 : Int) (r : Int) (w : World) (h : spec_Seconds.f a0_0 a0_1 a0_2 a0_3 a0_4 a0_5 = some r) :
    Calls Tryz.prog 23 #[.agg #[.int .i64 a0_0, .int .i64 a0_1, .int .i64 a0_2, .int .i64 a0_3, .int .i64 a0_4, .int .i64 a0_5]] w fun e w' => e = .returned (.int .i64 r) ∧ Below w.heap.size w w' := by
 have hu33 := Tryz.underlying33
 have HB := Aside0.mk (Below.refl w.heap.size w)
 have H : (some (wrap64 ((wrap64 ((wrap64 (a0_3 * 3600)) + (wrap64 (a0_4 * 60)))) + a0_5))) = some r := h
 clear h
 obtain rfl := Option.some.inj H
 go_enter Tryz.func23, Tryz.ntmps23
 go_wp2_with (first | ((with_reducible refine gate_dst (N := 1) rfl ?_); refine box_event ?hg (N := 1) ?hd (cs := #[.int .i64 a0_0, .int .i64 a0_1, .int .i64 a0_2, .int .i64 a0_3, .int .i64 a0_4, .int .i64 a0_5]) (t := 33) ?hr ?_; (case hd => rfl); (case hg => rfl); (case hr => first | (go_simp; done) | (go_simp; rfl)); intro gb154 hg w2 hbox hb; have n0_ := Aside0.mk (below_step (by repeat (with_reducible first | exact HB.out | apply below_alloc | apply pw_below_drewN | apply below_drew1)) hb); have n1_ := Aside0.mk (hbox); have n2_ := Aside0.mk ((by rw [hg]; exact (below_size (by repeat (with_reducible first | exact HB.out | apply below_alloc | apply pw_below_drewN | apply below_drew1))) : w.heap.size ≤ gb154)); have n3_ := Aside0.mk ((by rw [hg]; exact (below_size (by repeat (with_reducible first | exact HB.out | apply below_alloc | apply pw_below_drewN | apply below_drew1))) : w.heap.size ≤ gb154)); clear HB; have HB := n0_; have BK154 := n1_; have GW154 := n2_; have GE154 := n3_; clear n0_ n1_ n2_ n3_; clear hb hbox hg; have hcz3_0 : w2.cell? ⟨gb154, 0, none⟩ = some (.int .i64 a0_0) := (blk_cell BK154.out 0).trans rfl; have hcz3_1 : w2.cell? ⟨gb154, 1, none⟩ = some (.int .i64 a0_1) := (blk_cell BK154.out 1).trans rfl; have hcz3_2 : w2.cell? ⟨gb154, 2, none⟩ = some (.int .i64 a0_2) := (blk_cell BK154.out 2).trans rfl; have hcz3_3 : w2.cell? ⟨gb154, 3, none⟩ = some (.int .i64 a0_3) := (blk_cell BK154.out 3).trans rfl; have hcz3_4 : w2.cell? ⟨gb154, 4, none⟩ = some (.int .i64 a0_4) := (blk_cell BK154.out 4).trans rfl; have hcz3_5 : w2.cell? ⟨gb154, 5, none⟩ = some (.int .i64 a0_5) := (blk_cell BK154.out 5).trans rfl; have hfz3_0 := blk_frozen BK154.out 0; have hfz3_1 := blk_frozen BK154.out 1; have hfz3_2 := blk_frozen BK154.out 2; have hfz3_3 := blk_frozen BK154.out 3; have hfz3_4 := blk_frozen BK154.out 4; have hfz3_5 := blk_frozen BK154.out 5))
 go_ret
 exact ⟨by first | rfl | (simp [errW_none, errW_some] <;> rfl) | (simp [*, errW_none, errW_some] <;> rfl), by repeat (with_reducible first | exact HB.out | apply below_alloc | apply pw_below_drewN | apply below_drew1 | refine below_set ?_ GE154.out)⟩
def spec_Leap.f (a0 : Int) : Option (Bool) := if (Int.tmod a0 4) = 0 then (if (Int.tmod a0 100) = 0 then (some ((Int.tmod a0 400) == 0)) else (some true)) else (some false)
set_option maxHeartbeats 8000000 in
set_option maxRecDepth 100000 in
theorem spec_Leap.calls (a0 : Int) (r : Bool) (w : World) (h : spec_Leap.f a0 = some r) :
    Calls Tryz.prog 57 #[.int .i64 a0] w fun e w' => e = .returned (.bool r) ∧ Drawn0 w w' := by
 have H : (if (Int.tmod a0 4) = 0 then (if (Int.tmod a0 100) = 0 then (some ((Int.tmod a0 400) == 0)) else (some true)) else (some false)) = some r := h
 clear h
 refine (Classical.em ((Int.tmod a0 4) = 0)).elim (fun c2 => ?a1_) (fun c2 => ?b1_)
 case' a1_ =>
  rw [if_pos c2] at H
  have c2b0 : ((Int.tmod a0 4) == 0) = true := beq_iff_eq.mpr c2
  have c2b1 : ((Int.tmod a0 4) != 0) = false := bne_eq_false_iff_eq.mpr c2
  clear c2
  refine (Classical.em ((Int.tmod a0 100) = 0)).elim (fun c3 => ?a2_) (fun c3 => ?b2_)
 case' a2_ =>
  rw [if_pos c3] at H
  have c3b0 : ((Int.tmod a0 100) == 0) = true := beq_iff_eq.mpr c3
  have c3b1 : ((Int.tmod a0 100) != 0) = false := bne_eq_false_iff_eq.mpr c3
  clear c3
  obtain rfl := Option.some.inj H
 case' b2_ =>
  rw [if_neg c3] at H
  have c3b0 : ((Int.tmod a0 100) == 0) = false := beq_eq_false_iff_ne.mpr c3
  have c3b1 : ((Int.tmod a0 100) != 0) = true := bne_iff_ne.mpr c3
  obtain rfl := Option.some.inj H
 case' b1_ =>
  rw [if_neg c2] at H
  have c2b0 : ((Int.tmod a0 4) == 0) = false := beq_eq_false_iff_ne.mpr c2
  have c2b1 : ((Int.tmod a0 4) != 0) = true := bne_iff_ne.mpr c2
  obtain rfl := Option.some.inj H
 case a2_ | b2_ | b1_ =>
  go_enter Tryz.func57, Tryz.ntmps57
  go_wp2
  go_ret
  exact ⟨by first | rfl | (simp; done) | (simp [*]; done), by repeat (first | exact Drawn0.refl _ | apply Drawn0.step)⟩
def spec_Days.tab : List Int := [0, 31, 28, 31, 30, 31, 30, 31, 31, 30, 31, 30, 31]
def spec_Days.f (a0 : Int) (a1 : Int) : Option Int := if 0 ≤ a1 then (if a1 < 13 then (if a1 = 2 then (spec_Leap.f a0).bind (fun b => if b = true then some 29 else some 28) else some (spec_Days.tab.getD a1.toNat 0)) else none) else none
set_option maxRecDepth 100000 in
theorem spec_Days.index (i : Int) (w : World) (h0 : 0 ≤ i) (h1 : i < 13) :
    (Instr.index 109 (Value.agg #[.int .i64 0, .int .i64 31, .int .i64 28, .int .i64 31, .int .i64 30, .int .i64 31, .int .i64 30, .int .i64 31, .int .i64 31, .int .i64 30, .int .i64 31, .int .i64 30, .int .i64 31]) (.int .i64 i)).run Tryz.prog w = .ok (.int .i64 (spec_Days.tab.getD i.toNat 0)) w := by
  obtain ⟨n, rfl⟩ := Int.eq_ofNat_of_zero_le h0
  have : n = 0 ∨ n = 1 ∨ n = 2 ∨ n = 3 ∨ n = 4 ∨ n = 5 ∨ n = 6 ∨ n = 7 ∨ n = 8 ∨ n = 9 ∨ n = 10 ∨ n = 11 ∨ n = 12 := by omega
  rcases this with rfl | rfl | rfl | rfl | rfl | rfl | rfl | rfl | rfl | rfl | rfl | rfl | rfl <;> (show _ = _; kernel_rfl)
set_option maxRecDepth 100000 in
set_option maxHeartbeats 1000000 in
theorem spec_Days.calls (a0 : Int) (a1 : Int) (r : Int) (w : World) (h : spec_Days.f a0 a1 = some r) :
    Calls Tryz.prog 40 #[.int .i64 a0, .int .i64 a1] w fun e w' => e = .returned (.int .i64 r) ∧ Drawn0 w w' := by
  unfold spec_Days.f at h
  by_cases h0 : 0 ≤ a1
  · rw [if_pos h0] at h
    by_cases h1 : a1 < 13
    · rw [if_pos h1] at h
      by_cases h2 : a1 = 2
      · subst h2
        rw [if_pos rfl] at h
        obtain ⟨b, hb, h⟩ := Option.bind_eq_some_iff.mp h
        have hx := fun w => spec_Days.index 2 w (by omega) (by omega)
        rw [show spec_Days.tab.getD (2 : Int).toNat 0 = 28 from rfl] at hx
        have HB := Aside0.mk hb
        clear hb
        cases b with
        | true =>
          obtain rfl := Option.some.inj h
          clear h
          go_enter Tryz.func40, Tryz.ntmps40
          go_wp2_with (go_at_call 57; refine (spec_Leap.calls a0 true _ HB.out).mono ?_; rintro e w' ⟨rfl, ⟨nd, rfl⟩⟩)
          go_ret
          exact ⟨rfl, by repeat (first | exact Drawn0.refl _ | apply Drawn0.step)⟩
        | false =>
          obtain rfl := Option.some.inj h
          clear h
          go_enter Tryz.func40, Tryz.ntmps40
          go_wp2_with (go_at_call 57; refine (spec_Leap.calls a0 false _ HB.out).mono ?_; rintro e w' ⟨rfl, ⟨nd, rfl⟩⟩)
          go_ret
          exact ⟨rfl, by repeat (first | exact Drawn0.refl _ | apply Drawn0.step)⟩
      · rw [if_neg h2] at h
        obtain rfl := Option.some.inj h
        have hx := fun w => spec_Days.index a1 w h0 h1
        have c0 : (a1 == 2) = false := beq_eq_false_iff_ne.mpr h2
        clear h h2
        generalize spec_Days.tab.getD a1.toNat 0 = r at *
        go_enter Tryz.func40, Tryz.ntmps40
        go_wp2
        go_ret
        exact ⟨rfl, by repeat (first | exact Drawn0.refl _ | apply Drawn0.step)⟩
    · rw [if_neg h1] at h; cases h
  · rw [if_neg h0] at h; cases h
def spec_Weekday.l0 : Nat → Int → Int → Int → Int → Option (Int)
  | 0, _, _, _, _ => none
  | k + 1, x0, x1, x8, x9 => if x9 < x1 then ((spec_Days.f x0 x9).bind fun t159 => (spec_Weekday.l0 k x0 x1 (wrap64 (x8 + t159)) (wrap64 (x9 + 1)))) else (some (Int.tmod x8 7))
def spec_Weekday.f (k : Nat) (a0 : Int) (a1 : Int) (a2 : Int) : Option (Int) := spec_Weekday.l0 k a0 a1 (wrap64 ((wrap64 ((wrap64 ((wrap64 ((wrap64 ((wrap64 (a0 - 1)) * 365)) + (wrap64 (Int.tdiv (wrap64 (a0 - 1)) 4)))) - (wrap64 (Int.tdiv (wrap64 (a0 - 1)) 100)))) + (wrap64 (Int.tdiv (wrap64 (a0 - 1)) 400)))) + a2)) 1
theorem spec_Weekday.mono_l : ∀ k, (∀ y0 y1 y2 y3, LeO (spec_Weekday.l0 k y0 y1 y2 y3) (spec_Weekday.l0 (k + 1) y0 y1 y2 y3))
  | 0 => fun _ _ _ _ r h => by simp [spec_Weekday.l0] at h
  | k + 1 => by
    have ih0 := spec_Weekday.mono_l k
    · intro y0 y1 y2 y3
      unfold spec_Weekday.l0
      repeat' first
      | (with_reducible exact ih0 _ _ _ _)
      | (with_reducible exact LeO.refl _)
      | (with_reducible exact LeO.none _)
      | (with_reducible refine LeO.ite ?_ ?_)
      | (with_reducible refine LeO.bind ?_ (fun _ => ?_))
      | exact ih0 _ _ _ _
      | exact LeO.none _
      | refine LeO.ite ?_ ?_
      | refine LeO.bind ?_ (fun _ => ?_)
theorem spec_Weekday.mono : ∀ a0 a1 a2 k, LeO (spec_Weekday.f k a0 a1 a2) (spec_Weekday.f (k + 1) a0 a1 a2) := by
  intro a0 a1 a2 k
  have ih0 := spec_Weekday.mono_l k
  unfold spec_Weekday.f
  repeat' first
      | (with_reducible exact ih0 _ _ _ _)
      | (with_reducible exact LeO.refl _)
      | (with_reducible exact LeO.none _)
      | (with_reducible refine LeO.ite ?_ ?_)
      | (with_reducible refine LeO.bind ?_ (fun _ => ?_))
      | exact ih0 _ _ _ _
      | exact LeO.none _
      | refine LeO.ite ?_ ?_
      | refine LeO.bind ?_ (fun _ => ?_)
set_option maxHeartbeats 8000000 in
set_option maxRecDepth 100000 in
theorem spec_Weekday.calls (k : Nat) (a0 : Int) (a1 : Int) (a2 : Int) (r : Int) (w : World) (h : spec_Weekday.f k a0 a1 a2 = some r) :
    Calls Tryz.prog 42 #[.int .i64 a0, .int .i64 a1, .int .i64 a2] w fun e w' => e = .returned (.int .i64 r) ∧ Drawn0 w w' := by
 have H : (spec_Weekday.l0 k a0 a1 (wrap64 ((wrap64 ((wrap64 ((wrap64 ((wrap64 ((wrap64 (a0 - 1)) * 365)) + (wrap64 (Int.tdiv (wrap64 (a0 - 1)) 4)))) - (wrap64 (Int.tdiv (wrap64 (a0 - 1)) 100)))) + (wrap64 (Int.tdiv (wrap64 (a0 - 1)) 400)))) + a2)) 1) = some r := h
 clear h
 have H' := Aside0.mk H
 clear H
 go_enter Tryz.func42, Tryz.ntmps42
 go_wp2
 go_loopg [8, 9] k (fun kq v8 v9 w' => ∃ (x8_1 : Int) (x9_1 : Int), v8 = .int .i64 x8_1 ∧ v9 = .int .i64 x9_1 ∧ Aside0 (spec_Weekday.l0 kq a0 a1 x8_1 x9_1 = some r) ∧ Aside0 (kq ≤ k) ∧ Drawn0 w w')
 case atStart => exact ⟨(wrap64 ((wrap64 ((wrap64 ((wrap64 ((wrap64 ((wrap64 (a0 - 1)) * 365)) + (wrap64 (Int.tdiv (wrap64 (a0 - 1)) 4)))) - (wrap64 (Int.tdiv (wrap64 (a0 - 1)) 100)))) + (wrap64 (Int.tdiv (wrap64 (a0 - 1)) 400)))) + a2)), (1), (by first | rfl | (simp; done) | (simp [*]; done)), (by first | rfl | (simp; done) | (simp [*]; done)), H', ⟨Nat.le_refl _⟩, by repeat (first | exact Drawn0.refl _ | apply Drawn0.step)⟩
 case round =>
  clear H'
  obtain ⟨x8_1, x9_1, rfl, rfl, HA, HK1, ⟨m1, rfl⟩⟩ := hrel
  cases gk with
  | zero => exact absurd HA.out (by simp [spec_Weekday.l0])
  | succ k1 =>
   have H := HA.out
   clear HA
   simp only [spec_Weekday.l0] at H
   refine (Classical.em (x9_1 < a1)).elim (fun c4 => ?a1_) (fun c4 => ?b1_)
   case a1_ =>
    rw [if_pos c4] at H
    have c4b0 : decide (x9_1 < a1) = true := decide_eq_true c4
    clear c4
    replace H := Option.bind_eq_some_iff.mp H
    obtain ⟨t159, A50, H⟩ := H
    try dsimp only at H
    have A5 := Aside0.mk A50
    clear A50
    have H' := Aside0.mk H
    clear H
    go_wp2_with (first | ((with_reducible refine gate_callee (f := 40) rfl ?_); refine goesL_ (some 33) rfl rfl Tryz.func40 (by kernel_rfl) rfl #[.int .i64 a0, .int .i64 x9_1] rfl (by (try simp only [List.map_toArray, List.map_cons, List.map_nil]); first | done | rfl | (simp only [List.length_drop, List.length_take]; rfl)) ?_; (with_reducible refine (spec_Days.calls a0 x9_1 t159 _ A5.out).mono ?_); rintro e w' ⟨rfl, ⟨nd, rfl⟩⟩; refine ⟨_, rfl, ?_⟩))
    go_roundg k1
    case measure => have := HK1.out; omega
    case rel => exact ⟨(wrap64 (x8_1 + t159)), (wrap64 (x9_1 + 1)), (by first | rfl | (simp; done) | (simp [*]; done)), (by first | rfl | (simp; done) | (simp [*]; done)), H', ⟨by have := HK1.out; omega⟩, by repeat (first | exact Drawn0.refl _ | apply Drawn0.step)⟩
   case b1_ =>
    rw [if_neg c4] at H
    have c4b0 : decide (x9_1 < a1) = false := decide_eq_false c4
    clear c4
    obtain rfl := Option.some.inj H
    go_wp2
    go_ret
    exact ⟨by first | rfl | (simp; done) | (simp [*]; done), by repeat (first | exact Drawn0.refl _ | apply Drawn0.step)⟩
section
variable {P : Program} {ops : Array Oper} {Q : Exit → Act → World → Prop} {md : Region.Mode} {S : World → Prop}
/-- Of m operations the first n have come up. -/
def up (n m : Nat) : Array Bool := (List.replicate n true ++ List.replicate (m - n) false).toArray
theorem up_set {n m : Nat} (h : n < m) : (up n m).setIfInBounds n true = up (n + 1) m := by
  unfold up
  rw [List.setIfInBounds_toArray, List.set_append, List.length_replicate, if_neg (Nat.lt_irrefl n), Nat.sub_self]
  obtain ⟨j, hj⟩ : ∃ j, m - n = j + 1 := ⟨m - n - 1, by omega⟩
  rw [hj, show m - (n + 1) = j by omega, List.replicate_succ, List.set_cons_zero, List.replicate_succ', List.append_assoc]
  rfl
theorem up_zero (m : Nat) : Array.replicate m false = up 0 m := by
  unfold up
  rw [List.replicate_zero, List.nil_append, Nat.sub_zero, List.toArray_replicate]
theorem up_start {id n : Nat} {a : Act} {w : World} (hm : P.follows .mixedOrders = true) (hn : ops.size = n) (hS : S w.drew)
    (h : S w.drew → wpAnyH P .any ops Q S n (up 0 n) a w.drew) : (Code.region id ops true).wp P Q a w := by
  subst hn
  refine wp_region_held_drew hm hS fun q => ?_
  rw [up_zero]
  exact h q
def noCall (o : Option Oper) : Bool := match o with
  | some o => match o.op with
    | .call _ => false
    | _ => true
  | none => false
def nextB (md : Region.Mode) (ops : Array Oper) (n m : Nat) : Bool := decide (n < m) && Region.noSelect ops && Region.free md ops (up n m) n && (Region.ready md ops (up n m)).contains n
/-- An operation's guard: there is none; it says yes; it says no. -/
theorem wan0 {o : Oper} {y : Nat → Option Bool} (hg : o.guard = none) : Region.wanted o y = true := by
  unfold Region.wanted
  rw [hg]
theorem wan_of {o : Oper} {t : Array Value} {j i : Nat} {b c : Bool} (hg : o.guard = some (j, c)) (hd : (ops[j]?).bind (·.dst) = some i) (ht : t[i]? = some (.bool b)) : Region.wanted o (yielded ops t) = (b == c) := by
  unfold Region.wanted yielded
  rw [hg]
  show ((match ((ops[j]?).bind (·.dst)).bind (t[·]?) with | some (.bool b) => some b | _ => none) == some c) = _
  rw [hd, Option.bind_some, ht]
  cases b <;> cases c <;> rfl
theorem wan1 {o : Oper} {t : Array Value} {j i : Nat} {b : Bool} (hg : o.guard = some (j, b)) (hd : (ops[j]?).bind (·.dst) = some i) (ht : t[i]? = some (.bool b)) : Region.wanted o (yielded ops t) = true := (wan_of hg hd ht).trans (by simp)
theorem wan2 {o : Oper} {t : Array Value} {j i : Nat} {b c : Bool} (hg : o.guard = some (j, c)) (hd : (ops[j]?).bind (·.dst) = some i) (ht : t[i]? = some (.bool b)) (hb : (b == c) = false) : Region.wanted o (yielded ops t) = false := (wan_of hg hd ht).trans hb
/-- The next one, as written, is taken: it yields its value in every world that meets S; or its guard is off. -/
theorem next_ {n m : Nat} {oi : Oper} {v : Value} {fuel : Nat} {a : Act} {w : World} (hi : ops[n]? = some oi) (hc : nextB md ops n m = true)
    (hQ : ∀ c a w, Q (.panic c) (a.put oi.dst v) w → Q (.panic c) a w) (hy : YieldsIf P ops S oi v a) (hS : S w)
    (h : wpAnyH P md ops Q S fuel (up (n + 1) m) (a.put oi.dst v) w) : wpAnyH P md ops Q S (fuel + 1) (up n m) a w := by
  simp only [nextB, Bool.and_eq_true, decide_eq_true_eq] at hc
  obtain ⟨⟨⟨h1, h2⟩, h3⟩, h4⟩ := hc
  exact wpAnyH_take hi h2 h3 h4 hQ hy hS (by rw [up_set h1]; exact h)
/-- The same at an operation that is no call. -/
theorem nextc_ {n m : Nat} {oi : Oper} {v : Value} {fuel : Nat} {a : Act} {w : World} (hi : ops[n]? = some oi) (hc : (noCall ops[n]? && nextB md ops n m) = true)
    (hQ : ∀ c a w, Q (.panic c) (a.put oi.dst v) w → Q (.panic c) a w) (hy : YieldsIf P ops S oi v a) (hS : S w)
    (h : wpAnyH P md ops Q S fuel (up (n + 1) m) (a.put oi.dst v) w) : wpAnyH P md ops Q S (fuel + 1) (up n m) a w :=
  next_ hi (Bool.and_eq_true _ _ ▸ hc).2 hQ hy hS h
/-- The next one is the only one that may come up. -/
theorem only_ {n m : Nat} {oi : Oper} {fuel : Nat} {a : Act} {w : World} (hi : ops[n]? = some oi) (hc : (decide (n < m) && (Region.ready md ops (up n m) == [n])) = true) (hw : Region.wanted oi (yielded ops a.tmps) = true)
    (h : ∀ K : Act → World → Prop, Shut (∀ a' w', S w' → (S w' → wpAnyH P md ops Q S fuel (up (n + 1) m) a' w') → K a' w') → Oper.wp P oi a w K Q) :
    wpAnyH P md ops Q S (fuel + 1) (up n m) a w := by
  simp only [Bool.and_eq_true, decide_eq_true_eq, beq_iff_eq] at hc
  exact wpAnyH_ready hc.2 (by simp) (AllReadyH.cons hi (fun K hK => by rw [if_pos hw]; exact h K (by rw [← up_set hc.1]; exact hK)) AllReadyH.nil)
theorem all_up {n m fuel : Nat} {a : Act} {w : World} (hr : (Region.ready md ops (up n m) == []) = true) (h : Q .normal a w) : wpAnyH P md ops Q S fuel (up n m) a w := wpAnyH_done (by simpa using hr) h fuel
end
theorem calls_quiet {P : Program} {f : FuncId} {args : Array Value} {w : World} {n : Nat} {v : Value} (h : Calls P f args (w.drewN n) fun e w' => e = .returned v ∧ Drawn0 (w.drewN n) w') : Calls P f args (w.drewN n) fun e w'' => e = .returned v ∧ ∃ m, w'' = w.drewN m := h.mono fun _ _ ⟨he, ⟨⟨m, hm⟩⟩⟩ => ⟨he, n + m, by rw [hm, World.drewN_drewN]⟩
def spec_MomentGood.f (a0_0 : Int) (a0_1 : Int) (a0_2 : Int) (a0_3 : Int) (a0_4 : Int) (a0_5 : Int) : Option Bool := if 1990 ≤ a0_0 then (if a0_0 ≤ 2090 then (if 1 ≤ a0_1 then (if a0_1 ≤ 12 then (if 1 ≤ a0_2 then ((spec_Days.f a0_0 a0_1).bind fun n_ => (if a0_2 ≤ n_ then (if 0 ≤ a0_3 then (if a0_3 ≤ 23 then (if 0 ≤ a0_4 then (if a0_4 ≤ 59 then (if 0 ≤ a0_5 then (if a0_5 ≤ 59 then (some true) else (some false)) else (some false)) else (some false)) else (some false)) else (some false)) else (some false)) else (some false))) else (some false)) else (some false)) else (some false)) else (some false)) else (some false)
set_option maxRecDepth 100000 in
set_option maxHeartbeats 8000000 in
theorem spec_MomentGood.calls (a0_0 : Int) (a0_1 : Int) (a0_2 : Int) (a0_3 : Int) (a0_4 : Int) (a0_5 : Int) (r : Bool) (w : World) (h : spec_MomentGood.f a0_0 a0_1 a0_2 a0_3 a0_4 a0_5 = some r) :
    Calls Tryz.prog 26 #[.agg #[.int .i64 a0_0, .int .i64 a0_1, .int .i64 a0_2, .int .i64 a0_3, .int .i64 a0_4, .int .i64 a0_5]] w fun e w' => e = .returned (.bool r) ∧ Below w.heap.size w w' := by
 have hu33 := Tryz.underlying33
 unfold spec_MomentGood.f at h
 refine (Classical.em (1990 ≤ a0_0)).elim (fun c1 => ?a1_) (fun c1 => ?b1_)
 case' a1_ =>
  rw [if_pos c1] at h
  refine (Classical.em (a0_0 ≤ 2090)).elim (fun c2 => ?a2_) (fun c2 => ?b2_)
 case' a2_ =>
  rw [if_pos c2] at h
  refine (Classical.em (1 ≤ a0_1)).elim (fun c3 => ?a3_) (fun c3 => ?b3_)
 case' a3_ =>
  rw [if_pos c3] at h
  refine (Classical.em (a0_1 ≤ 12)).elim (fun c4 => ?a4_) (fun c4 => ?b4_)
 case' a4_ =>
  rw [if_pos c4] at h
  refine (Classical.em (1 ≤ a0_2)).elim (fun c5 => ?a5_) (fun c5 => ?b5_)
 case' a5_ =>
  rw [if_pos c5] at h
  obtain ⟨n_, hD, h⟩ := Option.bind_eq_some_iff.mp h
  have HD := Aside0.mk hD
  clear hD
  refine (Classical.em (a0_2 ≤ n_)).elim (fun c6 => ?a6_) (fun c6 => ?b6_)
 case' a6_ =>
  rw [if_pos c6] at h
  refine (Classical.em (0 ≤ a0_3)).elim (fun c7 => ?a7_) (fun c7 => ?b7_)
 case' a7_ =>
  rw [if_pos c7] at h
  refine (Classical.em (a0_3 ≤ 23)).elim (fun c8 => ?a8_) (fun c8 => ?b8_)
 case' a8_ =>
  rw [if_pos c8] at h
  refine (Classical.em (0 ≤ a0_4)).elim (fun c9 => ?a9_) (fun c9 => ?b9_)
 case' a9_ =>
  rw [if_pos c9] at h
  refine (Classical.em (a0_4 ≤ 59)).elim (fun c10 => ?a10_) (fun c10 => ?b10_)
 case' a10_ =>
  rw [if_pos c10] at h
  refine (Classical.em (0 ≤ a0_5)).elim (fun c11 => ?a11_) (fun c11 => ?b11_)
 case' a11_ =>
  rw [if_pos c11] at h
  refine (Classical.em (a0_5 ≤ 59)).elim (fun c12 => ?a12_) (fun c12 => ?b12_)
 case a12_ =>
  rw [if_pos c12] at h
  obtain rfl := Option.some.inj h
  clear h
  go_enter Tryz.func26, Tryz.ntmps26
  go_wp2
  go_quiet ((go_at_call 40; exact calls_quiet (spec_Days.calls a0_0 a0_1 _ _ HD.out)))
  go_wp2
  go_ret
  exact ⟨rfl, by repeat (first | exact Below.refl _ _ | apply below_alloc | apply pw_below_drewN | apply below_drew1)⟩
 case b12_ =>
  rw [if_neg c12] at h
  have cb : decide (a0_5 ≤ 59) = false := decide_eq_false c12
  obtain rfl := Option.some.inj h
  clear h
  go_enter Tryz.func26, Tryz.ntmps26
  go_wp2
  go_quiet ((go_at_call 40; exact calls_quiet (spec_Days.calls a0_0 a0_1 _ _ HD.out)))
  go_wp2
  go_ret
  exact ⟨rfl, by repeat (first | exact Below.refl _ _ | apply below_alloc | apply pw_below_drewN | apply below_drew1)⟩
 case b11_ =>
  rw [if_neg c11] at h
  have cb : decide (0 ≤ a0_5) = false := decide_eq_false c11
  obtain rfl := Option.some.inj h
  clear h
  go_enter Tryz.func26, Tryz.ntmps26
  go_wp2
  go_quiet ((go_at_call 40; exact calls_quiet (spec_Days.calls a0_0 a0_1 _ _ HD.out)))
  go_wp2
  go_ret
  exact ⟨rfl, by repeat (first | exact Below.refl _ _ | apply below_alloc | apply pw_below_drewN | apply below_drew1)⟩
 case b10_ =>
  rw [if_neg c10] at h
  have cb : decide (a0_4 ≤ 59) = false := decide_eq_false c10
  obtain rfl := Option.some.inj h
  clear h
  go_enter Tryz.func26, Tryz.ntmps26
  go_wp2
  go_quiet ((go_at_call 40; exact calls_quiet (spec_Days.calls a0_0 a0_1 _ _ HD.out)))
  go_wp2
  go_ret
  exact ⟨rfl, by repeat (first | exact Below.refl _ _ | apply below_alloc | apply pw_below_drewN | apply below_drew1)⟩
 case b9_ =>
  rw [if_neg c9] at h
  have cb : decide (0 ≤ a0_4) = false := decide_eq_false c9
  obtain rfl := Option.some.inj h
  clear h
  go_enter Tryz.func26, Tryz.ntmps26
  go_wp2
  go_quiet ((go_at_call 40; exact calls_quiet (spec_Days.calls a0_0 a0_1 _ _ HD.out)))
  go_wp2
  go_ret
  exact ⟨rfl, by repeat (first | exact Below.refl _ _ | apply below_alloc | apply pw_below_drewN | apply below_drew1)⟩
 case b8_ =>
  rw [if_neg c8] at h
  have cb : decide (a0_3 ≤ 23) = false := decide_eq_false c8
  obtain rfl := Option.some.inj h
  clear h
  go_enter Tryz.func26, Tryz.ntmps26
  go_wp2
  go_quiet ((go_at_call 40; exact calls_quiet (spec_Days.calls a0_0 a0_1 _ _ HD.out)))
  go_wp2
  go_ret
  exact ⟨rfl, by repeat (first | exact Below.refl _ _ | apply below_alloc | apply pw_below_drewN | apply below_drew1)⟩
 case b7_ =>
  rw [if_neg c7] at h
  have cb : decide (0 ≤ a0_3) = false := decide_eq_false c7
  obtain rfl := Option.some.inj h
  clear h
  go_enter Tryz.func26, Tryz.ntmps26
  go_wp2
  go_quiet ((go_at_call 40; exact calls_quiet (spec_Days.calls a0_0 a0_1 _ _ HD.out)))
  go_wp2
  go_ret
  exact ⟨rfl, by repeat (first | exact Below.refl _ _ | apply below_alloc | apply pw_below_drewN | apply below_drew1)⟩
 case b6_ =>
  rw [if_neg c6] at h
  have cb : decide (a0_2 ≤ n_) = false := decide_eq_false c6
  obtain rfl := Option.some.inj h
  clear h
  go_enter Tryz.func26, Tryz.ntmps26
  go_wp2
  go_quiet ((go_at_call 40; exact calls_quiet (spec_Days.calls a0_0 a0_1 _ _ HD.out)))
  go_wp2
  go_ret
  exact ⟨rfl, by repeat (first | exact Below.refl _ _ | apply below_alloc | apply pw_below_drewN | apply below_drew1)⟩
 case b5_ =>
  rw [if_neg c5] at h
  have cb : decide (1 ≤ a0_2) = false := decide_eq_false c5
  obtain rfl := Option.some.inj h
  clear h
  go_enter Tryz.func26, Tryz.ntmps26
  go_wp2
  go_quiet (fail)
  go_wp2
  go_ret
  exact ⟨rfl, by repeat (first | exact Below.refl _ _ | apply below_alloc | apply pw_below_drewN | apply below_drew1)⟩
 case b4_ =>
  rw [if_neg c4] at h
  have cb : decide (a0_1 ≤ 12) = false := decide_eq_false c4
  obtain rfl := Option.some.inj h
  clear h
  go_enter Tryz.func26, Tryz.ntmps26
  go_wp2
  go_quiet (fail)
  go_wp2
  go_ret
  exact ⟨rfl, by repeat (first | exact Below.refl _ _ | apply below_alloc | apply pw_below_drewN | apply below_drew1)⟩
 case b3_ =>
  rw [if_neg c3] at h
  have cb : decide (1 ≤ a0_1) = false := decide_eq_false c3
  obtain rfl := Option.some.inj h
  clear h
  go_enter Tryz.func26, Tryz.ntmps26
  go_wp2
  go_quiet (fail)
  go_wp2
  go_ret
  exact ⟨rfl, by repeat (first | exact Below.refl _ _ | apply below_alloc | apply pw_below_drewN | apply below_drew1)⟩
 case b2_ =>
  rw [if_neg c2] at h
  have cb : decide (a0_0 ≤ 2090) = false := decide_eq_false c2
  obtain rfl := Option.some.inj h
  clear h
  go_enter Tryz.func26, Tryz.ntmps26
  go_wp2
  go_quiet (fail)
  go_wp2
  go_ret
  exact ⟨rfl, by repeat (first | exact Below.refl _ _ | apply below_alloc | apply pw_below_drewN | apply below_drew1)⟩
 case b1_ =>
  rw [if_neg c1] at h
  have cb : decide (1990 ≤ a0_0) = false := decide_eq_false c1
  obtain rfl := Option.some.inj h
  clear h
  go_enter Tryz.func26, Tryz.ntmps26
  go_wp2
  go_quiet (fail)
  go_wp2
  go_ret
  exact ⟨rfl, by repeat (first | exact Below.refl _ _ | apply below_alloc | apply pw_below_drewN | apply below_drew1)⟩
theorem setCell_drewN (w : World) (n : Nat) (a : Addr) (v : Value) : (w.drewN n).setCell a v = (w.setCell a v).drewN n := rfl
attribute [local go_sem] setCell_drewN
def spec_DayNext.f (a0_0 : Int) (a0_1 : Int) (a0_2 : Int) (a0_3 : Int) (a0_4 : Int) (a0_5 : Int) : Option (Int × Int × Int × Int × Int × Int) :=
  if -100000 ≤ a0_0 ∧ a0_0 ≤ 100000 ∧ 1 ≤ a0_1 ∧ a0_1 ≤ 12 ∧ 0 ≤ a0_2 ∧ a0_2 ≤ 31 then (spec_Days.f a0_0 a0_1).bind fun n => (if a0_2 + 1 ≤ n then some (a0_0, a0_1, a0_2 + 1, 0, 0, 0) else if a0_1 + 1 ≤ 12 then some (a0_0, a0_1 + 1, 1, 0, 0, 0) else some (a0_0 + 1, 1, 1, 0, 0, 0)) else none
set_option maxRecDepth 100000 in
set_option maxHeartbeats 2000000 in
theorem spec_DayNext.calls (a0_0 : Int) (a0_1 : Int) (a0_2 : Int) (a0_3 : Int) (a0_4 : Int) (a0_5 : Int) (r1 : Int) (r2 : Int) (r3 : Int) (r4 : Int) (r5 : Int) (r6 : Int) (w : World) (h : spec_DayNext.f a0_0 a0_1 a0_2 a0_3 a0_4 a0_5 = some (r1, r2, r3, r4, r5, r6)) :
    Calls Tryz.prog 29 #[.agg #[.int .i64 a0_0, .int .i64 a0_1, .int .i64 a0_2, .int .i64 a0_3, .int .i64 a0_4, .int .i64 a0_5]] w fun e w' => e = .returned (.agg #[.int .i64 r1, .int .i64 r2, .int .i64 r3, .int .i64 r4, .int .i64 r5, .int .i64 r6]) ∧ Below w.heap.size w w' := by
 have hu33 := Tryz.underlying33
 unfold spec_DayNext.f at h
 split at h
 ·
  rename_i hb
  obtain ⟨b1, b2, b3, b4, b5, b6⟩ := hb
  obtain ⟨n, hD, h⟩ := Option.bind_eq_some_iff.mp h
  have HD := Aside0.mk hD
  clear hD
  split at h
  ·
   rename_i c1
   have c1b : decide (n < a0_2 + 1) = false := decide_eq_false (by omega)
   cases h
   go_enter Tryz.func29, Tryz.ntmps29
   go_wp2
   refine bodyPost_ret (v := .agg #[.int .i64 a0_0, .int .i64 a0_1, .int .i64 a0_2, .int .i64 0, .int .i64 0, .int .i64 0]) (by simp [results, Tryz.results20, go_sem]) rfl ?_
   go_wp2
   go_quiet ((go_at_call 40; exact calls_quiet (spec_Days.calls a0_0 a0_1 _ _ HD.out)))
   go_wp2
   refine bodyPost_ret (v := .agg #[.int .i64 a0_0, .int .i64 a0_1, .int .i64 (a0_2 + 1), .int .i64 0, .int .i64 0, .int .i64 0]) (by simp [results, Tryz.results29, go_sem]) rfl ⟨rfl, ?_⟩
   repeat (with_reducible first | exact Below.refl _ _ | apply below_alloc | apply pw_below_drewN | apply below_drew1 | refine below_set ?_ (by omega))
  ·
   have c1b : decide (n < a0_2 + 1) = true := decide_eq_true (by omega)
   split at h
   ·
    rename_i c1
    have c2b : decide (12 < a0_1 + 1) = false := decide_eq_false (by omega)
    cases h
    go_enter Tryz.func29, Tryz.ntmps29
    go_wp2
    refine bodyPost_ret (v := .agg #[.int .i64 a0_0, .int .i64 a0_1, .int .i64 a0_2, .int .i64 0, .int .i64 0, .int .i64 0]) (by simp [results, Tryz.results20, go_sem]) rfl ?_
    go_wp2
    go_quiet ((go_at_call 40; exact calls_quiet (spec_Days.calls a0_0 a0_1 _ _ HD.out)))
    go_wp2
    refine bodyPost_ret (v := .agg #[.int .i64 a0_0, .int .i64 (a0_1 + 1), .int .i64 1, .int .i64 0, .int .i64 0, .int .i64 0]) (by simp [results, Tryz.results29, go_sem]) rfl ⟨rfl, ?_⟩
    repeat (with_reducible first | exact Below.refl _ _ | apply below_alloc | apply pw_below_drewN | apply below_drew1 | refine below_set ?_ (by omega))
   ·
    rename_i c1
    have c2b : decide (12 < a0_1 + 1) = true := decide_eq_true (by omega)
    cases h
    go_enter Tryz.func29, Tryz.ntmps29
    go_wp2
    refine bodyPost_ret (v := .agg #[.int .i64 a0_0, .int .i64 a0_1, .int .i64 a0_2, .int .i64 0, .int .i64 0, .int .i64 0]) (by simp [results, Tryz.results20, go_sem]) rfl ?_
    go_wp2
    go_quiet ((go_at_call 40; exact calls_quiet (spec_Days.calls a0_0 a0_1 _ _ HD.out)))
    go_wp2
    refine bodyPost_ret (v := .agg #[.int .i64 (a0_0 + 1), .int .i64 1, .int .i64 1, .int .i64 0, .int .i64 0, .int .i64 0]) (by simp [results, Tryz.results29, go_sem]) rfl ⟨rfl, ?_⟩
    repeat (with_reducible first | exact Below.refl _ _ | apply below_alloc | apply pw_below_drewN | apply below_drew1 | refine below_set ?_ (by omega))
 ·
  cases h
end Go.Proofs.YtjpcdkhapeejjaaGreatDoor.A
