/- Steps of the proof of the law: contracts of functions of the given program, and plain lemmas about what they compute.
Conditions: none beyond those that each theorem names. -/
import Derived.Test.YtjpcdkhapeejjaaGreatDoorK02
set_option linter.unusedVariables false
set_option linter.unusedSimpArgs false
section
namespace Go.Proofs.YtjpcdkhapeejjaaGreatDoor.A
open Go.RowKit Go.Proofs.YtjpcdkhapeejjaaGreatDoorW.PrintWords Go.Proofs.YtjpcdkhapeejjaaGreatDoorW.PrintLast Go.Proofs.YtjpcdkhapeejjaaGreatDoorW.PrintMore
mutual
def laws_expr.l0 : Nat → List (List (S53)) → Int → Int → List (List (S54)) → Bool → Option ((List (List (S54))) × Bool)
  | 0, _, _, _, _, _ => none
  | k + 1, x13, x14, x15, x107000, x107001 => if x15 < x14 then (if 0 ≤ x15 then (if x15 < (x13.length : Int) then (laws_expr.l1 k (([] : List (S54))) x13 x14 x15 (rd_L3 x13 x15) ((rd_L3 x13 x15).length : Int) 0 x107000 x107001) else (none)) else (none)) else (some (x107000, x107001))
def laws_expr.l1 : Nat → List (S54) → List (List (S53)) → Int → Int → List (S53) → Int → Int → List (List (S54)) → Bool → Option ((List (List (S54))) × Bool)
  | 0, _, _, _, _, _, _, _, _, _ => none
  | k + 1, x6, x13, x14, x15, x20, x21, x22, x107000, x107001 => if x22 < x21 then (if 0 ≤ x22 then (if x22 < (x20.length : Int) then (if x6.length < 4398046511104 then (laws_expr.l1 k (x6 ++ [(⟨(rd_T53 x20 x22).f0, (rd_T53 x20 x22).f1, (rd_T53 x20 x22).f2, (rd_T53 x20 x22).f3⟩ : S54)]) x13 x14 x15 x20 x21 (wrap64 (x22 + 1)) x107000 x107001) else (none)) else (none)) else (none)) else (if x107000.length < 5864062014805 then (laws_expr.l0 k x13 x14 (wrap64 (x15 + 1)) (x107000 ++ [x6]) x107001) else (none))
end
def laws_expr.f (k : Nat) (l0_0 : List (List (S53))) (a0_1 : Bool) : Option ((List (List (S54))) × Bool) := laws_expr.l0 k l0_0 (l0_0.length : Int) 0 ([] : List (List (S54))) a0_1
set_option maxHeartbeats 8000000 in
set_option maxRecDepth 100000 in
theorem laws_expr.calls (k : Nat) (A0_0 : Option Addr) (c0_0 : Nat) (l0_0 : List (List (S53))) (a0_1 : Bool) (r1 : List (List (S54))) (r2 : Bool) (w : World) (hr0_0 : Kd.C (Kd.slice 53 k53) w A0_0 l0_0.length l0_0) (hc0_0 : l0_0.length ≤ c0_0) (h : laws_expr.f k l0_0 a0_1 = some (r1, r2)) :
    Calls Tryz.prog 11 #[.agg #[.slice A0_0 l0_0.length c0_0, .bool a0_1]] w fun e w' => ∃ v0_ : Value, e = .returned (.agg #[v0_, .bool r2]) ∧ Kd.S (Kd.slice 54 k54) 51 w' w.heap.size (fun _ => True) v0_ r1 ∧ Below w.heap.size w w' := by
 have hu24 := Tryz.underlying24
 have hu30 := Tryz.underlying30
 have hu53 := Tryz.underlying53
 have hu54 := Tryz.underlying54
 have HR0_0 := Aside0.mk hr0_0
 have HC0_0 := Aside0.mk hc0_0
 clear hr0_0 hc0_0
 have HB := Aside0.mk (Below.refl w.heap.size w)
 have H : (laws_expr.l0 k l0_0 (l0_0.length : Int) 0 ([] : List (List (S54))) a0_1) = some (r1, r2) := h
 clear h
 have H' := Aside0.mk H
 clear H
 go_enter Tryz.func11, Tryz.ntmps11
 go_wp2_with (first | ((with_reducible refine gate_dst (N := 1) rfl ?_); refine box_event ?hg (N := 1) ?hd (cs := #[.slice A0_0 l0_0.length c0_0, .bool a0_1]) (t := 24) ?hr ?_; (case hd => rfl); (case hg => rfl); (case hr => first | (go_simp; done) | (go_simp; rfl)); intro gb104 hg w2 hbox hb; have n0_ := Aside0.mk (below_step (by repeat (with_reducible first | exact HB.out | apply below_alloc | apply pw_below_drewN | apply below_drew1)) hb); have n1_ := Aside0.mk (hbox); have n2_ := Aside0.mk ((by rw [hg]; exact (below_size (by repeat (with_reducible first | exact HB.out | apply below_alloc | apply pw_below_drewN | apply below_drew1))) : w.heap.size ≤ gb104)); have n3_ := Aside0.mk ((by rw [hg]; exact (below_size (by repeat (with_reducible first | exact HB.out | apply below_alloc | apply pw_below_drewN | apply below_drew1))) : w.heap.size ≤ gb104)); clear HB; have HB := n0_; have BK104 := n1_; have GW104 := n2_; have GE104 := n3_; clear n0_ n1_ n2_ n3_; clear hb hbox hg) | ((with_reducible refine gate_dst (N := 2) rfl ?_); refine box_event ?hg (N := 2) ?hd (cs := #[.slice none 0 0, .bool false]) (t := 30) ?hr ?_; (case hd => rfl); (case hg => rfl); (case hr => first | (go_simp; done) | (go_simp; rfl)); intro gb105 hg w3 hbox hb; have n0_ := Aside0.mk (blk_below (g := gb104) (o := .cells #[.slice A0_0 l0_0.length c0_0, .bool a0_1] 24 (0, 0)) (by (with_reducible repeat (first | refine blk_drewN ?_ _ | refine blk_drew ?_ | refine blk_alloc ?_ _)); exact BK104.out) hb); have n1_ := Aside0.mk (below_step (by repeat (with_reducible first | exact HB.out | apply below_alloc | apply pw_below_drewN | apply below_drew1 | refine below_set ?_ GE104.out)) hb); have n2_ := Aside0.mk (hbox); have n3_ := Aside0.mk ((by rw [hg]; exact (below_size (by repeat (with_reducible first | exact HB.out | apply below_alloc | apply pw_below_drewN | apply below_drew1 | refine below_set ?_ GE104.out))) : w.heap.size ≤ gb105)); have n4_ := Aside0.mk ((by rw [hg]; exact (below_size (by repeat (with_reducible first | exact HB.out | apply below_alloc | apply pw_below_drewN | apply below_drew1 | refine below_set ?_ GE104.out))) : w.heap.size ≤ gb105)); have n5_ := Aside0.mk ((by rw [hg]; exact Nat.ne_of_lt (blk_lt (g := gb104) (o := .cells #[.slice A0_0 l0_0.length c0_0, .bool a0_1] 24 (0, 0)) (by (with_reducible repeat (first | refine blk_drewN ?_ _ | refine blk_drew ?_ | refine blk_alloc ?_ _)); exact BK104.out)) : gb104 ≠ gb105)); have n6_ := Aside0.mk ((by rw [hg]; exact Nat.ne_of_gt (blk_lt (g := gb104) (o := .cells #[.slice A0_0 l0_0.length c0_0, .bool a0_1] 24 (0, 0)) (by (with_reducible repeat (first | refine blk_drewN ?_ _ | refine blk_drew ?_ | refine blk_alloc ?_ _)); exact BK104.out)) : gb105 ≠ gb104)); clear BK104; clear HB; have BK104 := n0_; have HB := n1_; have BK105 := n2_; have GW105 := n3_; have GE105 := n4_; have NB104_105 := n5_; have NB105_104 := n6_; clear n0_ n1_ n2_ n3_ n4_ n5_ n6_; clear hb hbox hg; have hnb4 := NB104_105.out; have hnc4 := NB105_104.out; have hcz5_0 : w3.cell? ⟨gb104, 0, none⟩ = some (.slice A0_0 l0_0.length c0_0) := (blk_cell BK104.out 0).trans rfl; have hcz5_1 : w3.cell? ⟨gb104, 1, none⟩ = some (.bool a0_1) := (blk_cell BK104.out 1).trans rfl; have hfz5_0 := blk_frozen BK104.out 0; have hfz5_1 := blk_frozen BK104.out 1) | ((with_reducible refine gate_dst (N := 3) rfl ?_); refine box_event ?hg (N := 3) ?hd (cs := #[.slice none 0 0, .bool false]) (t := 30) ?hr ?_; (case hd => rfl); (case hg => rfl); (case hr => first | (go_simp; done) | (go_simp; rfl)); intro gb106 hg w6 hbox hb; have n0_ := Aside0.mk (blk_below (g := gb104) (o := .cells #[.slice A0_0 l0_0.length c0_0, .bool a0_1] 24 (0, 0)) (by (with_reducible repeat (first | refine blk_drewN ?_ _ | refine blk_drew ?_ | refine blk_alloc ?_ _)); exact BK104.out) hb); have n1_ := Aside0.mk (blk_below (g := gb105) (o := .cells #[.slice none 0 0, .bool false] 30 (0, 0)) (by (with_reducible repeat (first | refine blk_drewN ?_ _ | refine blk_drew ?_ | refine blk_alloc ?_ _)); exact BK105.out) hb); have n2_ := Aside0.mk (below_step (by repeat (with_reducible first | exact HB.out | apply below_alloc | apply pw_below_drewN | apply below_drew1 | refine below_set ?_ GE104.out | refine below_set ?_ GE105.out)) hb); have n3_ := Aside0.mk (hbox); have n4_ := Aside0.mk ((by rw [hg]; exact (below_size (by repeat (with_reducible first | exact HB.out | apply below_alloc | apply pw_below_drewN | apply below_drew1 | refine below_set ?_ GE104.out | refine below_set ?_ GE105.out))) : w.heap.size ≤ gb106)); have n5_ := Aside0.mk ((by rw [hg]; exact (below_size (by repeat (with_reducible first | exact HB.out | apply below_alloc | apply pw_below_drewN | apply below_drew1 | refine below_set ?_ GE104.out | refine below_set ?_ GE105.out))) : w.heap.size ≤ gb106)); have n6_ := Aside0.mk ((by rw [hg]; exact Nat.ne_of_lt (blk_lt (g := gb104) (o := .cells #[.slice A0_0 l0_0.length c0_0, .bool a0_1] 24 (0, 0)) (by (with_reducible repeat (first | refine blk_drewN ?_ _ | refine blk_drew ?_ | refine blk_alloc ?_ _)); exact BK104.out)) : gb104 ≠ gb106)); have n7_ := Aside0.mk ((by rw [hg]; exact Nat.ne_of_gt (blk_lt (g := gb104) (o := .cells #[.slice A0_0 l0_0.length c0_0, .bool a0_1] 24 (0, 0)) (by (with_reducible repeat (first | refine blk_drewN ?_ _ | refine blk_drew ?_ | refine blk_alloc ?_ _)); exact BK104.out)) : gb106 ≠ gb104)); have n8_ := Aside0.mk ((by rw [hg]; exact Nat.ne_of_lt (blk_lt (g := gb105) (o := .cells #[.slice none 0 0, .bool false] 30 (0, 0)) (by (with_reducible repeat (first | refine blk_drewN ?_ _ | refine blk_drew ?_ | refine blk_alloc ?_ _)); exact BK105.out)) : gb105 ≠ gb106)); have n9_ := Aside0.mk ((by rw [hg]; exact Nat.ne_of_gt (blk_lt (g := gb105) (o := .cells #[.slice none 0 0, .bool false] 30 (0, 0)) (by (with_reducible repeat (first | refine blk_drewN ?_ _ | refine blk_drew ?_ | refine blk_alloc ?_ _)); exact BK105.out)) : gb106 ≠ gb105)); clear BK104; clear BK105; clear HB; have BK104 := n0_; have BK105 := n1_; have HB := n2_; have BK106 := n3_; have GW106 := n4_; have GE106 := n5_; have NB104_106 := n6_; have NB106_104 := n7_; have NB105_106 := n8_; have NB106_105 := n9_; clear n0_ n1_ n2_ n3_ n4_ n5_ n6_ n7_ n8_ n9_; clear hb hbox hg; have hnb7 := NB106_104.out; have hnc7 := NB104_106.out; have hnb8 := NB106_105.out; have hnc8 := NB105_106.out; have hcz9_0 : w6.cell? ⟨gb106, 0, none⟩ = some (.slice none 0 0) := (blk_cell BK106.out 0).trans rfl; have hcz9_1 : w6.cell? ⟨gb106, 1, none⟩ = some (.bool false) := (blk_cell BK106.out 1).trans rfl; have hfz9_0 := blk_frozen BK106.out 0; have hfz9_1 := blk_frozen BK106.out 1; have hcz10_0 : w6.cell? ⟨gb104, 0, none⟩ = some (.slice A0_0 l0_0.length c0_0) := (blk_cell BK104.out 0).trans rfl; have hcz10_1 : w6.cell? ⟨gb104, 1, none⟩ = some (.bool a0_1) := (blk_cell BK104.out 1).trans rfl; have hfz10_0 := blk_frozen BK104.out 0; have hfz10_1 := blk_frozen BK104.out 1))
 go_loopg [15] k (fun kq v15 w' => ∃ (x15_1 : Int) (x107000_1 : List (List (S54))) (u107000 : Value), v15 = .int .i64 x15_1 ∧ Aside0 (laws_expr.l0 kq l0_0 (l0_0.length : Int) x15_1 x107000_1 a0_1 = some (r1, r2)) ∧ Aside0 (kq ≤ k) ∧ Aside0 (Kd.S (Kd.slice 54 k54) 51 w' w.heap.size (fun _ => True) u107000 x107000_1) ∧ Aside0 (w'.heap[gb104]? = some (.cells #[(.slice A0_0 l0_0.length c0_0), .bool a0_1] 24 (0, 0))) ∧ Aside0 (w'.heap[gb105]? = some (.cells #[(.slice none 0 0), .bool false] 30 (0, 0))) ∧ Aside0 (w'.heap[gb106]? = some (.cells #[u107000, .bool a0_1] 30 (0, 0))) ∧ Aside0 (Below w.heap.size w w'))
 case atStart => exact ⟨(0), (([] : List (List (S54)))), (.slice none 0 0), (by first | rfl | (simp; done) | (simp [*]; done)), H', ⟨Nat.le_refl _⟩, ⟨by first | exact Kd.S_nil _ _ _ _ _ | exact Kd.N_nil _ _ _ _ _ | exact Kd.V_nil _ _ _ _ _ | exact Kd.Q_nil _ _ _ _ _ | exact Kd.R_nil _ _ _ _ _⟩, ⟨by (with_reducible repeat (first | refine blk_drewN ?_ _ | refine blk_drew ?_ | refine blk_alloc ?_ _)); refine blk_far ?_ NB104_106.out _; (with_reducible repeat (first | refine blk_drewN ?_ _ | refine blk_drew ?_ | refine blk_alloc ?_ _)); refine blk_far ?_ NB104_106.out _; (with_reducible repeat (first | refine blk_drewN ?_ _ | refine blk_drew ?_ | refine blk_alloc ?_ _)); exact BK104.out⟩, ⟨by (with_reducible repeat (first | refine blk_drewN ?_ _ | refine blk_drew ?_ | refine blk_alloc ?_ _)); refine blk_far ?_ NB105_106.out _; (with_reducible repeat (first | refine blk_drewN ?_ _ | refine blk_drew ?_ | refine blk_alloc ?_ _)); refine blk_far ?_ NB105_106.out _; (with_reducible repeat (first | refine blk_drewN ?_ _ | refine blk_drew ?_ | refine blk_alloc ?_ _)); exact BK105.out⟩, ⟨by (with_reducible repeat (first | refine blk_drewN ?_ _ | refine blk_drew ?_ | refine blk_alloc ?_ _)); refine blk_put (cs := #[.slice none 0 0, .bool false]) ?_ 1 _ rfl; (with_reducible repeat (first | refine blk_drewN ?_ _ | refine blk_drew ?_ | refine blk_alloc ?_ _)); refine blk_put (cs := #[.slice none 0 0, .bool false]) ?_ 0 _ rfl; (with_reducible repeat (first | refine blk_drewN ?_ _ | refine blk_drew ?_ | refine blk_alloc ?_ _)); exact BK106.out⟩, ⟨by repeat (with_reducible first | exact HB.out | apply below_alloc | apply pw_below_drewN | apply below_drew1 | refine below_set ?_ GE104.out | refine below_set ?_ GE105.out | refine below_set ?_ GE106.out)⟩⟩
 case round =>
  clear H'
  try clear hcz10_0
  try clear hcz10_1
  try clear hcz5_0
  try clear hcz5_1
  try clear hcz9_0
  try clear hcz9_1
  try clear hfz10_0
  try clear hfz10_1
  try clear hfz5_0
  try clear hfz5_1
  try clear hfz9_0
  try clear hfz9_1
  obtain ⟨x15_1, x107000_1, u107000, rfl, HA, HK1, HO_107000, BK104, BK105, BK106, HB⟩ := hrel
  cases gk with
  | zero => exact absurd HA.out (by simp [laws_expr.l0])
  | succ k1 =>
   have H := HA.out
   clear HA
   simp only [laws_expr.l0] at H
   refine (Classical.em (x15_1 < (l0_0.length : Int))).elim (fun c11 => ?a1_) (fun c11 => ?b1_)
   case' a1_ =>
    rw [if_pos c11] at H
    have c11b0 : decide (x15_1 < (l0_0.length : Int)) = true := decide_eq_true c11
    clear c11
    refine (Classical.em (0 ≤ x15_1)).elim (fun c12 => ?a2_) (fun c12 => ?b2_)
   case' a2_ =>
    rw [if_pos c12] at H
    have c12b0 : decide (0 ≤ x15_1) = true := decide_eq_true c12
    clear c12
    refine (Classical.em (x15_1 < (l0_0.length : Int))).elim (fun c13 => ?a3_) (fun c13 => ?b3_)
   case a3_ =>
    rw [if_pos c13] at H
    have c13b0 : decide (x15_1 < (l0_0.length : Int)) = true := decide_eq_true c13
    clear c13
    obtain ⟨y108, hy108⟩ : ∃ y_ : List (S54), y_ = (([] : List (S54))) := ⟨_, rfl⟩
    replace H : (laws_expr.l1 k1 y108 l0_0 (l0_0.length : Int) x15_1 (rd_L3 l0_0 x15_1) ((rd_L3 l0_0 x15_1).length : Int) 0 x107000_1 a0_1) = some (r1, r2) := by first | (rw [hy108]; with_reducible exact H) | (have H2_ := (Option.bind_some _ _).symm.trans H; rw [hy108]; with_reducible exact H2_) | (have H2_ := (Option.bind_some _ _).symm.trans H; with_reducible exact H2_) | with_reducible exact H | (rw [hy108]; exact H) | exact H
    have Ny108 := Aside0.mk hy108
    clear hy108
    have H' := Aside0.mk H
    clear H
    have p107 : 0 ≤ (x15_1 : Int) := of_decide_eq_true (by first | (with_reducible assumption) | assumption)
    have q107 : x15_1 < (l0_0.length : Int) := of_decide_eq_true (by first | (with_reducible assumption) | assumption)
    obtain ⟨ad107, A107_0, c107_0, e107, hx107_0, hl107_0, hi107_0⟩ := at_L3 HR0_0.out x15_1 p107 q107
    cases e107
    replace hx107_0 := (HB.out.cell (World.block_lt_of_cell? w _ hx107_0)).trans hx107_0
    have HR107_0 := Aside0.mk hi107_0
    have HC107_0 := Aside0.mk hl107_0
    clear hi107_0 hl107_0
    replace p107 := eq_true p107
    replace q107 := eq_true q107
    go_wp2_with (first | ((with_reducible refine gate_dst (N := 19) rfl ?_); refine Kd.R_lit k54 _ 54 ?hg (N := 19) ?hd (xs := ([] : List (S54))) (inner := []) (ok := fun _ => True) (okp := fun _ => True) ?hr ?hp (fun _ hk => hk) trivial (Below.refl _ _) (Nat.le_refl _) (by simp) ?_; (case hd => rfl); (case hg => rfl); (case hr => first | (go_simp; done) | (go_simp; rfl)); (case hp => exact (Reps.none _ _)); intro v109 w14 ho15 hb hg_ hnew_; clear hg_ hnew_; (first | rw [← Ny108.out] at ho15 | (simp only [Int.reduceToNat] at ho15; rw [← Ny108.out] at ho15)); have n0_ := Aside0.mk (Kd.S_elder' (by (with_reducible repeat (first | apply Kd.S_alloc | apply Kd.S_drewN | apply Kd.S_drew)); exact HO_107000.out) (Kd.R_base ho15) hb); have n1_ := Aside0.mk (Kd.R_lower ho15 (below_size (by repeat (with_reducible first | exact HB.out | apply below_alloc | apply pw_below_drewN | apply below_drew1 | refine below_set ?_ GE104.out | refine below_set ?_ GE105.out | refine below_set ?_ GE106.out)))); have n2_ := Aside0.mk (blk_below (g := gb104) (o := .cells #[.slice (some ad107) l0_0.length c0_0, .bool a0_1] 24 (0, 0)) (by (with_reducible repeat (first | refine blk_drewN ?_ _ | refine blk_drew ?_ | refine blk_alloc ?_ _)); exact BK104.out) hb); have n3_ := Aside0.mk (blk_below (g := gb105) (o := .cells #[.slice none 0 0, .bool false] 30 (0, 0)) (by (with_reducible repeat (first | refine blk_drewN ?_ _ | refine blk_drew ?_ | refine blk_alloc ?_ _)); exact BK105.out) hb); have n4_ := Aside0.mk (blk_below (g := gb106) (o := .cells #[u107000, .bool a0_1] 30 (0, 0)) (by (with_reducible repeat (first | refine blk_drewN ?_ _ | refine blk_drew ?_ | refine blk_alloc ?_ _)); exact BK106.out) hb); have n5_ := Aside0.mk (below_step (by repeat (with_reducible first | exact HB.out | apply below_alloc | apply pw_below_drewN | apply below_drew1 | refine below_set ?_ GE104.out | refine below_set ?_ GE105.out | refine below_set ?_ GE106.out)) hb); clear HO_107000; clear BK104; clear BK105; clear BK106; clear HB; have HO_107000 := n0_; have HO110 := n1_; have BK104 := n2_; have BK105 := n3_; have BK106 := n4_; have HB := n5_; clear n0_ n1_ n2_ n3_ n4_ n5_; clear hb ho15))
    go_loopg [6, 22] k1 (fun kq v6 v22 w' => ∃ (x6_2 : List (S54)) (x22_2 : Int), v22 = .int .i64 x22_2 ∧ Aside0 (laws_expr.l1 kq x6_2 l0_0 (l0_0.length : Int) x15_1 (rd_L3 l0_0 x15_1) ((rd_L3 l0_0 x15_1).length : Int) x22_2 x107000_1 a0_1 = some (r1, r2)) ∧ Aside0 (kq ≤ k1) ∧ Aside0 (Kd.R k54 54 w' w.heap.size (fun _ => True) v6 x6_2) ∧ Aside0 (Kd.S (Kd.slice 54 k54) 51 w' w.heap.size (fun k_ => some k_ ≠ (v6 : Value).ownBlock) u107000 x107000_1) ∧ Aside0 (w'.heap[gb104]? = some (.cells #[(.slice (some ad107) l0_0.length c0_0), .bool a0_1] 24 (0, 0))) ∧ Aside0 (w'.heap[gb105]? = some (.cells #[(.slice none 0 0), .bool false] 30 (0, 0))) ∧ Aside0 (w'.heap[gb106]? = some (.cells #[u107000, .bool a0_1] 30 (0, 0))) ∧ Aside0 (Below w.heap.size w w'))
    case atStart => exact ⟨(y108), (0), (by first | rfl | (simp; done) | (simp [*]; done)), H', ⟨Nat.le_refl _⟩, ⟨by (with_reducible repeat (first | apply Kd.R_alloc | apply Kd.R_drewN | apply Kd.R_drew)); exact HO110.out⟩, ⟨by (with_reducible repeat (first | apply Kd.S_alloc | apply Kd.S_drewN | apply Kd.S_drew)); exact Kd.S_mono HO_107000.out (fun _ hk => hk.2)⟩, ⟨by (with_reducible repeat (first | refine blk_drewN ?_ _ | refine blk_drew ?_ | refine blk_alloc ?_ _)); exact BK104.out⟩, ⟨by (with_reducible repeat (first | refine blk_drewN ?_ _ | refine blk_drew ?_ | refine blk_alloc ?_ _)); exact BK105.out⟩, ⟨by (with_reducible repeat (first | refine blk_drewN ?_ _ | refine blk_drew ?_ | refine blk_alloc ?_ _)); exact BK106.out⟩, ⟨by repeat (with_reducible first | exact HB.out | apply below_alloc | apply pw_below_drewN | apply below_drew1 | refine below_set ?_ GE104.out | refine below_set ?_ GE105.out | refine below_set ?_ GE106.out)⟩⟩
    case round =>
     clear H'
     try clear c11
     try clear c11b0
     try clear c12
     try clear c12b0
     try clear c13
     try clear c13b0
     try clear hcz10_0
     try clear hcz10_1
     try clear hcz5_0
     try clear hcz5_1
     try clear hcz9_0
     try clear hcz9_1
     try clear hfz10_0
     try clear hfz10_1
     try clear hfz5_0
     try clear hfz5_1
     try clear hfz9_0
     try clear hfz9_1
     try clear hx107_0
     try clear p107
     try clear q107
     obtain ⟨x6_2, x22_2, rfl, HA, HK2, HO_6, HO_107000, BK104, BK105, BK106, HB⟩ := hrel
     cases gk with
     | zero => exact absurd HA.out (by simp [laws_expr.l1])
     | succ k2 =>
      have H := HA.out
      clear HA
      simp only [laws_expr.l1] at H
      refine (Classical.em (x22_2 < ((rd_L3 l0_0 x15_1).length : Int))).elim (fun c16 => ?a4_) (fun c16 => ?b4_)
      case' a4_ =>
       rw [if_pos c16] at H
       have c16b0 : decide (x22_2 < ((rd_L3 l0_0 x15_1).length : Int)) = true := decide_eq_true c16
       clear c16
       refine (Classical.em (0 ≤ x22_2)).elim (fun c17 => ?a5_) (fun c17 => ?b5_)
      case' a5_ =>
       rw [if_pos c17] at H
       have c17b0 : decide (0 ≤ x22_2) = true := decide_eq_true c17
       clear c17
       refine (Classical.em (x22_2 < ((rd_L3 l0_0 x15_1).length : Int))).elim (fun c18 => ?a6_) (fun c18 => ?b6_)
      case' a6_ =>
       rw [if_pos c18] at H
       have c18b0 : decide (x22_2 < ((rd_L3 l0_0 x15_1).length : Int)) = true := decide_eq_true c18
       clear c18
       refine (Classical.em (x6_2.length < 4398046511104)).elim (fun c19 => ?a7_) (fun c19 => ?b7_)
      case a7_ =>
       rw [if_pos c19] at H
       have LMc19 := Aside0.mk c19
       clear c19
       obtain ⟨y113, hy113⟩ : ∃ y_ : List (S54), y_ = (x6_2 ++ [(⟨(rd_T53 (rd_L3 l0_0 x15_1) x22_2).f0, (rd_T53 (rd_L3 l0_0 x15_1) x22_2).f1, (rd_T53 (rd_L3 l0_0 x15_1) x22_2).f2, (rd_T53 (rd_L3 l0_0 x15_1) x22_2).f3⟩ : S54)]) := ⟨_, rfl⟩
       replace H : (laws_expr.l1 k2 y113 l0_0 (l0_0.length : Int) x15_1 (rd_L3 l0_0 x15_1) ((rd_L3 l0_0 x15_1).length : Int) (wrap64 (x22_2 + 1)) x107000_1 a0_1) = some (r1, r2) := by first | (rw [hy113]; with_reducible exact H) | (have H2_ := (Option.bind_some _ _).symm.trans H; rw [hy113]; with_reducible exact H2_) | (have H2_ := (Option.bind_some _ _).symm.trans H; with_reducible exact H2_) | with_reducible exact H | (rw [hy113]; exact H) | exact H
       have Ny113 := Aside0.mk hy113
       clear hy113
       have H' := Aside0.mk H
       clear H
       have p111 : 0 ≤ (x22_2 : Int) := of_decide_eq_true (by first | (with_reducible assumption) | assumption)
       have q111 : x22_2 < ((rd_L3 l0_0 x15_1).length : Int) := of_decide_eq_true (by first | (with_reducible assumption) | assumption)
       obtain ⟨ad111, e111, hx111_0, hx111_1, hx111_2, hx111_3⟩ := at_T53 HR107_0.out x22_2 p111 q111
       cases e111
       replace hx111_0 := (HB.out.cell (World.block_lt_of_cell? w _ hx111_0)).trans hx111_0
       replace hx111_1 := (HB.out.cell (World.block_lt_of_cell? w _ hx111_1)).trans hx111_1
       replace hx111_2 := (HB.out.cell (World.block_lt_of_cell? w _ hx111_2)).trans hx111_2
       replace hx111_3 := (HB.out.cell (World.block_lt_of_cell? w _ hx111_3)).trans hx111_3
       replace p111 := eq_true p111
       replace q111 := eq_true q111
       go_wp2_with (first | ((with_reducible refine gate_dst (N := 8) rfl ?_); refine box_event ?hg (N := 8) ?hd (cs := #[.bool false, .int .i64 0, .int .i64 0, .int .i64 0]) (t := 53) ?hr ?_; (case hd => rfl); (case hg => rfl); (case hr => first | (go_simp; done) | (go_simp; rfl)); intro gb112 hg w20 hbox hb; have n0_ := Aside0.mk (Kd.R_below (by (with_reducible repeat (first | apply Kd.R_alloc | apply Kd.R_drewN | apply Kd.R_drew)); exact HO_6.out) hb); have n1_ := Aside0.mk (Kd.S_below (by (with_reducible repeat (first | apply Kd.S_alloc | apply Kd.S_drewN | apply Kd.S_drew)); exact HO_107000.out) hb); have n2_ := Aside0.mk (blk_below (g := gb104) (o := .cells #[.slice (some ad107) l0_0.length c0_0, .bool a0_1] 24 (0, 0)) (by (with_reducible repeat (first | refine blk_drewN ?_ _ | refine blk_drew ?_ | refine blk_alloc ?_ _)); exact BK104.out) hb); have n3_ := Aside0.mk (blk_below (g := gb105) (o := .cells #[.slice none 0 0, .bool false] 30 (0, 0)) (by (with_reducible repeat (first | refine blk_drewN ?_ _ | refine blk_drew ?_ | refine blk_alloc ?_ _)); exact BK105.out) hb); have n4_ := Aside0.mk (blk_below (g := gb106) (o := .cells #[u107000, .bool a0_1] 30 (0, 0)) (by (with_reducible repeat (first | refine blk_drewN ?_ _ | refine blk_drew ?_ | refine blk_alloc ?_ _)); exact BK106.out) hb); have n5_ := Aside0.mk (below_step (by repeat (with_reducible first | exact HB.out | apply below_alloc | apply pw_below_drewN | apply below_drew1 | refine below_set ?_ GE104.out | refine below_set ?_ GE105.out | refine below_set ?_ GE106.out)) hb); have n6_ := Aside0.mk (hbox); have n7_ := Aside0.mk ((by rw [hg]; exact (below_size (by repeat (with_reducible first | exact HB.out | apply below_alloc | apply pw_below_drewN | apply below_drew1 | refine below_set ?_ GE104.out | refine below_set ?_ GE105.out | refine below_set ?_ GE106.out))) : w.heap.size ≤ gb112)); have n8_ := Aside0.mk ((by rw [hg]; exact (below_size (by repeat (with_reducible first | exact HB.out | apply below_alloc | apply pw_below_drewN | apply below_drew1 | refine below_set ?_ GE104.out | refine below_set ?_ GE105.out | refine below_set ?_ GE106.out))) : w.heap.size ≤ gb112)); have n9_ := Aside0.mk ((by rw [hg]; exact Nat.ne_of_lt (blk_lt (g := gb104) (o := .cells #[.slice (some ad107) l0_0.length c0_0, .bool a0_1] 24 (0, 0)) (by (with_reducible repeat (first | refine blk_drewN ?_ _ | refine blk_drew ?_ | refine blk_alloc ?_ _)); exact BK104.out)) : gb104 ≠ gb112)); have n10_ := Aside0.mk ((by rw [hg]; exact Nat.ne_of_gt (blk_lt (g := gb104) (o := .cells #[.slice (some ad107) l0_0.length c0_0, .bool a0_1] 24 (0, 0)) (by (with_reducible repeat (first | refine blk_drewN ?_ _ | refine blk_drew ?_ | refine blk_alloc ?_ _)); exact BK104.out)) : gb112 ≠ gb104)); have n11_ := Aside0.mk ((by rw [hg]; exact Nat.ne_of_lt (blk_lt (g := gb105) (o := .cells #[.slice none 0 0, .bool false] 30 (0, 0)) (by (with_reducible repeat (first | refine blk_drewN ?_ _ | refine blk_drew ?_ | refine blk_alloc ?_ _)); exact BK105.out)) : gb105 ≠ gb112)); have n12_ := Aside0.mk ((by rw [hg]; exact Nat.ne_of_gt (blk_lt (g := gb105) (o := .cells #[.slice none 0 0, .bool false] 30 (0, 0)) (by (with_reducible repeat (first | refine blk_drewN ?_ _ | refine blk_drew ?_ | refine blk_alloc ?_ _)); exact BK105.out)) : gb112 ≠ gb105)); have n13_ := Aside0.mk ((by rw [hg]; exact Nat.ne_of_lt (blk_lt (g := gb106) (o := .cells #[u107000, .bool a0_1] 30 (0, 0)) (by (with_reducible repeat (first | refine blk_drewN ?_ _ | refine blk_drew ?_ | refine blk_alloc ?_ _)); exact BK106.out)) : gb106 ≠ gb112)); have n14_ := Aside0.mk ((by rw [hg]; exact Nat.ne_of_gt (blk_lt (g := gb106) (o := .cells #[u107000, .bool a0_1] 30 (0, 0)) (by (with_reducible repeat (first | refine blk_drewN ?_ _ | refine blk_drew ?_ | refine blk_alloc ?_ _)); exact BK106.out)) : gb112 ≠ gb106)); clear HO_6; clear HO_107000; clear BK104; clear BK105; clear BK106; clear HB; have HO_6 := n0_; have HO_107000 := n1_; have BK104 := n2_; have BK105 := n3_; have BK106 := n4_; have HB := n5_; have BK112 := n6_; have GW112 := n7_; have GE112 := n8_; have NB104_112 := n9_; have NB112_104 := n10_; have NB105_112 := n11_; have NB112_105 := n12_; have NB106_112 := n13_; have NB112_106 := n14_; clear n0_ n1_ n2_ n3_ n4_ n5_ n6_ n7_ n8_ n9_ n10_ n11_ n12_ n13_ n14_; clear hb hbox hg; have hnb21 := NB112_104.out; have hnc21 := NB104_112.out; have hnb22 := NB112_105.out; have hnc22 := NB105_112.out; have hnb23 := NB112_106.out; have hnc23 := NB106_112.out; have hcz24_0 : w20.cell? ⟨gb112, 0, none⟩ = some (.bool false) := (blk_cell BK112.out 0).trans rfl; have hcz24_1 : w20.cell? ⟨gb112, 1, none⟩ = some (.int .i64 0) := (blk_cell BK112.out 1).trans rfl; have hcz24_2 : w20.cell? ⟨gb112, 2, none⟩ = some (.int .i64 0) := (blk_cell BK112.out 2).trans rfl; have hcz24_3 : w20.cell? ⟨gb112, 3, none⟩ = some (.int .i64 0) := (blk_cell BK112.out 3).trans rfl; have hfz24_0 := blk_frozen BK112.out 0; have hfz24_1 := blk_frozen BK112.out 1; have hfz24_2 := blk_frozen BK112.out 2; have hfz24_3 := blk_frozen BK112.out 3) | ((with_reducible refine gate_builtin (b := .append) (xs := #[.tmp 26, .tmp 36]) rfl ?_); at_builtin; refine Kd.R_append k54 (w0 := w) w.heap.size rfl (.tmp 26) (.tmp 36) 51 54 (.agg #[(.bool false), (.int .i64 0), (.int .i64 0), (.int .i64 0)]) 32 rfl Tryz.underlying51 info54 rfl (by decide) (by omega) u6 x6_2 (⟨(rd_T53 (rd_L3 l0_0 x15_1) x22_2).f0, (rd_T53 (rd_L3 l0_0 x15_1) x22_2).f1, (rd_T53 (rd_L3 l0_0 x15_1) x22_2).f2, (rd_T53 (rd_L3 l0_0 x15_1) x22_2).f3⟩ : S54) [.bool ((rd_T53 (rd_L3 l0_0 x15_1) x22_2).f0), .int .i64 ((rd_T53 (rd_L3 l0_0 x15_1) x22_2).f1), .int .i64 ((rd_T53 (rd_L3 l0_0 x15_1) x22_2).f2), .int .i64 ((rd_T53 (rd_L3 l0_0 x15_1) x22_2).f3)] (fun _ => True) (fun _ => False) rfl (by first | (go_simp; done) | (go_simp; rfl)) ?aP (fun _ hk => hk.elim) ?aF ?aO ?aB ?aS ?aL ?_; (case aP => exact k54_mkM _ _ _ (⟨(rd_T53 (rd_L3 l0_0 x15_1) x22_2).f0, (rd_T53 (rd_L3 l0_0 x15_1) x22_2).f1, (rd_T53 (rd_L3 l0_0 x15_1) x22_2).f2, (rd_T53 (rd_L3 l0_0 x15_1) x22_2).f3⟩ : S54)); (case aB => exact (by repeat (with_reducible first | exact HB.out | apply below_alloc | apply pw_below_drewN | apply below_drew1 | refine below_set ?_ GE104.out | refine below_set ?_ GE105.out | refine below_set ?_ GE106.out | refine below_set ?_ GE112.out))); (case aF => exact (fun _ _ => trivial)); (case aO => exact (by (with_reducible repeat (first | apply Kd.R_alloc | apply Kd.R_drewN | apply Kd.R_drew)); exact Kd.R_mono (Kd.R_far (p := ⟨gb112, 3, none⟩) (Kd.R_far (p := ⟨gb112, 2, none⟩) (Kd.R_far (p := ⟨gb112, 1, none⟩) (Kd.R_far (p := ⟨gb112, 0, none⟩) (Kd.R_types HO_6.out BK112.out (by decide)) (fun _ hk => hk.2) (.bool ((rd_T53 (rd_L3 l0_0 x15_1) x22_2).f0))) (fun _ hk => hk.2) (.int .i64 ((rd_T53 (rd_L3 l0_0 x15_1) x22_2).f1))) (fun _ hk => hk.2) (.int .i64 ((rd_T53 (rd_L3 l0_0 x15_1) x22_2).f2))) (fun _ hk => hk.2) (.int .i64 ((rd_T53 (rd_L3 l0_0 x15_1) x22_2).f3))) (fun _ hk => trivial))); (case aS => exact (below_size (by repeat (with_reducible first | exact HB.out | apply below_alloc | apply pw_below_drewN | apply below_drew1 | refine below_set ?_ GE104.out | refine below_set ?_ GE105.out | refine below_set ?_ GE106.out | refine below_set ?_ GE112.out)))); (case aL => have := LMc19.out; omega); intro v114 w25 ho hb hg hat; rw [← Ny113.out] at ho; have n0_ := Aside0.mk (Kd.S_after (ok := (fun _ => True)) (by (with_reducible repeat (first | apply Kd.S_alloc | apply Kd.S_drewN | apply Kd.S_drew)); exact Kd.S_mono (Kd.S_far (p := ⟨gb112, 3, none⟩) (Kd.S_far (p := ⟨gb112, 2, none⟩) (Kd.S_far (p := ⟨gb112, 1, none⟩) (Kd.S_far (p := ⟨gb112, 0, none⟩) (Kd.S_types HO_107000.out BK112.out (by decide)) (fun _ hk => hk.2) (.bool ((rd_T53 (rd_L3 l0_0 x15_1) x22_2).f0))) (fun _ hk => hk.2) (.int .i64 ((rd_T53 (rd_L3 l0_0 x15_1) x22_2).f1))) (fun _ hk => hk.2) (.int .i64 ((rd_T53 (rd_L3 l0_0 x15_1) x22_2).f2))) (fun _ hk => hk.2) (.int .i64 ((rd_T53 (rd_L3 l0_0 x15_1) x22_2).f3))) (fun _ hk => ⟨trivial, hk.1⟩)) hg hat); have n1_ := Aside0.mk (blk_grown (g := gb104) (o := .cells #[.slice (some ad107) l0_0.length c0_0, .bool a0_1] 24 (0, 0)) (by (with_reducible repeat (first | refine blk_drewN ?_ _ | refine blk_drew ?_ | refine blk_alloc ?_ _)); refine blk_far ?_ NB104_112.out _; (with_reducible repeat (first | refine blk_drewN ?_ _ | refine blk_drew ?_ | refine blk_alloc ?_ _)); refine blk_far ?_ NB104_112.out _; (with_reducible repeat (first | refine blk_drewN ?_ _ | refine blk_drew ?_ | refine blk_alloc ?_ _)); refine blk_far ?_ NB104_112.out _; (with_reducible repeat (first | refine blk_drewN ?_ _ | refine blk_drew ?_ | refine blk_alloc ?_ _)); refine blk_far ?_ NB104_112.out _; (with_reducible repeat (first | refine blk_drewN ?_ _ | refine blk_drew ?_ | refine blk_alloc ?_ _)); exact BK104.out) hg (Kd.R_ne HO_6.out BK104.out (by decide))); have n2_ := Aside0.mk (blk_grown (g := gb105) (o := .cells #[.slice none 0 0, .bool false] 30 (0, 0)) (by (with_reducible repeat (first | refine blk_drewN ?_ _ | refine blk_drew ?_ | refine blk_alloc ?_ _)); refine blk_far ?_ NB105_112.out _; (with_reducible repeat (first | refine blk_drewN ?_ _ | refine blk_drew ?_ | refine blk_alloc ?_ _)); refine blk_far ?_ NB105_112.out _; (with_reducible repeat (first | refine blk_drewN ?_ _ | refine blk_drew ?_ | refine blk_alloc ?_ _)); refine blk_far ?_ NB105_112.out _; (with_reducible repeat (first | refine blk_drewN ?_ _ | refine blk_drew ?_ | refine blk_alloc ?_ _)); refine blk_far ?_ NB105_112.out _; (with_reducible repeat (first | refine blk_drewN ?_ _ | refine blk_drew ?_ | refine blk_alloc ?_ _)); exact BK105.out) hg (Kd.R_ne HO_6.out BK105.out (by decide))); have n3_ := Aside0.mk (blk_grown (g := gb106) (o := .cells #[u107000, .bool a0_1] 30 (0, 0)) (by (with_reducible repeat (first | refine blk_drewN ?_ _ | refine blk_drew ?_ | refine blk_alloc ?_ _)); refine blk_far ?_ NB106_112.out _; (with_reducible repeat (first | refine blk_drewN ?_ _ | refine blk_drew ?_ | refine blk_alloc ?_ _)); refine blk_far ?_ NB106_112.out _; (with_reducible repeat (first | refine blk_drewN ?_ _ | refine blk_drew ?_ | refine blk_alloc ?_ _)); refine blk_far ?_ NB106_112.out _; (with_reducible repeat (first | refine blk_drewN ?_ _ | refine blk_drew ?_ | refine blk_alloc ?_ _)); refine blk_far ?_ NB106_112.out _; (with_reducible repeat (first | refine blk_drewN ?_ _ | refine blk_drew ?_ | refine blk_alloc ?_ _)); exact BK106.out) hg (Kd.R_ne HO_6.out BK106.out (by decide))); have n4_ := Aside0.mk (blk_grown (g := gb112) (o := .cells #[.bool ((rd_T53 (rd_L3 l0_0 x15_1) x22_2).f0), .int .i64 ((rd_T53 (rd_L3 l0_0 x15_1) x22_2).f1), .int .i64 ((rd_T53 (rd_L3 l0_0 x15_1) x22_2).f2), .int .i64 ((rd_T53 (rd_L3 l0_0 x15_1) x22_2).f3)] 53 (0, 0)) (by (with_reducible repeat (first | refine blk_drewN ?_ _ | refine blk_drew ?_ | refine blk_alloc ?_ _)); refine blk_put (cs := #[.bool ((rd_T53 (rd_L3 l0_0 x15_1) x22_2).f0), .int .i64 ((rd_T53 (rd_L3 l0_0 x15_1) x22_2).f1), .int .i64 ((rd_T53 (rd_L3 l0_0 x15_1) x22_2).f2), .int .i64 0]) ?_ 3 _ rfl; (with_reducible repeat (first | refine blk_drewN ?_ _ | refine blk_drew ?_ | refine blk_alloc ?_ _)); refine blk_put (cs := #[.bool ((rd_T53 (rd_L3 l0_0 x15_1) x22_2).f0), .int .i64 ((rd_T53 (rd_L3 l0_0 x15_1) x22_2).f1), .int .i64 0, .int .i64 0]) ?_ 2 _ rfl; (with_reducible repeat (first | refine blk_drewN ?_ _ | refine blk_drew ?_ | refine blk_alloc ?_ _)); refine blk_put (cs := #[.bool ((rd_T53 (rd_L3 l0_0 x15_1) x22_2).f0), .int .i64 0, .int .i64 0, .int .i64 0]) ?_ 1 _ rfl; (with_reducible repeat (first | refine blk_drewN ?_ _ | refine blk_drew ?_ | refine blk_alloc ?_ _)); refine blk_put (cs := #[.bool false, .int .i64 0, .int .i64 0, .int .i64 0]) ?_ 0 _ rfl; (with_reducible repeat (first | refine blk_drewN ?_ _ | refine blk_drew ?_ | refine blk_alloc ?_ _)); exact BK112.out) hg (Kd.R_ne HO_6.out BK112.out (by decide))); have n5_ := Aside0.mk (hb); have n6_ := Aside0.mk (ho); clear HO_107000; clear BK104; clear BK105; clear BK106; clear BK112; clear HB; clear HO_6; have HO_107000 := n0_; have BK104 := n1_; have BK105 := n2_; have BK106 := n3_; have BK112 := n4_; have HB := n5_; have HO115 := n6_; clear n0_ n1_ n2_ n3_ n4_ n5_ n6_; clear ho hb hg hat))
       go_roundg k2
       case measure => have := HK1.out; have := HK2.out; omega
       case rel => exact ⟨(y113), (wrap64 (x22_2 + 1)), (by first | rfl | (simp; done) | (simp [*]; done)), H', ⟨by have := HK1.out; have := HK2.out; omega⟩, ⟨by (with_reducible repeat (first | apply Kd.R_alloc | apply Kd.R_drewN | apply Kd.R_drew)); exact HO115.out⟩, ⟨by (with_reducible repeat (first | apply Kd.S_alloc | apply Kd.S_drewN | apply Kd.S_drew)); exact Kd.S_mono HO_107000.out (fun _ hk => hk.2)⟩, ⟨by (with_reducible repeat (first | refine blk_drewN ?_ _ | refine blk_drew ?_ | refine blk_alloc ?_ _)); exact BK104.out⟩, ⟨by (with_reducible repeat (first | refine blk_drewN ?_ _ | refine blk_drew ?_ | refine blk_alloc ?_ _)); exact BK105.out⟩, ⟨by (with_reducible repeat (first | refine blk_drewN ?_ _ | refine blk_drew ?_ | refine blk_alloc ?_ _)); exact BK106.out⟩, ⟨by repeat (with_reducible first | exact HB.out | apply below_alloc | apply pw_below_drewN | apply below_drew1 | refine below_set ?_ GE104.out | refine below_set ?_ GE105.out | refine below_set ?_ GE106.out | refine below_set ?_ GE112.out)⟩⟩
      case b7_ =>
       rw [if_neg c19] at H
       exact absurd H (by simp)
      case b6_ =>
       rw [if_neg c18] at H
       exact absurd H (by simp)
      case b5_ =>
       rw [if_neg c17] at H
       exact absurd H (by simp)
      case' b4_ =>
       rw [if_neg c16] at H
       have c16b0 : decide (x22_2 < ((rd_L3 l0_0 x15_1).length : Int)) = false := decide_eq_false c16
       clear c16
       refine (Classical.em (x107000_1.length < 5864062014805)).elim (fun c26 => ?a8_) (fun c26 => ?b8_)
      case a8_ =>
       rw [if_pos c26] at H
       have LMc26 := Aside0.mk c26
       clear c26
       obtain ⟨y116, hy116⟩ : ∃ y_ : List (List (S54)), y_ = (x107000_1 ++ [x6_2]) := ⟨_, rfl⟩
       replace H : (laws_expr.l0 k2 l0_0 (l0_0.length : Int) (wrap64 (x15_1 + 1)) y116 a0_1) = some (r1, r2) := by first | (rw [hy116]; with_reducible exact H) | (have H2_ := (Option.bind_some _ _).symm.trans H; rw [hy116]; with_reducible exact H2_) | (have H2_ := (Option.bind_some _ _).symm.trans H; with_reducible exact H2_) | with_reducible exact H | (rw [hy116]; exact H) | exact H
       have Ny116 := Aside0.mk hy116
       clear hy116
       have H' := Aside0.mk H
       clear H
       have hnb27 := NB106_104.out
       have hnc27 := NB104_106.out
       have hnb28 := NB106_105.out
       have hnc28 := NB105_106.out
       have hcz29_0 : wr.cell? ⟨gb106, 0, none⟩ = some (u107000) := (blk_cell BK106.out 0).trans rfl
       have hcz29_1 : wr.cell? ⟨gb106, 1, none⟩ = some (.bool a0_1) := (blk_cell BK106.out 1).trans rfl
       have hfz29_0 := blk_frozen BK106.out 0
       have hfz29_1 := blk_frozen BK106.out 1
       obtain ⟨Ao31, co31, eo31⟩ := Kd.R_slice HO_6.out
       subst eo31
       go_wp2_with (first | ((with_reducible refine gate_builtin (b := .append) (xs := #[.tmp 40, .tmp 42]) rfl ?_); at_builtin; refine Kd.S_append (Kd.slice 54 k54) (w0 := w) w.heap.size rfl (.tmp 40) (.tmp 42) 28 51 (.slice none 0 0) 24 rfl Tryz.underlying28 info51 rfl (by decide) (by omega) u107000 x107000_1 x6_2 [.slice Ao31 x6_2.length co31] (fun _ => True) (fun k_ => some k_ = (.slice Ao31 x6_2.length co31 : Value).ownBlock) rfl rfl ?aP (fun k_ hk_ => ((Kd.R_mono (ok' := fun k_ => ((fun _ => True)) k_ ∧ some k_ ≠ (u107000 : Value).ownBlock) (Kd.R_apart' (HO_6.out) (Kd.S_typed HO_107000.out) (by decide)) (fun k_ hk => ⟨trivial, hk.2⟩))).1 k_ hk_.symm) ?aF ?aO ?aB ?aS ?aL ?_; (case aP => exact Kd.M_row (Kd.R_mono (Kd.R_tight rfl (Kd.R_mono (ok' := fun k_ => ((fun _ => True)) k_ ∧ some k_ ≠ (u107000 : Value).ownBlock) (Kd.R_apart' (HO_6.out) (Kd.S_typed HO_107000.out) (by decide)) (fun k_ hk => ⟨trivial, hk.2⟩))) (fun _ h_ => h_))); (case aB => exact (by repeat (with_reducible first | exact HB.out | apply below_alloc | apply pw_below_drewN | apply below_drew1 | refine below_set ?_ GE104.out | refine below_set ?_ GE105.out | refine below_set ?_ GE106.out))); (case aF => exact (fun _ _ => trivial)); (case aO => exact (by (with_reducible repeat (first | apply Kd.S_alloc | apply Kd.S_drewN | apply Kd.S_drew)); exact Kd.S_mono HO_107000.out (fun k_ hk => ⟨trivial, fun e_ => hk e_⟩))); (case aS => exact (below_size (by repeat (with_reducible first | exact HB.out | apply below_alloc | apply pw_below_drewN | apply below_drew1 | refine below_set ?_ GE104.out | refine below_set ?_ GE105.out | refine below_set ?_ GE106.out)))); (case aL => have := LMc26.out; omega); intro v117 w30 ho hb hg hat; rw [← Ny116.out] at ho; have n0_ := Aside0.mk (blk_grown (g := gb104) (o := .cells #[.slice (some ad107) l0_0.length c0_0, .bool a0_1] 24 (0, 0)) (by (with_reducible repeat (first | refine blk_drewN ?_ _ | refine blk_drew ?_ | refine blk_alloc ?_ _)); exact BK104.out) hg (Kd.S_ne HO_107000.out BK104.out (by decide))); have n1_ := Aside0.mk (blk_grown (g := gb105) (o := .cells #[.slice none 0 0, .bool false] 30 (0, 0)) (by (with_reducible repeat (first | refine blk_drewN ?_ _ | refine blk_drew ?_ | refine blk_alloc ?_ _)); exact BK105.out) hg (Kd.S_ne HO_107000.out BK105.out (by decide))); have n2_ := Aside0.mk (blk_grown (g := gb106) (o := .cells #[u107000, .bool a0_1] 30 (0, 0)) (by (with_reducible repeat (first | refine blk_drewN ?_ _ | refine blk_drew ?_ | refine blk_alloc ?_ _)); exact BK106.out) hg (Kd.S_ne HO_107000.out BK106.out (by decide))); have n3_ := Aside0.mk (hb); have n4_ := Aside0.mk (ho); clear BK104; clear BK105; clear BK106; clear HB; clear HO_107000; clear HO_6; have BK104 := n0_; have BK105 := n1_; have BK106 := n2_; have HB := n3_; have HO118 := n4_; clear n0_ n1_ n2_ n3_ n4_; clear ho hb hg hat; obtain ⟨Ao32, co32, eo32⟩ := Kd.S_slice HO118.out; subst eo32; have hcz33_0 : w30.cell? ⟨gb106, 0, none⟩ = some (u107000) := (blk_cell BK106.out 0).trans rfl; have hcz33_1 : w30.cell? ⟨gb106, 1, none⟩ = some (.bool a0_1) := (blk_cell BK106.out 1).trans rfl; have hfz33_0 := blk_frozen BK106.out 0; have hfz33_1 := blk_frozen BK106.out 1))
       go_roundg k2
       case measure => have := HK1.out; have := HK2.out; omega
       case rel => exact ⟨(wrap64 (x15_1 + 1)), (y116), (.slice Ao32 y116.length co32), (by first | rfl | (simp; done) | (simp [*]; done)), H', ⟨by have := HK1.out; have := HK2.out; omega⟩, ⟨by (with_reducible repeat (first | apply Kd.S_alloc | apply Kd.S_drewN | apply Kd.S_drew)); exact Kd.S_mono (Kd.S_far (p := ⟨gb106, 0, none⟩) (Kd.S_types HO118.out BK106.out (by decide)) (fun _ hk => hk.2) (.slice Ao32 y116.length co32)) (fun _ hk => trivial)⟩, ⟨by (with_reducible repeat (first | refine blk_drewN ?_ _ | refine blk_drew ?_ | refine blk_alloc ?_ _)); refine blk_far ?_ NB104_106.out _; (with_reducible repeat (first | refine blk_drewN ?_ _ | refine blk_drew ?_ | refine blk_alloc ?_ _)); exact BK104.out⟩, ⟨by (with_reducible repeat (first | refine blk_drewN ?_ _ | refine blk_drew ?_ | refine blk_alloc ?_ _)); refine blk_far ?_ NB105_106.out _; (with_reducible repeat (first | refine blk_drewN ?_ _ | refine blk_drew ?_ | refine blk_alloc ?_ _)); exact BK105.out⟩, ⟨by (with_reducible repeat (first | refine blk_drewN ?_ _ | refine blk_drew ?_ | refine blk_alloc ?_ _)); refine blk_put (cs := #[u107000, .bool a0_1]) ?_ 0 _ rfl; (with_reducible repeat (first | refine blk_drewN ?_ _ | refine blk_drew ?_ | refine blk_alloc ?_ _)); exact BK106.out⟩, ⟨by repeat (with_reducible first | exact HB.out | apply below_alloc | apply pw_below_drewN | apply below_drew1 | refine below_set ?_ GE104.out | refine below_set ?_ GE105.out | refine below_set ?_ GE106.out)⟩⟩
      case b8_ =>
       rw [if_neg c26] at H
       exact absurd H (by simp)
   case b3_ =>
    rw [if_neg c13] at H
    exact absurd H (by simp)
   case b2_ =>
    rw [if_neg c12] at H
    exact absurd H (by simp)
   case b1_ =>
    rw [if_neg c11] at H
    have c11b0 : decide (x15_1 < (l0_0.length : Int)) = false := decide_eq_false c11
    clear c11
    simp only [Option.some.injEq, Prod.mk.injEq] at H
    obtain ⟨rfl, rfl⟩ := H
    have hnb34 := NB106_104.out
    have hnc34 := NB104_106.out
    have hnb35 := NB106_105.out
    have hnc35 := NB105_106.out
    have hcz36_0 : wr.cell? ⟨gb106, 0, none⟩ = some (u107000) := (blk_cell BK106.out 0).trans rfl
    have hcz36_1 : wr.cell? ⟨gb106, 1, none⟩ = some (.bool a0_1) := (blk_cell BK106.out 1).trans rfl
    have hfz36_0 := blk_frozen BK106.out 0
    have hfz36_1 := blk_frozen BK106.out 1
    obtain ⟨Ao37, co37, eo37⟩ := Kd.S_slice HO_107000.out
    subst eo37
    have hnb38 := NB105_104.out
    have hnc38 := NB104_105.out
    have hcz39_0 : wr.cell? ⟨gb105, 0, none⟩ = some (.slice none 0 0) := (blk_cell BK105.out 0).trans rfl
    have hcz39_1 : wr.cell? ⟨gb105, 1, none⟩ = some (.bool false) := (blk_cell BK105.out 1).trans rfl
    have hfz39_0 := blk_frozen BK105.out 0
    have hfz39_1 := blk_frozen BK105.out 1
    go_wp2
    refine bodyPost_ret (results_cell_row rfl _ _ gb105 30 #[.slice Ao37 x107000_1.length co37, .bool a0_1] (0, 0) _ rfl (by (with_reducible repeat (first | refine blk_drewN ?_ _ | refine blk_drew ?_ | refine blk_alloc ?_ _)); refine blk_put (cs := #[.slice Ao37 x107000_1.length co37, .bool false]) ?_ 1 _ rfl; (with_reducible repeat (first | refine blk_drewN ?_ _ | refine blk_drew ?_ | refine blk_alloc ?_ _)); refine blk_put (cs := #[.slice none 0 0, .bool false]) ?_ 0 _ rfl; (with_reducible repeat (first | refine blk_drewN ?_ _ | refine blk_drew ?_ | refine blk_alloc ?_ _)); exact BK105.out) Tryz.underlying30 rfl (by kernel_rfl)) rfl ?_
    exact ⟨_, by first | rfl | (simp [errW_none, errW_some] <;> rfl) | (simp [*, errW_none, errW_some] <;> rfl), by (with_reducible repeat (first | apply Kd.S_alloc | apply Kd.S_drewN | apply Kd.S_drew)); exact Kd.S_mono (Kd.S_far (p := ⟨gb105, 1, none⟩) (Kd.S_far (p := ⟨gb105, 0, none⟩) (Kd.S_types HO_107000.out BK105.out (by decide)) (fun _ hk => hk.2) (.slice Ao37 x107000_1.length co37)) (fun _ hk => hk.2) (.bool a0_1)) (fun _ hk => trivial), by repeat (with_reducible first | exact HB.out | apply below_alloc | apply pw_below_drewN | apply below_drew1 | refine below_set ?_ GE104.out | refine below_set ?_ GE105.out | refine below_set ?_ GE106.out)⟩
end Go.Proofs.YtjpcdkhapeejjaaGreatDoor.A
end
section
namespace Go.Proofs.YtjpcdkhapeejjaaGreatDoor.A
open Go.RowKit Go.Proofs.YtjpcdkhapeejjaaGreatDoorW.PrintWords Go.Proofs.YtjpcdkhapeejjaaGreatDoorW.PrintLast Go.Proofs.YtjpcdkhapeejjaaGreatDoorW.PrintMore
def laws_zzFits2.l0 : Nat → List (List (S53)) → Int → Int → Option (Bool)
  | 0, _, _, _ => none
  | k + 1, x8, x9, x10 => if x10 < x9 then (if 0 ≤ x10 then (if x10 < (x8.length : Int) then (if ((rd_L3 x8 x10).length : Int) > 2147483647 then (some false) else (laws_zzFits2.l0 k x8 x9 (wrap64 (x10 + 1)))) else (none)) else (none)) else (some true)
def laws_zzFits2.f (k : Nat) (l0 : List (List (S53))) : Option (Bool) := if (l0.length : Int) > 2147483647 then (some false) else (laws_zzFits2.l0 k l0 (l0.length : Int) 0)
set_option maxHeartbeats 8000000 in
set_option maxRecDepth 100000 in
theorem laws_zzFits2.calls (k : Nat) (A0 : Option Addr) (c0 : Nat) (l0 : List (List (S53))) (r : Bool) (w : World) (hr0 : Kd.C (Kd.slice 53 k53) w A0 l0.length l0) (hc0 : l0.length ≤ c0) (h : laws_zzFits2.f k l0 = some r) :
    Calls Tryz.prog 24 #[.slice A0 l0.length c0] w fun e w' => e = .returned (.bool r) ∧ Drawn0 w w' := by
 have HR0 := Aside0.mk hr0
 have HC0 := Aside0.mk hc0
 clear hr0 hc0
 have H : (if (l0.length : Int) > 2147483647 then (some false) else (laws_zzFits2.l0 k l0 (l0.length : Int) 0)) = some r := h
 clear h
 refine (Classical.em ((l0.length : Int) > 2147483647)).elim (fun c2 => ?a1_) (fun c2 => ?b1_)
 case a1_ =>
  rw [if_pos c2] at H
  have c2b0 : decide (2147483647 < (l0.length : Int)) = true := decide_eq_true c2
  have c2b1 : decide (2147483647 < l0.length) = true := decide_eq_true (by omega)
  clear c2
  obtain rfl := Option.some.inj H
  go_enter Tryz.func24, Tryz.ntmps24
  go_wp2
  go_ret
  exact ⟨by first | rfl | (simp; done) | (simp [*]; done), by repeat (first | exact Drawn0.refl _ | apply Drawn0.step)⟩
 case b1_ =>
  rw [if_neg c2] at H
  have c2b0 : decide (2147483647 < (l0.length : Int)) = false := decide_eq_false c2
  have c2b1 : decide (2147483647 < l0.length) = false := decide_eq_false (by omega)
  clear c2
  have H' := Aside0.mk H
  clear H
  go_enter Tryz.func24, Tryz.ntmps24
  go_wp2
  go_loopg [10] k (fun kq v10 w' => ∃ (x10_1 : Int), v10 = .int .i64 x10_1 ∧ Aside0 (laws_zzFits2.l0 kq l0 (l0.length : Int) x10_1 = some r) ∧ Aside0 (kq ≤ k) ∧ Drawn0 w w')
  case atStart => exact ⟨(0), (by first | rfl | (simp; done) | (simp [*]; done)), H', ⟨Nat.le_refl _⟩, by repeat (first | exact Drawn0.refl _ | apply Drawn0.step)⟩
  case round =>
   clear H'
   try clear c2
   try clear c2b0
   try clear c2b1
   obtain ⟨x10_1, rfl, HA, HK1, ⟨m1, rfl⟩⟩ := hrel
   cases gk with
   | zero => exact absurd HA.out (by simp [laws_zzFits2.l0])
   | succ k1 =>
    have H := HA.out
    clear HA
    simp only [laws_zzFits2.l0] at H
    refine (Classical.em (x10_1 < (l0.length : Int))).elim (fun c3 => ?a2_) (fun c3 => ?b2_)
    case' a2_ =>
     rw [if_pos c3] at H
     have c3b0 : decide (x10_1 < (l0.length : Int)) = true := decide_eq_true c3
     clear c3
     refine (Classical.em (0 ≤ x10_1)).elim (fun c4 => ?a3_) (fun c4 => ?b3_)
    case' a3_ =>
     rw [if_pos c4] at H
     have c4b0 : decide (0 ≤ x10_1) = true := decide_eq_true c4
     clear c4
     refine (Classical.em (x10_1 < (l0.length : Int))).elim (fun c5 => ?a4_) (fun c5 => ?b4_)
    case' a4_ =>
     rw [if_pos c5] at H
     have c5b0 : decide (x10_1 < (l0.length : Int)) = true := decide_eq_true c5
     clear c5
     refine (Classical.em (((rd_L3 l0 x10_1).length : Int) > 2147483647)).elim (fun c6 => ?a5_) (fun c6 => ?b5_)
    case a5_ =>
     rw [if_pos c6] at H
     have c6b0 : decide (2147483647 < ((rd_L3 l0 x10_1).length : Int)) = true := decide_eq_true c6
     have c6b1 : decide (2147483647 < (rd_L3 l0 x10_1).length) = true := decide_eq_true (by omega)
     clear c6
     obtain rfl := Option.some.inj H
     have p101 : 0 ≤ (x10_1 : Int) := of_decide_eq_true (by first | (with_reducible assumption) | assumption)
     have q101 : x10_1 < (l0.length : Int) := of_decide_eq_true (by first | (with_reducible assumption) | assumption)
     obtain ⟨ad101, A101_0, c101_0, e101, hx101_0, hl101_0, hi101_0⟩ := at_L3 HR0.out x10_1 p101 q101
     cases e101
     have HR101_0 := Aside0.mk hi101_0
     have HC101_0 := Aside0.mk hl101_0
     clear hi101_0 hl101_0
     replace p101 := eq_true p101
     replace q101 := eq_true q101
     go_wp2
     go_ret
     exact ⟨by first | rfl | (simp; done) | (simp [*]; done), by repeat (first | exact Drawn0.refl _ | apply Drawn0.step)⟩
    case b5_ =>
     rw [if_neg c6] at H
     have c6b0 : decide (2147483647 < ((rd_L3 l0 x10_1).length : Int)) = false := decide_eq_false c6
     have c6b1 : decide (2147483647 < (rd_L3 l0 x10_1).length) = false := decide_eq_false (by omega)
     clear c6
     have H' := Aside0.mk H
     clear H
     have p101 : 0 ≤ (x10_1 : Int) := of_decide_eq_true (by first | (with_reducible assumption) | assumption)
     have q101 : x10_1 < (l0.length : Int) := of_decide_eq_true (by first | (with_reducible assumption) | assumption)
     obtain ⟨ad101, A101_0, c101_0, e101, hx101_0, hl101_0, hi101_0⟩ := at_L3 HR0.out x10_1 p101 q101
     cases e101
     have HR101_0 := Aside0.mk hi101_0
     have HC101_0 := Aside0.mk hl101_0
     clear hi101_0 hl101_0
     replace p101 := eq_true p101
     replace q101 := eq_true q101
     go_wp2
     go_roundg k1
     case measure => have := HK1.out; omega
     case rel => exact ⟨(wrap64 (x10_1 + 1)), (by first | rfl | (simp; done) | (simp [*]; done)), H', ⟨by have := HK1.out; omega⟩, by repeat (first | exact Drawn0.refl _ | apply Drawn0.step)⟩
    case b4_ =>
     rw [if_neg c5] at H
     exact absurd H (by simp)
    case b3_ =>
     rw [if_neg c4] at H
     exact absurd H (by simp)
    case b2_ =>
     rw [if_neg c3] at H
     have c3b0 : decide (x10_1 < (l0.length : Int)) = false := decide_eq_false c3
     clear c3
     obtain rfl := Option.some.inj H
     go_wp2
     go_ret
     exact ⟨by first | rfl | (simp; done) | (simp [*]; done), by repeat (first | exact Drawn0.refl _ | apply Drawn0.step)⟩
end Go.Proofs.YtjpcdkhapeejjaaGreatDoor.A
end
section
namespace Go.Proofs.YtjpcdkhapeejjaaGreatDoor.A
open Go.RowKit Go.Proofs.YtjpcdkhapeejjaaGreatDoorW.PrintWords Go.Proofs.YtjpcdkhapeejjaaGreatDoorW.PrintLast Go.Proofs.YtjpcdkhapeejjaaGreatDoorW.PrintMore
def laws_zzFits1.f (k : Nat) (l0_0 : List (List (S53))) (a0_1 : Bool) : Option (Bool) := (laws_zzFits2.f k l0_0).bind fun t103 => (if t103 = true then (some true) else (some false))
set_option maxHeartbeats 8000000 in
set_option maxRecDepth 100000 in
theorem laws_zzFits1.calls (k : Nat) (A0_0 : Option Addr) (c0_0 : Nat) (l0_0 : List (List (S53))) (a0_1 : Bool) (r : Bool) (w : World) (hr0_0 : Kd.C (Kd.slice 53 k53) w A0_0 l0_0.length l0_0) (hc0_0 : l0_0.length ≤ c0_0) (h : laws_zzFits1.f k l0_0 a0_1 = some r) :
    Calls Tryz.prog 10 #[.agg #[.slice A0_0 l0_0.length c0_0, .bool a0_1]] w fun e w' => e = .returned (.bool r) ∧ Below w.heap.size w w' := by
 have hu24 := Tryz.underlying24
 have HR0_0 := Aside0.mk hr0_0
 have HC0_0 := Aside0.mk hc0_0
 clear hr0_0 hc0_0
 have HB := Aside0.mk (Below.refl w.heap.size w)
 have H : ((laws_zzFits2.f k l0_0).bind fun t103 => (if t103 = true then (some true) else (some false))) = some r := h
 clear h
 replace H := Option.bind_eq_some_iff.mp H
 obtain ⟨t103, A20, H⟩ := H
 try dsimp only at H
 have A2 := Aside0.mk A20
 clear A20
 refine (Classical.em (t103 = true)).elim (fun c3 => ?a1_) (fun c3 => ?b1_)
 case' a1_ =>
  subst c3
  rw [if_pos rfl] at H
  obtain rfl := Option.some.inj H
 case' b1_ =>
  replace c3 := Bool.eq_false_iff.mpr c3
  subst c3
  rw [if_neg (show ¬ (false = true) by decide)] at H
  obtain rfl := Option.some.inj H
 case a1_ | b1_ =>
  go_enter Tryz.func10, Tryz.ntmps10
  go_wp2_with (first | ((with_reducible refine gate_dst (N := 1) rfl ?_); refine box_event ?hg (N := 1) ?hd (cs := #[.slice A0_0 l0_0.length c0_0, .bool a0_1]) (t := 24) ?hr ?_; (case hd => rfl); (case hg => rfl); (case hr => first | (go_simp; done) | (go_simp; rfl)); intro gb102 hg w4 hbox hb; have n0_ := Aside0.mk (below_step (by repeat (with_reducible first | exact HB.out | apply below_alloc | apply pw_below_drewN | apply below_drew1)) hb); have n1_ := Aside0.mk (hbox); have n2_ := Aside0.mk ((by rw [hg]; exact (below_size (by repeat (with_reducible first | exact HB.out | apply below_alloc | apply pw_below_drewN | apply below_drew1))) : w.heap.size ≤ gb102)); have n3_ := Aside0.mk ((by rw [hg]; exact (below_size (by repeat (with_reducible first | exact HB.out | apply below_alloc | apply pw_below_drewN | apply below_drew1))) : w.heap.size ≤ gb102)); clear HB; have HB := n0_; have BK102 := n1_; have GW102 := n2_; have GE102 := n3_; clear n0_ n1_ n2_ n3_; clear hb hbox hg; have hcz5_0 : w4.cell? ⟨gb102, 0, none⟩ = some (.slice A0_0 l0_0.length c0_0) := (blk_cell BK102.out 0).trans rfl; have hcz5_1 : w4.cell? ⟨gb102, 1, none⟩ = some (.bool a0_1) := (blk_cell BK102.out 1).trans rfl; have hfz5_0 := blk_frozen BK102.out 0; have hfz5_1 := blk_frozen BK102.out 1) | ((with_reducible refine gate_callee (f := 24) rfl ?_); refine goesL_ (some 5) rfl rfl Tryz.func24 (by kernel_rfl) rfl #[.slice A0_0 l0_0.length c0_0] rfl (by (try simp only [List.map_toArray, List.map_cons, List.map_nil]); first | done | rfl | (simp only [List.length_drop, List.length_take]; rfl)) ?_; (with_reducible refine (laws_zzFits2.calls k _ _ l0_0 false _ ?side1 ?side2 A2.out).mono ?_); (case side1 => repeat (first | exact (Kd.C_below HR0_0.out HB.out) | (with_reducible refine Kd.C_alloc ?_ _) | (with_reducible refine Kd.C_drewN ?_ _) | (with_reducible refine Kd.C_drew ?_))); (case side2 => exact HC0_0.out); rintro e w' ⟨rfl, ⟨nd, rfl⟩⟩; refine ⟨_, rfl, ?_⟩) | ((with_reducible refine gate_callee (f := 24) rfl ?_); refine goesL_ (some 5) rfl rfl Tryz.func24 (by kernel_rfl) rfl #[.slice A0_0 l0_0.length c0_0] rfl (by (try simp only [List.map_toArray, List.map_cons, List.map_nil]); first | done | rfl | (simp only [List.length_drop, List.length_take]; rfl)) ?_; (with_reducible refine (laws_zzFits2.calls k _ _ l0_0 true _ ?side1 ?side2 A2.out).mono ?_); (case side1 => repeat (first | exact (Kd.C_below HR0_0.out HB.out) | (with_reducible refine Kd.C_alloc ?_ _) | (with_reducible refine Kd.C_drewN ?_ _) | (with_reducible refine Kd.C_drew ?_))); (case side2 => exact HC0_0.out); rintro e w' ⟨rfl, ⟨nd, rfl⟩⟩; refine ⟨_, rfl, ?_⟩))
  go_ret
  exact ⟨by first | rfl | (simp [errW_none, errW_some] <;> rfl) | (simp [*, errW_none, errW_some] <;> rfl), by repeat (with_reducible first | exact HB.out | apply below_alloc | apply pw_below_drewN | apply below_drew1 | refine below_set ?_ GE102.out)⟩
end Go.Proofs.YtjpcdkhapeejjaaGreatDoor.A
end
