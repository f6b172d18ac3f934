/- Steps of the proof of the law: contracts of functions of the given program, and plain lemmas about what they compute.
Conditions: none beyond those that each theorem names. -/
import Derived.Test.YtjpcdkhapeejjaaGreatDoorK27
import Derived.Test.YtjpcdkhapeejjaaGreatDoorK28
set_option linter.unusedVariables false
set_option linter.unusedSimpArgs false
open Go.RowKit Go.Proofs.YtjpcdkhapeejjaaGreatDoorW.PrintWords Go.Proofs.YtjpcdkhapeejjaaGreatDoorW.PrintLast Go.Proofs.YtjpcdkhapeejjaaGreatDoorW.PrintMore
namespace Go.Proofs.YtjpcdkhapeejjaaGreatDoor.A
attribute [local go_sem high] eqA54
mutual
def spec_ExprGood.l0 : Nat → List (List (S54)) → Int → Int → List (List (S54)) → Bool → Option (Bool)
  | 0, _, _, _, _, _ => none
  | k + 1, x12, x13, x14, x128000, x128001 => if x14 < x13 then (if 0 ≤ x14 then (if x14 < (x12.length : Int) then ((spec_Good.f k x14 (rd_L5 x12 x14)).bind fun t129 => (if t129 = true then (spec_ExprGood.l0 k x12 x13 (wrap64 (x14 + 1)) x128000 x128001) else (some false))) else (none)) else (none)) else (if x128001 = true then (spec_ExprGood.j1 k false x128000 x128001) else (if 0 < (x128000.length : Int) then (if ((rd_L5 x128000 0).length : Int) = 1 then (if 0 < ((rd_L5 x128000 0).length : Int) then (spec_ExprGood.j1 k (((rd_T54 (rd_L5 x128000 0) 0).f0) || (!(((rd_T54 (rd_L5 x128000 0) 0).f1) == 0) || (!(((rd_T54 (rd_L5 x128000 0) 0).f2) == 0) || (!(((rd_T54 (rd_L5 x128000 0) 0).f3) == 1))))) x128000 x128001) else (none)) else (spec_ExprGood.j1 k true x128000 x128001)) else (none)))
def spec_ExprGood.j1 : Nat → Bool → List (List (S54)) → Bool → Option (Bool)
  | 0, _, _, _ => none
  | k + 1, x44, x128000, x128001 => if x44 = true then (some false) else (if 3 < (x128000.length : Int) then ((spec_Star.f (rd_L5 x128000 3)).bind fun t134 => (if t134 = true then (spec_ExprGood.j2 k false x128000 x128001) else (if 5 < (x128000.length : Int) then ((spec_Star.f (rd_L5 x128000 5)).bind fun t136 => (spec_ExprGood.j2 k (!t136) x128000 x128001)) else (none)))) else (none))
def spec_ExprGood.j2 : Nat → Bool → List (List (S54)) → Bool → Option (Bool)
  | 0, _, _, _ => none
  | k + 1, x58, x128000, x128001 => if x58 = true then (some false) else (if 4 < (x128000.length : Int) then ((spec_Star.f (rd_L5 x128000 4)).bind fun t138 => (if t138 = true then (some true) else (if 3 < (x128000.length : Int) then (spec_ExprGood.l1 k (rd_L5 x128000 3) ((rd_L5 x128000 3).length : Int) 0) else (none)))) else (none))
def spec_ExprGood.l1 : Nat → List (S54) → Int → Int → Option (Bool)
  | 0, _, _, _ => none
  | k + 1, x68, x69, x70 => if x70 < x69 then (if 0 ≤ x70 then (if x70 < (x68.length : Int) then (if ((rd_T54 x68 x70).f0 = true) then (spec_ExprGood.l1 k x68 x69 (wrap64 (x70 + 1))) else (if ((rd_T54 x68 x70).f1) > 28 then (some false) else (spec_ExprGood.l1 k x68 x69 (wrap64 (x70 + 1))))) else (none)) else (none)) else (some true)
end
def spec_ExprGood.f (k : Nat) (l0_0 : List (List (S54))) (a0_1 : Bool) : Option (Bool) := if (l0_0.length : Int) = 6 then (spec_ExprGood.l0 k l0_0 (l0_0.length : Int) 0 l0_0 a0_1) else (some false)
set_option maxHeartbeats 8000000 in
set_option maxRecDepth 100000 in
theorem spec_ExprGood.calls (k : Nat) (A0_0 : Option Addr) (c0_0 : Nat) (l0_0 : List (List (S54))) (a0_1 : Bool) (r : Bool) (w : World) (hr0_0 : Kd.C (Kd.slice 54 k54) w A0_0 l0_0.length l0_0) (hc0_0 : l0_0.length ≤ c0_0) (h : spec_ExprGood.f k l0_0 a0_1 = some r) :
    Calls Tryz.prog 25 #[.agg #[.slice A0_0 l0_0.length c0_0, .bool a0_1]] w fun e w' => e = .returned (.bool r) ∧ Below w.heap.size w w' := by
 have hu30 := Tryz.underlying30
 have hu54 := Tryz.underlying54
 have HR0_0 := Aside0.mk hr0_0
 have HC0_0 := Aside0.mk hc0_0
 clear hr0_0 hc0_0
 have HB := Aside0.mk (Below.refl w.heap.size w)
 have H : (if (l0_0.length : Int) = 6 then (spec_ExprGood.l0 k l0_0 (l0_0.length : Int) 0 l0_0 a0_1) else (some false)) = some r := h
 clear h
 refine (Classical.em ((l0_0.length : Int) = 6)).elim (fun c2 => ?a1_) (fun c2 => ?b1_)
 case a1_ =>
  rw [if_pos c2] at H
  have c2b0 : ((l0_0.length : Int) == 6) = true := beq_iff_eq.mpr c2
  have c2b1 : ((l0_0.length : Int) != 6) = false := bne_eq_false_iff_eq.mpr c2
  clear c2
  have H' := Aside0.mk H
  clear H
  go_enter Tryz.func25, Tryz.ntmps25
  go_wp2_with (first | ((with_reducible refine gate_dst (N := 1) rfl ?_); (try (refine gate_guard (by rfl) ?_; dsimp only)); refine box_event ?hg (N := 1) ?hd (cs := #[.slice A0_0 l0_0.length c0_0, .bool a0_1]) (t := 30) ?hr ?_; (case hd => rfl); (case hg => rfl); (case hr => first | (go_simp; done) | (go_simp; rfl)); intro gb127 hg w3 hbox hb; have n0_ := Aside0.mk (below_step (by repeat (with_reducible first | exact HB.out | apply below_alloc | apply pw_below_drewN | apply below_drew1)) hb); have n1_ := Aside0.mk (hbox); have n2_ := Aside0.mk ((by rw [hg]; exact (below_size (by repeat (with_reducible first | exact HB.out | apply below_alloc | apply pw_below_drewN | apply below_drew1))) : w.heap.size ≤ gb127)); have n3_ := Aside0.mk ((by rw [hg]; exact (below_size (by repeat (with_reducible first | exact HB.out | apply below_alloc | apply pw_below_drewN | apply below_drew1))) : w.heap.size ≤ gb127)); clear HB; have HB := n0_; have BK127 := n1_; have GW127 := n2_; have GE127 := n3_; clear n0_ n1_ n2_ n3_; clear hb hbox hg; have hcz4_0 : w3.cell? ⟨gb127, 0, none⟩ = some (.slice A0_0 l0_0.length c0_0) := (blk_cell BK127.out 0).trans rfl; have hcz4_1 : w3.cell? ⟨gb127, 1, none⟩ = some (.bool a0_1) := (blk_cell BK127.out 1).trans rfl; have hfz4_0 := blk_frozen BK127.out 0; have hfz4_1 := blk_frozen BK127.out 1))
  go_loopg [14] k (fun kq v14 w' => ∃ (x14_1 : Int), v14 = .int .i64 x14_1 ∧ Aside0 (spec_ExprGood.l0 kq l0_0 (l0_0.length : Int) x14_1 l0_0 a0_1 = some r) ∧ Aside0 (kq ≤ k) ∧ Aside0 (w'.heap[gb127]? = some (.cells #[(.slice A0_0 l0_0.length c0_0), .bool a0_1] 30 (0, 0))) ∧ Aside0 (Below w.heap.size w w'))
  case atStart => exact ⟨(0), (by first | rfl | (simp; done) | (simp [*]; done)), H', ⟨Nat.le_refl _⟩, ⟨by (with_reducible repeat (first | refine blk_drewN ?_ _ | refine blk_drew ?_ | refine blk_alloc ?_ _)); exact BK127.out⟩, ⟨by repeat (with_reducible first | exact HB.out | apply below_alloc | apply pw_below_drewN | apply below_drew1 | refine below_set ?_ GE127.out)⟩⟩
  case round =>
   clear H'
   try clear c2
   try clear c2b0
   try clear c2b1
   try clear hcz4_0
   try clear hcz4_1
   try clear hfz4_0
   try clear hfz4_1
   obtain ⟨x14_1, rfl, HA, HK1, BK127, HB⟩ := hrel
   cases gk with
   | zero => exact absurd HA.out (by simp [spec_ExprGood.l0])
   | succ k1 =>
    have H := HA.out
    clear HA
    simp only [spec_ExprGood.l0] at H
    refine (Classical.em (x14_1 < (l0_0.length : Int))).elim (fun c5 => ?a2_) (fun c5 => ?b2_)
    case' a2_ =>
     rw [if_pos c5] at H
     have c5b0 : decide (x14_1 < (l0_0.length : Int)) = true := decide_eq_true c5
     clear c5
     refine (Classical.em (0 ≤ x14_1)).elim (fun c6 => ?a3_) (fun c6 => ?b3_)
    case' a3_ =>
     rw [if_pos c6] at H
     have c6b0 : decide (0 ≤ x14_1) = true := decide_eq_true c6
     clear c6
     refine (Classical.em (x14_1 < (l0_0.length : Int))).elim (fun c7 => ?a4_) (fun c7 => ?b4_)
    case' a4_ =>
     rw [if_pos c7] at H
     have c7b0 : decide (x14_1 < (l0_0.length : Int)) = true := decide_eq_true c7
     clear c7
     replace H := Option.bind_eq_some_iff.mp H
     obtain ⟨t129, A80, H⟩ := H
     try dsimp only at H
     have A8 := Aside0.mk A80
     clear A80
     refine (Classical.em (t129 = true)).elim (fun c9 => ?a5_) (fun c9 => ?b5_)
    case a5_ =>
     subst c9
     rw [if_pos rfl] at H
     have H' := Aside0.mk H
     clear H
     have p128 : 0 ≤ (x14_1 : Int) := of_decide_eq_true (by first | (with_reducible assumption) | assumption)
     have q128 : x14_1 < (l0_0.length : Int) := of_decide_eq_true (by first | (with_reducible assumption) | assumption)
     obtain ⟨ad128, A128_0, c128_0, e128, hx128_0, hl128_0, hi128_0⟩ := at_L5 HR0_0.out x14_1 p128 q128
     cases e128
     replace hx128_0 := (HB.out.cell (World.block_lt_of_cell? w _ hx128_0)).trans hx128_0
     have HR128_0 := Aside0.mk hi128_0
     have HC128_0 := Aside0.mk hl128_0
     clear hi128_0 hl128_0
     replace p128 := eq_true p128
     replace q128 := eq_true q128
     go_wp2_with (first | ((with_reducible refine gate_callee (f := 38) rfl ?_); refine goesL_ (some 21) rfl rfl Tryz.func38 (by kernel_rfl) rfl #[.int .i64 x14_1, .slice A128_0 (rd_L5 l0_0 x14_1).length c128_0] rfl (by (try simp only [List.map_toArray, List.map_cons, List.map_nil]); first | done | rfl | (simp only [List.length_drop, List.length_take]; rfl)) ?_; (with_reducible refine (spec_Good.calls k1 x14_1 _ _ (rd_L5 l0_0 x14_1) true _ ?side1 ?side2 A8.out).mono ?_); (case side1 => repeat (first | exact (Kd.C_below HR128_0.out HB.out) | (with_reducible refine Kd.C_alloc ?_ _) | (with_reducible refine Kd.C_drewN ?_ _) | (with_reducible refine Kd.C_drew ?_))); (case side2 => exact HC128_0.out); rintro e w10 ⟨rfl, hb⟩; refine ⟨_, rfl, ?_⟩; have n0_ := Aside0.mk (blk_below (g := gb127) (o := .cells #[.slice (some ad128) l0_0.length c0_0, .bool a0_1] 30 (0, 0)) (by (with_reducible repeat (first | refine blk_drewN ?_ _ | refine blk_drew ?_ | refine blk_alloc ?_ _)); exact BK127.out) hb); have n1_ := Aside0.mk (below_step (by repeat (with_reducible first | exact HB.out | apply below_alloc | apply pw_below_drewN | apply below_drew1 | refine below_set ?_ GE127.out)) hb); clear BK127; clear HB; have BK127 := n0_; have HB := n1_; clear n0_ n1_; (try clear hb); (try clear hb2); (try clear hk); (try clear hi)))
     go_roundg k1
     case measure => have := HK1.out; omega
     case rel => exact ⟨(wrap64 (x14_1 + 1)), (by first | rfl | (simp; done) | (simp [*]; done)), H', ⟨by have := HK1.out; omega⟩, ⟨by (with_reducible repeat (first | refine blk_drewN ?_ _ | refine blk_drew ?_ | refine blk_alloc ?_ _)); exact BK127.out⟩, ⟨by repeat (with_reducible first | exact HB.out | apply below_alloc | apply pw_below_drewN | apply below_drew1 | refine below_set ?_ GE127.out)⟩⟩
    case b5_ =>
     replace c9 := Bool.eq_false_iff.mpr c9
     subst c9
     rw [if_neg (show ¬ (false = true) by decide)] at H
     obtain rfl := Option.some.inj H
     have p128 : 0 ≤ (x14_1 : Int) := of_decide_eq_true (by first | (with_reducible assumption) | assumption)
     have q128 : x14_1 < (l0_0.length : Int) := of_decide_eq_true (by first | (with_reducible assumption) | assumption)
     obtain ⟨ad128, A128_0, c128_0, e128, hx128_0, hl128_0, hi128_0⟩ := at_L5 HR0_0.out x14_1 p128 q128
     cases e128
     replace hx128_0 := (HB.out.cell (World.block_lt_of_cell? w _ hx128_0)).trans hx128_0
     have HR128_0 := Aside0.mk hi128_0
     have HC128_0 := Aside0.mk hl128_0
     clear hi128_0 hl128_0
     replace p128 := eq_true p128
     replace q128 := eq_true q128
     go_wp2_with (first | ((with_reducible refine gate_callee (f := 38) rfl ?_); refine goesL_ (some 21) rfl rfl Tryz.func38 (by kernel_rfl) rfl #[.int .i64 x14_1, .slice A128_0 (rd_L5 l0_0 x14_1).length c128_0] rfl (by (try simp only [List.map_toArray, List.map_cons, List.map_nil]); first | done | rfl | (simp only [List.length_drop, List.length_take]; rfl)) ?_; (with_reducible refine (spec_Good.calls k1 x14_1 _ _ (rd_L5 l0_0 x14_1) false _ ?side1 ?side2 A8.out).mono ?_); (case side1 => repeat (first | exact (Kd.C_below HR128_0.out HB.out) | (with_reducible refine Kd.C_alloc ?_ _) | (with_reducible refine Kd.C_drewN ?_ _) | (with_reducible refine Kd.C_drew ?_))); (case side2 => exact HC128_0.out); rintro e w11 ⟨rfl, hb⟩; refine ⟨_, rfl, ?_⟩; have n0_ := Aside0.mk (blk_below (g := gb127) (o := .cells #[.slice (some ad128) l0_0.length c0_0, .bool a0_1] 30 (0, 0)) (by (with_reducible repeat (first | refine blk_drewN ?_ _ | refine blk_drew ?_ | refine blk_alloc ?_ _)); exact BK127.out) hb); have n1_ := Aside0.mk (below_step (by repeat (with_reducible first | exact HB.out | apply below_alloc | apply pw_below_drewN | apply below_drew1 | refine below_set ?_ GE127.out)) hb); clear BK127; clear HB; have BK127 := n0_; have HB := n1_; clear n0_ n1_; (try clear hb); (try clear hb2); (try clear hk); (try clear hi)))
     go_ret
     exact ⟨by first | rfl | (simp [errW_none, errW_some] <;> rfl) | (simp [*, errW_none, errW_some] <;> rfl), by repeat (with_reducible first | exact HB.out | apply below_alloc | apply pw_below_drewN | apply below_drew1 | refine below_set ?_ GE127.out)⟩
    case b4_ =>
     rw [if_neg c7] at H
     exact absurd H (by simp)
    case b3_ =>
     rw [if_neg c6] at H
     exact absurd H (by simp)
    case b2_ =>
     rw [if_neg c5] at H
     have c5b0 : decide (x14_1 < (l0_0.length : Int)) = false := decide_eq_false c5
     clear c5
     have HC12 := Aside0.mk H
     clear H
     go_upto_region 9 with (fail)
     go_cut [44] (fun v44 wc => ∃ (kq : Nat) (x44_11 : Bool), v44 = .bool x44_11 ∧ Aside0 (spec_ExprGood.j1 kq x44_11 l0_0 a0_1 = some r) ∧ Aside0 (kq ≤ k1) ∧ Aside0 (wc.heap[gb127]? = some (.cells #[(.slice A0_0 l0_0.length c0_0), .bool a0_1] 30 (0, 0))) ∧ Aside0 (Below w.heap.size w wc))
     case first =>
      have H := HC12.out
      clear HC12
      refine (Classical.em (a0_1 = true)).elim (fun c13 => ?a6_) (fun c13 => ?b6_)
      case a6_ =>
       subst c13
       rw [if_pos rfl] at H
       have H' := Aside0.mk H
       clear H
       have hcz14_0 : wr.cell? ⟨gb127, 0, none⟩ = some (.slice A0_0 l0_0.length c0_0) := (blk_cell BK127.out 0).trans rfl
       have hcz14_1 : wr.cell? ⟨gb127, 1, none⟩ = some (.bool true) := (blk_cell BK127.out 1).trans rfl
       have hfz14_0 := blk_frozen BK127.out 0
       have hfz14_1 := blk_frozen BK127.out 1
       go_wp2
       go_meet
       case rel => exact ⟨_, (false), (by first | rfl | (simp; done) | (simp [*]; done)), H', ⟨by have := HK1.out; first | omega | exact Nat.le_refl _⟩, ⟨by (with_reducible repeat (first | refine blk_drewN ?_ _ | refine blk_drew ?_ | refine blk_alloc ?_ _)); exact BK127.out⟩, ⟨by repeat (with_reducible first | exact HB.out | apply below_alloc | apply pw_below_drewN | apply below_drew1 | refine below_set ?_ GE127.out)⟩⟩
      case' b6_ =>
       replace c13 := Bool.eq_false_iff.mpr c13
       subst c13
       rw [if_neg (show ¬ (false = true) by decide)] at H
       refine (Classical.em (0 < (l0_0.length : Int))).elim (fun c15 => ?a7_) (fun c15 => ?b7_)
      case' a7_ =>
       rw [if_pos c15] at H
       have c15b0 : decide (0 < (l0_0.length : Int)) = true := decide_eq_true c15
       have c15b1 : decide (0 < l0_0.length) = true := decide_eq_true (by omega)
       clear c15
       (first | rw [c15b0] | (simp only [i64_w, i32_w]; rw [c15b0]) | skip)
       refine (Classical.em (((rd_L5 l0_0 0).length : Int) = 1)).elim (fun c16 => ?a8_) (fun c16 => ?b8_)
      case' a8_ =>
       rw [if_pos c16] at H
       have c16b0 : (((rd_L5 l0_0 0).length : Int) == 1) = true := beq_iff_eq.mpr c16
       have c16b1 : (((rd_L5 l0_0 0).length : Int) != 1) = false := bne_eq_false_iff_eq.mpr c16
       clear c16
       refine (Classical.em (0 < ((rd_L5 l0_0 0).length : Int))).elim (fun c17 => ?a9_) (fun c17 => ?b9_)
      case a9_ =>
       rw [if_pos c17] at H
       have c17b0 : decide (0 < ((rd_L5 l0_0 0).length : Int)) = true := decide_eq_true c17
       have c17b1 : decide (0 < (rd_L5 l0_0 0).length) = true := decide_eq_true (by omega)
       clear c17
       have H' := Aside0.mk H
       clear H
       have hcz18_0 : wr.cell? ⟨gb127, 0, none⟩ = some (.slice A0_0 l0_0.length c0_0) := (blk_cell BK127.out 0).trans rfl
       have hcz18_1 : wr.cell? ⟨gb127, 1, none⟩ = some (.bool false) := (blk_cell BK127.out 1).trans rfl
       have hfz18_0 := blk_frozen BK127.out 0
       have hfz18_1 := blk_frozen BK127.out 1
       have p130 : 0 ≤ (0 : Int) := (by omega)
       have q130 : 0 < (l0_0.length : Int) := of_decide_eq_true (by first | (with_reducible assumption) | assumption)
       obtain ⟨ad130, A130_0, c130_0, e130, hx130_0, hl130_0, hi130_0⟩ := at_L5 HR0_0.out 0 p130 q130
       cases e130
       have qi130 : (0 < l0_0.length) = True := eq_true (by omega)
       (try rw [show ((0 : Int)).toNat = 0 from rfl] at hx130_0)
       (try rw [Addr.add_zero'] at hx130_0)
       replace hx130_0 := (HB.out.cell (World.block_lt_of_cell? w _ hx130_0)).trans hx130_0
       have HR130_0 := Aside0.mk hi130_0
       have HC130_0 := Aside0.mk hl130_0
       clear hi130_0 hl130_0
       replace p130 := eq_true p130
       replace q130 := eq_true q130
       have p131 : 0 ≤ (0 : Int) := (by omega)
       have q131 : 0 < (l0_0.length : Int) := of_decide_eq_true (by first | (with_reducible assumption) | assumption)
       obtain ⟨ad131, A131_0, c131_0, e131, hx131_0, hl131_0, hi131_0⟩ := at_L5 HR0_0.out 0 p131 q131
       obtain rfl : ad130 = ad131 := (by injection e131)
       have qi131 : (0 < l0_0.length) = True := eq_true (by omega)
       (try rw [show ((0 : Int)).toNat = 0 from rfl] at hx131_0)
       (try rw [Addr.add_zero'] at hx131_0)
       replace hx131_0 := (HB.out.cell (World.block_lt_of_cell? w _ hx131_0)).trans hx131_0
       have HR131_0 := Aside0.mk hi131_0
       have HC131_0 := Aside0.mk hl131_0
       clear hi131_0 hl131_0
       replace p131 := eq_true p131
       replace q131 := eq_true q131
       have ea_ := Option.some.inj (hx130_0.symm.trans hx131_0)
       injection ea_ with ea_ en_ ec_
       subst ea_
       subst ec_
       clear en_
       have p132 : 0 ≤ (0 : Int) := (by omega)
       have q132 : 0 < ((rd_L5 l0_0 0).length : Int) := of_decide_eq_true (by first | (with_reducible assumption) | assumption)
       obtain ⟨ad132, e132, hx132_0, hx132_1, hx132_2, hx132_3⟩ := at_T54 HR131_0.out 0 p132 q132
       cases e132
       have qi132 : (0 < (rd_L5 l0_0 0).length) = True := eq_true (by omega)
       (try rw [show ((0 : Int)).toNat = 0 from rfl] at hx132_0)
       (try rw [show 0 * 4 = 0 from rfl] at hx132_0)
       (try rw [Addr.add_zero'] at hx132_0)
       (try rw [show ((0 : Int)).toNat = 0 from rfl] at hx132_1)
       (try rw [show 0 * 4 = 0 from rfl] at hx132_1)
       (try rw [Addr.add_zero'] at hx132_1)
       (try rw [show ((0 : Int)).toNat = 0 from rfl] at hx132_2)
       (try rw [show 0 * 4 = 0 from rfl] at hx132_2)
       (try rw [Addr.add_zero'] at hx132_2)
       (try rw [show ((0 : Int)).toNat = 0 from rfl] at hx132_3)
       (try rw [show 0 * 4 = 0 from rfl] at hx132_3)
       (try rw [Addr.add_zero'] at hx132_3)
       replace hx132_0 := (HB.out.cell (World.block_lt_of_cell? w _ hx132_0)).trans hx132_0
       replace hx132_1 := (HB.out.cell (World.block_lt_of_cell? w _ hx132_1)).trans hx132_1
       replace hx132_2 := (HB.out.cell (World.block_lt_of_cell? w _ hx132_2)).trans hx132_2
       replace hx132_3 := (HB.out.cell (World.block_lt_of_cell? w _ hx132_3)).trans hx132_3
       replace p132 := eq_true p132
       replace q132 := eq_true q132
       go_wp2
       go_meet
       case rel => exact ⟨_, ((((rd_T54 (rd_L5 l0_0 0) 0).f0) || (!(((rd_T54 (rd_L5 l0_0 0) 0).f1) == 0) || (!(((rd_T54 (rd_L5 l0_0 0) 0).f2) == 0) || (!(((rd_T54 (rd_L5 l0_0 0) 0).f3) == 1)))))), (by first | rfl | (simp; done) | (simp [*]; done)), H', ⟨by have := HK1.out; first | omega | exact Nat.le_refl _⟩, ⟨by (with_reducible repeat (first | refine blk_drewN ?_ _ | refine blk_drew ?_ | refine blk_alloc ?_ _)); exact BK127.out⟩, ⟨by repeat (with_reducible first | exact HB.out | apply below_alloc | apply pw_below_drewN | apply below_drew1 | refine below_set ?_ GE127.out)⟩⟩
      case b9_ =>
       rw [if_neg c17] at H
       exact absurd H (by simp)
      case b8_ =>
       rw [if_neg c16] at H
       have c16b0 : (((rd_L5 l0_0 0).length : Int) == 1) = false := beq_eq_false_iff_ne.mpr c16
       have c16b1 : (((rd_L5 l0_0 0).length : Int) != 1) = true := bne_iff_ne.mpr c16
       have H' := Aside0.mk H
       clear H
       have hcz19_0 : wr.cell? ⟨gb127, 0, none⟩ = some (.slice A0_0 l0_0.length c0_0) := (blk_cell BK127.out 0).trans rfl
       have hcz19_1 : wr.cell? ⟨gb127, 1, none⟩ = some (.bool false) := (blk_cell BK127.out 1).trans rfl
       have hfz19_0 := blk_frozen BK127.out 0
       have hfz19_1 := blk_frozen BK127.out 1
       have p130 : 0 ≤ (0 : Int) := (by omega)
       have q130 : 0 < (l0_0.length : Int) := of_decide_eq_true (by first | (with_reducible assumption) | assumption)
       obtain ⟨ad130, A130_0, c130_0, e130, hx130_0, hl130_0, hi130_0⟩ := at_L5 HR0_0.out 0 p130 q130
       cases e130
       have qi130 : (0 < l0_0.length) = True := eq_true (by omega)
       (try rw [show ((0 : Int)).toNat = 0 from rfl] at hx130_0)
       (try rw [Addr.add_zero'] at hx130_0)
       replace hx130_0 := (HB.out.cell (World.block_lt_of_cell? w _ hx130_0)).trans hx130_0
       have HR130_0 := Aside0.mk hi130_0
       have HC130_0 := Aside0.mk hl130_0
       clear hi130_0 hl130_0
       replace p130 := eq_true p130
       replace q130 := eq_true q130
       go_wp2
       go_meet
       case rel => exact ⟨_, (true), (by first | rfl | (simp; done) | (simp [*]; done)), H', ⟨by have := HK1.out; first | omega | exact Nat.le_refl _⟩, ⟨by (with_reducible repeat (first | refine blk_drewN ?_ _ | refine blk_drew ?_ | refine blk_alloc ?_ _)); exact BK127.out⟩, ⟨by repeat (with_reducible first | exact HB.out | apply below_alloc | apply pw_below_drewN | apply below_drew1 | refine below_set ?_ GE127.out)⟩⟩
      case b7_ =>
       rw [if_neg c15] at H
       exact absurd H (by simp)
     case rest =>
      clear HC12
      try clear c2
      try clear c2b0
      try clear c2b1
      try clear c5
      try clear c5b0
      try clear c6
      try clear c6b0
      try clear c7
      try clear c7b0
      try clear c9
      try clear c13
      try clear c15
      try clear c15b0
      try clear c15b1
      try clear c16
      try clear c16b0
      try clear c16b1
      try clear c17
      try clear c17b0
      try clear c17b1
      try clear hcz14_0
      try clear hcz14_1
      try clear hcz18_0
      try clear hcz18_1
      try clear hcz19_0
      try clear hcz19_1
      try clear hcz4_0
      try clear hcz4_1
      try clear hfz14_0
      try clear hfz14_1
      try clear hfz18_0
      try clear hfz18_1
      try clear hfz19_0
      try clear hfz19_1
      try clear hfz4_0
      try clear hfz4_1
      try clear hx128_0
      try clear hx130_0
      try clear hx131_0
      try clear hx132_0
      try clear hx132_1
      try clear hx132_2
      try clear hx132_3
      try clear p128
      try clear p130
      try clear p131
      try clear p132
      try clear q128
      try clear q130
      try clear q131
      try clear q132
      obtain ⟨kq, x44_11, rfl, HA, HJ11, BK127, HB⟩ := hcut
      cases kq with
      | zero => exact absurd HA.out (by simp [spec_ExprGood.j1])
      | succ kj11 =>
       have H := HA.out
       clear HA
       simp only [spec_ExprGood.j1] at H
       refine (Classical.em (x44_11 = true)).elim (fun c20 => ?a10_) (fun c20 => ?b10_)
       case a10_ =>
        subst c20
        rw [if_pos rfl] at H
        obtain rfl := Option.some.inj H
        go_wp2
        go_ret
        exact ⟨by first | rfl | (simp [errW_none, errW_some] <;> rfl) | (simp [*, errW_none, errW_some] <;> rfl), by repeat (with_reducible first | exact HB.out | apply below_alloc | apply pw_below_drewN | apply below_drew1 | refine below_set ?_ GE127.out)⟩
       case b10_ =>
        replace c20 := Bool.eq_false_iff.mpr c20
        subst c20
        rw [if_neg (show ¬ (false = true) by decide)] at H
        have HC21 := Aside0.mk H
        clear H
        go_upto_region 11 with (fail)
        go_cut [58] (fun v58 wc => ∃ (kq : Nat) (x58_20 : Bool), v58 = .bool x58_20 ∧ Aside0 (spec_ExprGood.j2 kq x58_20 l0_0 a0_1 = some r) ∧ Aside0 (kq ≤ kj11) ∧ Aside0 (wc.heap[gb127]? = some (.cells #[(.slice A0_0 l0_0.length c0_0), .bool a0_1] 30 (0, 0))) ∧ Aside0 (Below w.heap.size w wc))
        case first =>
         have H := HC21.out
         clear HC21
         refine (Classical.em (3 < (l0_0.length : Int))).elim (fun c22 => ?a11_) (fun c22 => ?b11_)
         case' a11_ =>
          rw [if_pos c22] at H
          have c22b0 : decide (3 < (l0_0.length : Int)) = true := decide_eq_true c22
          have c22b1 : decide (3 < l0_0.length) = true := decide_eq_true (by omega)
          clear c22
          (first | rw [c22b0] | (simp only [i64_w, i32_w]; rw [c22b0]) | skip)
          replace H := Option.bind_eq_some_iff.mp H
          obtain ⟨t134, A230, H⟩ := H
          try dsimp only at H
          have A23 := Aside0.mk A230
          clear A230
          refine (Classical.em (t134 = true)).elim (fun c24 => ?a12_) (fun c24 => ?b12_)
         case a12_ =>
          subst c24
          rw [if_pos rfl] at H
          have H' := Aside0.mk H
          clear H
          have hcz25_0 : wc.cell? ⟨gb127, 0, none⟩ = some (.slice A0_0 l0_0.length c0_0) := (blk_cell BK127.out 0).trans rfl
          have hcz25_1 : wc.cell? ⟨gb127, 1, none⟩ = some (.bool a0_1) := (blk_cell BK127.out 1).trans rfl
          have hfz25_0 := blk_frozen BK127.out 0
          have hfz25_1 := blk_frozen BK127.out 1
          have p133 : 0 ≤ (3 : Int) := (by omega)
          have q133 : 3 < (l0_0.length : Int) := of_decide_eq_true (by first | (with_reducible assumption) | assumption)
          obtain ⟨ad133, A133_0, c133_0, e133, hx133_0, hl133_0, hi133_0⟩ := at_L5 HR0_0.out 3 p133 q133
          cases e133
          (try simp only [show (3 : Int).toNat = 3 from rfl, Nat.reduceMul, Nat.reduceEqDiff, Go.Addr.add, ↓reduceIte] at hx133_0)
          have qi133 : (3 < l0_0.length) = True := eq_true (by omega)
          (try rw [show ((3 : Int)).toNat = 3 from rfl] at hx133_0)
          replace hx133_0 := (HB.out.cell (World.block_lt_of_cell? w _ hx133_0)).trans hx133_0
          have HR133_0 := Aside0.mk hi133_0
          have HC133_0 := Aside0.mk hl133_0
          clear hi133_0 hl133_0
          replace p133 := eq_true p133
          replace q133 := eq_true q133
          go_wp2_with (first | ((with_reducible refine gate_callee (f := 39) rfl ?_); refine goesL_ (some 49) rfl rfl Tryz.func39 (by kernel_rfl) rfl #[.slice A133_0 (rd_L5 l0_0 3).length c133_0] rfl (by (try simp only [List.map_toArray, List.map_cons, List.map_nil]); first | done | rfl | (simp only [List.length_drop, List.length_take]; rfl)) ?_; (with_reducible refine (spec_Star.calls _ _ (rd_L5 l0_0 3) true _ ?side1 ?side2 A23.out).mono ?_); (case side1 => repeat (first | exact (Kd.C_below HR133_0.out HB.out) | (with_reducible refine Kd.C_alloc ?_ _) | (with_reducible refine Kd.C_drewN ?_ _) | (with_reducible refine Kd.C_drew ?_))); (case side2 => exact HC133_0.out); rintro e w' ⟨rfl, ⟨nd, rfl⟩⟩; refine ⟨_, rfl, ?_⟩))
          go_meet
          case rel => exact ⟨_, (false), (by first | rfl | (simp; done) | (simp [*]; done)), H', ⟨by have := HK1.out; have := HJ11.out; first | omega | exact Nat.le_refl _⟩, ⟨by (with_reducible repeat (first | refine blk_drewN ?_ _ | refine blk_drew ?_ | refine blk_alloc ?_ _)); exact BK127.out⟩, ⟨by repeat (with_reducible first | exact HB.out | apply below_alloc | apply pw_below_drewN | apply below_drew1 | refine below_set ?_ GE127.out)⟩⟩
         case' b12_ =>
          replace c24 := Bool.eq_false_iff.mpr c24
          subst c24
          rw [if_neg (show ¬ (false = true) by decide)] at H
          refine (Classical.em (5 < (l0_0.length : Int))).elim (fun c26 => ?a13_) (fun c26 => ?b13_)
         case a13_ =>
          rw [if_pos c26] at H
          have c26b0 : decide (5 < (l0_0.length : Int)) = true := decide_eq_true c26
          have c26b1 : decide (5 < l0_0.length) = true := decide_eq_true (by omega)
          clear c26
          replace H := Option.bind_eq_some_iff.mp H
          obtain ⟨t136, A270, H⟩ := H
          try dsimp only at H
          have A27 := Aside0.mk A270
          clear A270
          have H' := Aside0.mk H
          clear H
          have hcz28_0 : wc.cell? ⟨gb127, 0, none⟩ = some (.slice A0_0 l0_0.length c0_0) := (blk_cell BK127.out 0).trans rfl
          have hcz28_1 : wc.cell? ⟨gb127, 1, none⟩ = some (.bool a0_1) := (blk_cell BK127.out 1).trans rfl
          have hfz28_0 := blk_frozen BK127.out 0
          have hfz28_1 := blk_frozen BK127.out 1
          have p133 : 0 ≤ (3 : Int) := (by omega)
          have q133 : 3 < (l0_0.length : Int) := of_decide_eq_true (by first | (with_reducible assumption) | assumption)
          obtain ⟨ad133, A133_0, c133_0, e133, hx133_0, hl133_0, hi133_0⟩ := at_L5 HR0_0.out 3 p133 q133
          cases e133
          (try simp only [show (3 : Int).toNat = 3 from rfl, Nat.reduceMul, Nat.reduceEqDiff, Go.Addr.add, ↓reduceIte] at hx133_0)
          have qi133 : (3 < l0_0.length) = True := eq_true (by omega)
          (try rw [show ((3 : Int)).toNat = 3 from rfl] at hx133_0)
          replace hx133_0 := (HB.out.cell (World.block_lt_of_cell? w _ hx133_0)).trans hx133_0
          have HR133_0 := Aside0.mk hi133_0
          have HC133_0 := Aside0.mk hl133_0
          clear hi133_0 hl133_0
          replace p133 := eq_true p133
          replace q133 := eq_true q133
          go_wp2_with (first | ((with_reducible refine gate_callee (f := 39) rfl ?_); refine goesL_ (some 49) rfl rfl Tryz.func39 (by kernel_rfl) rfl #[.slice A133_0 (rd_L5 l0_0 3).length c133_0] rfl (by (try simp only [List.map_toArray, List.map_cons, List.map_nil]); first | done | rfl | (simp only [List.length_drop, List.length_take]; rfl)) ?_; (with_reducible refine (spec_Star.calls _ _ (rd_L5 l0_0 3) false _ ?side1 ?side2 A23.out).mono ?_); (case side1 => repeat (first | exact (Kd.C_below HR133_0.out HB.out) | (with_reducible refine Kd.C_alloc ?_ _) | (with_reducible refine Kd.C_drewN ?_ _) | (with_reducible refine Kd.C_drew ?_))); (case side2 => exact HC133_0.out); rintro e w' ⟨rfl, ⟨nd, rfl⟩⟩; refine ⟨_, rfl, ?_⟩; have p135 : 0 ≤ (5 : Int) := (by omega); have q135 : 5 < (l0_0.length : Int) := of_decide_eq_true (by first | (with_reducible assumption) | assumption); obtain ⟨ad135, A135_0, c135_0, e135, hx135_0, hl135_0, hi135_0⟩ := at_L5 HR0_0.out 5 p135 q135; obtain rfl : ad133 = ad135 := (by injection e135); (try simp only [show (5 : Int).toNat = 5 from rfl, Nat.reduceMul, Nat.reduceEqDiff, Go.Addr.add, ↓reduceIte] at hx135_0); have qi135 : (5 < l0_0.length) = True := eq_true (by omega); (try rw [show ((5 : Int)).toNat = 5 from rfl] at hx135_0); replace hx135_0 := (HB.out.cell (World.block_lt_of_cell? w _ hx135_0)).trans hx135_0; have HR135_0 := Aside0.mk hi135_0; have HC135_0 := Aside0.mk hl135_0; clear hi135_0 hl135_0; replace p135 := eq_true p135; replace q135 := eq_true q135) | (go_at_call 39; (with_reducible refine (spec_Star.calls _ _ (rd_L5 l0_0 5) t136 _ ?side1 ?side2 A27.out).mono ?_); (case side1 => repeat (first | exact (Kd.C_below HR135_0.out (by repeat (with_reducible first | exact HB.out | apply below_alloc | apply pw_below_drewN | apply below_drew1 | refine below_set ?_ GE127.out))) | (with_reducible refine Kd.C_alloc ?_ _) | (with_reducible refine Kd.C_drewN ?_ _) | (with_reducible refine Kd.C_drew ?_))); (case side2 => exact HC135_0.out); rintro e w' ⟨rfl, ⟨nd, rfl⟩⟩))
          go_meet
          case rel => exact ⟨_, (!t136), (by first | rfl | (simp; done) | (simp [*]; done)), H', ⟨by have := HK1.out; have := HJ11.out; first | omega | exact Nat.le_refl _⟩, ⟨by (with_reducible repeat (first | refine blk_drewN ?_ _ | refine blk_drew ?_ | refine blk_alloc ?_ _)); exact BK127.out⟩, ⟨by repeat (with_reducible first | exact HB.out | apply below_alloc | apply pw_below_drewN | apply below_drew1 | refine below_set ?_ GE127.out)⟩⟩
         case b13_ =>
          rw [if_neg c26] at H
          exact absurd H (by simp)
         case b11_ =>
          rw [if_neg c22] at H
          exact absurd H (by simp)
        case rest =>
         clear HC21
         try clear c2
         try clear c2b0
         try clear c2b1
         try clear c5
         try clear c5b0
         try clear c6
         try clear c6b0
         try clear c7
         try clear c7b0
         try clear c9
         try clear c13
         try clear c15
         try clear c15b0
         try clear c15b1
         try clear c16
         try clear c16b0
         try clear c16b1
         try clear c17
         try clear c17b0
         try clear c17b1
         try clear c20
         try clear c22
         try clear c22b0
         try clear c22b1
         try clear c24
         try clear c26
         try clear c26b0
         try clear c26b1
         try clear hcz14_0
         try clear hcz14_1
         try clear hcz18_0
         try clear hcz18_1
         try clear hcz19_0
         try clear hcz19_1
         try clear hcz25_0
         try clear hcz25_1
         try clear hcz28_0
         try clear hcz28_1
         try clear hcz4_0
         try clear hcz4_1
         try clear hfz14_0
         try clear hfz14_1
         try clear hfz18_0
         try clear hfz18_1
         try clear hfz19_0
         try clear hfz19_1
         try clear hfz25_0
         try clear hfz25_1
         try clear hfz28_0
         try clear hfz28_1
         try clear hfz4_0
         try clear hfz4_1
         try clear hx128_0
         try clear hx130_0
         try clear hx131_0
         try clear hx132_0
         try clear hx132_1
         try clear hx132_2
         try clear hx132_3
         try clear hx133_0
         try clear hx135_0
         try clear p128
         try clear p130
         try clear p131
         try clear p132
         try clear p133
         try clear p135
         try clear q128
         try clear q130
         try clear q131
         try clear q132
         try clear q133
         try clear q135
         obtain ⟨kq, x58_20, rfl, HA, HJ20, BK127, HB⟩ := hcut
         cases kq with
         | zero => exact absurd HA.out (by simp [spec_ExprGood.j2])
         | succ kj20 =>
          have H := HA.out
          clear HA
          simp only [spec_ExprGood.j2] at H
          refine (Classical.em (x58_20 = true)).elim (fun c29 => ?a14_) (fun c29 => ?b14_)
          case a14_ =>
           subst c29
           rw [if_pos rfl] at H
           obtain rfl := Option.some.inj H
           go_wp2
           go_ret
           exact ⟨by first | rfl | (simp [errW_none, errW_some] <;> rfl) | (simp [*, errW_none, errW_some] <;> rfl), by repeat (with_reducible first | exact HB.out | apply below_alloc | apply pw_below_drewN | apply below_drew1 | refine below_set ?_ GE127.out)⟩
          case' b14_ =>
           replace c29 := Bool.eq_false_iff.mpr c29
           subst c29
           rw [if_neg (show ¬ (false = true) by decide)] at H
           refine (Classical.em (4 < (l0_0.length : Int))).elim (fun c30 => ?a15_) (fun c30 => ?b15_)
          case' a15_ =>
           rw [if_pos c30] at H
           have c30b0 : decide (4 < (l0_0.length : Int)) = true := decide_eq_true c30
           have c30b1 : decide (4 < l0_0.length) = true := decide_eq_true (by omega)
           clear c30
           replace H := Option.bind_eq_some_iff.mp H
           obtain ⟨t138, A310, H⟩ := H
           try dsimp only at H
           have A31 := Aside0.mk A310
           clear A310
           refine (Classical.em (t138 = true)).elim (fun c32 => ?a16_) (fun c32 => ?b16_)
          case a16_ =>
           subst c32
           rw [if_pos rfl] at H
           obtain rfl := Option.some.inj H
           have hcz33_0 : wc.cell? ⟨gb127, 0, none⟩ = some (.slice A0_0 l0_0.length c0_0) := (blk_cell BK127.out 0).trans rfl
           have hcz33_1 : wc.cell? ⟨gb127, 1, none⟩ = some (.bool a0_1) := (blk_cell BK127.out 1).trans rfl
           have hfz33_0 := blk_frozen BK127.out 0
           have hfz33_1 := blk_frozen BK127.out 1
           have p137 : 0 ≤ (4 : Int) := (by omega)
           have q137 : 4 < (l0_0.length : Int) := of_decide_eq_true (by first | (with_reducible assumption) | assumption)
           obtain ⟨ad137, A137_0, c137_0, e137, hx137_0, hl137_0, hi137_0⟩ := at_L5 HR0_0.out 4 p137 q137
           cases e137
           (try simp only [show (4 : Int).toNat = 4 from rfl, Nat.reduceMul, Nat.reduceEqDiff, Go.Addr.add, ↓reduceIte] at hx137_0)
           have qi137 : (4 < l0_0.length) = True := eq_true (by omega)
           (try rw [show ((4 : Int)).toNat = 4 from rfl] at hx137_0)
           replace hx137_0 := (HB.out.cell (World.block_lt_of_cell? w _ hx137_0)).trans hx137_0
           have HR137_0 := Aside0.mk hi137_0
           have HC137_0 := Aside0.mk hl137_0
           clear hi137_0 hl137_0
           replace p137 := eq_true p137
           replace q137 := eq_true q137
           go_wp2_with (first | ((with_reducible refine gate_callee (f := 39) rfl ?_); refine goesL_ (some 63) rfl rfl Tryz.func39 (by kernel_rfl) rfl #[.slice A137_0 (rd_L5 l0_0 4).length c137_0] rfl (by (try simp only [List.map_toArray, List.map_cons, List.map_nil]); first | done | rfl | (simp only [List.length_drop, List.length_take]; rfl)) ?_; (with_reducible refine (spec_Star.calls _ _ (rd_L5 l0_0 4) true _ ?side1 ?side2 A31.out).mono ?_); (case side1 => repeat (first | exact (Kd.C_below HR137_0.out HB.out) | (with_reducible refine Kd.C_alloc ?_ _) | (with_reducible refine Kd.C_drewN ?_ _) | (with_reducible refine Kd.C_drew ?_))); (case side2 => exact HC137_0.out); rintro e w' ⟨rfl, ⟨nd, rfl⟩⟩; refine ⟨_, rfl, ?_⟩))
           go_ret
           exact ⟨by first | rfl | (simp [errW_none, errW_some] <;> rfl) | (simp [*, errW_none, errW_some] <;> rfl), by repeat (with_reducible first | exact HB.out | apply below_alloc | apply pw_below_drewN | apply below_drew1 | refine below_set ?_ GE127.out)⟩
          case' b16_ =>
           replace c32 := Bool.eq_false_iff.mpr c32
           subst c32
           rw [if_neg (show ¬ (false = true) by decide)] at H
           refine (Classical.em (3 < (l0_0.length : Int))).elim (fun c34 => ?a17_) (fun c34 => ?b17_)
          case a17_ =>
           rw [if_pos c34] at H
           have c34b0 : decide (3 < (l0_0.length : Int)) = true := decide_eq_true c34
           have c34b1 : decide (3 < l0_0.length) = true := decide_eq_true (by omega)
           clear c34
           have H' := Aside0.mk H
           clear H
           have hcz35_0 : wc.cell? ⟨gb127, 0, none⟩ = some (.slice A0_0 l0_0.length c0_0) := (blk_cell BK127.out 0).trans rfl
           have hcz35_1 : wc.cell? ⟨gb127, 1, none⟩ = some (.bool a0_1) := (blk_cell BK127.out 1).trans rfl
           have hfz35_0 := blk_frozen BK127.out 0
           have hfz35_1 := blk_frozen BK127.out 1
           have p137 : 0 ≤ (4 : Int) := (by omega)
           have q137 : 4 < (l0_0.length : Int) := of_decide_eq_true (by first | (with_reducible assumption) | assumption)
           obtain ⟨ad137, A137_0, c137_0, e137, hx137_0, hl137_0, hi137_0⟩ := at_L5 HR0_0.out 4 p137 q137
           cases e137
           (try simp only [show (4 : Int).toNat = 4 from rfl, Nat.reduceMul, Nat.reduceEqDiff, Go.Addr.add, ↓reduceIte] at hx137_0)
           have qi137 : (4 < l0_0.length) = True := eq_true (by omega)
           (try rw [show ((4 : Int)).toNat = 4 from rfl] at hx137_0)
           replace hx137_0 := (HB.out.cell (World.block_lt_of_cell? w _ hx137_0)).trans hx137_0
           have HR137_0 := Aside0.mk hi137_0
           have HC137_0 := Aside0.mk hl137_0
           clear hi137_0 hl137_0
           replace p137 := eq_true p137
           replace q137 := eq_true q137
           go_wp2_with (first | ((with_reducible refine gate_callee (f := 39) rfl ?_); refine goesL_ (some 63) rfl rfl Tryz.func39 (by kernel_rfl) rfl #[.slice A137_0 (rd_L5 l0_0 4).length c137_0] rfl (by (try simp only [List.map_toArray, List.map_cons, List.map_nil]); first | done | rfl | (simp only [List.length_drop, List.length_take]; rfl)) ?_; (with_reducible refine (spec_Star.calls _ _ (rd_L5 l0_0 4) false _ ?side1 ?side2 A31.out).mono ?_); (case side1 => repeat (first | exact (Kd.C_below HR137_0.out HB.out) | (with_reducible refine Kd.C_alloc ?_ _) | (with_reducible refine Kd.C_drewN ?_ _) | (with_reducible refine Kd.C_drew ?_))); (case side2 => exact HC137_0.out); rintro e w' ⟨rfl, ⟨nd, rfl⟩⟩; refine ⟨_, rfl, ?_⟩; have p139 : 0 ≤ (3 : Int) := (by omega); have q139 : 3 < (l0_0.length : Int) := of_decide_eq_true (by first | (with_reducible assumption) | assumption); obtain ⟨ad139, A139_0, c139_0, e139, hx139_0, hl139_0, hi139_0⟩ := at_L5 HR0_0.out 3 p139 q139; obtain rfl : ad137 = ad139 := (by injection e139); (try simp only [show (3 : Int).toNat = 3 from rfl, Nat.reduceMul, Nat.reduceEqDiff, Go.Addr.add, ↓reduceIte] at hx139_0); have qi139 : (3 < l0_0.length) = True := eq_true (by omega); (try rw [show ((3 : Int)).toNat = 3 from rfl] at hx139_0); replace hx139_0 := (HB.out.cell (World.block_lt_of_cell? w _ hx139_0)).trans hx139_0; have HR139_0 := Aside0.mk hi139_0; have HC139_0 := Aside0.mk hl139_0; clear hi139_0 hl139_0; replace p139 := eq_true p139; replace q139 := eq_true q139))
           go_loopg [70] kj20 (fun kq v70 w' => ∃ (x70_4 : Int), v70 = .int .i64 x70_4 ∧ Aside0 (spec_ExprGood.l1 kq (rd_L5 l0_0 3) ((rd_L5 l0_0 3).length : Int) x70_4 = some r) ∧ Aside0 (kq ≤ kj20) ∧ Aside0 (w'.heap[gb127]? = some (.cells #[(.slice (some ad137) l0_0.length c0_0), .bool a0_1] 30 (0, 0))) ∧ Aside0 (Below w.heap.size w w'))
           case atStart => exact ⟨(0), (by first | rfl | (simp; done) | (simp [*]; done)), H', ⟨Nat.le_refl _⟩, ⟨by (with_reducible repeat (first | refine blk_drewN ?_ _ | refine blk_drew ?_ | refine blk_alloc ?_ _)); exact BK127.out⟩, ⟨by repeat (with_reducible first | exact HB.out | apply below_alloc | apply pw_below_drewN | apply below_drew1 | refine below_set ?_ GE127.out)⟩⟩
           case round =>
            clear H'
            try clear c2
            try clear c2b0
            try clear c2b1
            try clear c5
            try clear c5b0
            try clear c6
            try clear c6b0
            try clear c7
            try clear c7b0
            try clear c9
            try clear c13
            try clear c15
            try clear c15b0
            try clear c15b1
            try clear c16
            try clear c16b0
            try clear c16b1
            try clear c17
            try clear c17b0
            try clear c17b1
            try clear c20
            try clear c22
            try clear c22b0
            try clear c22b1
            try clear c24
            try clear c26
            try clear c26b0
            try clear c26b1
            try clear c29
            try clear c30
            try clear c30b0
            try clear c30b1
            try clear c32
            try clear c34
            try clear c34b0
            try clear c34b1
            try clear hcz14_0
            try clear hcz14_1
            try clear hcz18_0
            try clear hcz18_1
            try clear hcz19_0
            try clear hcz19_1
            try clear hcz25_0
            try clear hcz25_1
            try clear hcz28_0
            try clear hcz28_1
            try clear hcz33_0
            try clear hcz33_1
            try clear hcz35_0
            try clear hcz35_1
            try clear hcz4_0
            try clear hcz4_1
            try clear hfz14_0
            try clear hfz14_1
            try clear hfz18_0
            try clear hfz18_1
            try clear hfz19_0
            try clear hfz19_1
            try clear hfz25_0
            try clear hfz25_1
            try clear hfz28_0
            try clear hfz28_1
            try clear hfz33_0
            try clear hfz33_1
            try clear hfz35_0
            try clear hfz35_1
            try clear hfz4_0
            try clear hfz4_1
            try clear hx128_0
            try clear hx130_0
            try clear hx131_0
            try clear hx132_0
            try clear hx132_1
            try clear hx132_2
            try clear hx132_3
            try clear hx133_0
            try clear hx135_0
            try clear hx137_0
            try clear hx139_0
            try clear p128
            try clear p130
            try clear p131
            try clear p132
            try clear p133
            try clear p135
            try clear p137
            try clear p139
            try clear q128
            try clear q130
            try clear q131
            try clear q132
            try clear q133
            try clear q135
            try clear q137
            try clear q139
            obtain ⟨x70_4, rfl, HA, HK4, BK127, HB⟩ := hrel
            cases gk with
            | zero => exact absurd HA.out (by simp [spec_ExprGood.l1])
            | succ k4 =>
             have H := HA.out
             clear HA
             simp only [spec_ExprGood.l1] at H
             refine (Classical.em (x70_4 < ((rd_L5 l0_0 3).length : Int))).elim (fun c36 => ?a18_) (fun c36 => ?b18_)
             case' a18_ =>
              rw [if_pos c36] at H
              have c36b0 : decide (x70_4 < ((rd_L5 l0_0 3).length : Int)) = true := decide_eq_true c36
              clear c36
              refine (Classical.em (0 ≤ x70_4)).elim (fun c37 => ?a19_) (fun c37 => ?b19_)
             case' a19_ =>
              rw [if_pos c37] at H
              have c37b0 : decide (0 ≤ x70_4) = true := decide_eq_true c37
              clear c37
              refine (Classical.em (x70_4 < ((rd_L5 l0_0 3).length : Int))).elim (fun c38 => ?a20_) (fun c38 => ?b20_)
             case' a20_ =>
              rw [if_pos c38] at H
              have c38b0 : decide (x70_4 < ((rd_L5 l0_0 3).length : Int)) = true := decide_eq_true c38
              clear c38
              obtain ⟨bq39, hbq39⟩ : ∃ b_ : Bool, b_ = ((rd_T54 (rd_L5 l0_0 3) x70_4).f0) := ⟨_, rfl⟩
              replace H : (if (bq39 = true) then (spec_ExprGood.l1 k4 (rd_L5 l0_0 3) ((rd_L5 l0_0 3).length : Int) (wrap64 (x70_4 + 1))) else (if ((rd_T54 (rd_L5 l0_0 3) x70_4).f1) > 28 then (some false) else (spec_ExprGood.l1 k4 (rd_L5 l0_0 3) ((rd_L5 l0_0 3).length : Int) (wrap64 (x70_4 + 1))))) = some r := by rw [← hbq39] at H; exact H
              have Nbq39 := Aside0.mk hbq39
              clear hbq39
              refine (Classical.em ((bq39 = true))).elim (fun c40 => ?a21_) (fun c40 => ?b21_)
             case' a21_ =>
              subst c40
              rw [if_pos rfl] at H
              have H' := Aside0.mk H
              clear H
             case' b21_ =>
              replace c40 := Bool.eq_false_iff.mpr c40
              subst c40
              rw [if_neg (show ¬ (false = true) by decide)] at H
              refine (Classical.em (((rd_T54 (rd_L5 l0_0 3) x70_4).f1) > 28)).elim (fun c44 => ?a22_) (fun c44 => ?b22_)
             case a22_ =>
              rw [if_pos c44] at H
              have c44b0 : decide (28 < ((rd_T54 (rd_L5 l0_0 3) x70_4).f1)) = true := decide_eq_true c44
              clear c44
              obtain rfl := Option.some.inj H
              have p140 : 0 ≤ (x70_4 : Int) := of_decide_eq_true (by first | (with_reducible assumption) | assumption)
              have q140 : x70_4 < ((rd_L5 l0_0 3).length : Int) := of_decide_eq_true (by first | (with_reducible assumption) | assumption)
              obtain ⟨ad140, e140, hx140_0, hx140_1, hx140_2, hx140_3⟩ := at_T54 HR139_0.out x70_4 p140 q140
              (try rw [← Nbq39.out] at hx140_0)
              cases e140
              replace hx140_0 := (HB.out.cell (World.block_lt_of_cell? w _ hx140_0)).trans hx140_0
              replace hx140_1 := (HB.out.cell (World.block_lt_of_cell? w _ hx140_1)).trans hx140_1
              replace hx140_2 := (HB.out.cell (World.block_lt_of_cell? w _ hx140_2)).trans hx140_2
              replace hx140_3 := (HB.out.cell (World.block_lt_of_cell? w _ hx140_3)).trans hx140_3
              replace p140 := eq_true p140
              replace q140 := eq_true q140
              go_wp2_with (first | ((with_reducible refine gate_dst (N := 6) rfl ?_); (try (refine gate_guard (by rfl) ?_; dsimp only)); refine box_event ?hg (N := 6) ?hd (cs := #[.bool false, .int .i64 0, .int .i64 0, .int .i64 0]) (t := 54) ?hr ?_; (case hd => rfl); (case hg => rfl); (case hr => first | (go_simp; done) | (go_simp; rfl)); intro gb141 hg w45 hbox hb; have n0_ := Aside0.mk (blk_below (g := gb127) (o := .cells #[.slice (some ad137) l0_0.length c0_0, .bool a0_1] 30 (0, 0)) (by (with_reducible repeat (first | refine blk_drewN ?_ _ | refine blk_drew ?_ | refine blk_alloc ?_ _)); exact BK127.out) hb); have n1_ := Aside0.mk (below_step (by repeat (with_reducible first | exact HB.out | apply below_alloc | apply pw_below_drewN | apply below_drew1 | refine below_set ?_ GE127.out)) hb); have n2_ := Aside0.mk (hbox); have n3_ := Aside0.mk ((by rw [hg]; exact (below_size (by repeat (with_reducible first | exact HB.out | apply below_alloc | apply pw_below_drewN | apply below_drew1 | refine below_set ?_ GE127.out))) : w.heap.size ≤ gb141)); have n4_ := Aside0.mk ((by rw [hg]; exact (below_size (by repeat (with_reducible first | exact HB.out | apply below_alloc | apply pw_below_drewN | apply below_drew1 | refine below_set ?_ GE127.out))) : w.heap.size ≤ gb141)); have n5_ := Aside0.mk ((by rw [hg]; exact Nat.ne_of_lt (blk_lt (g := gb127) (o := .cells #[.slice (some ad137) l0_0.length c0_0, .bool a0_1] 30 (0, 0)) (by (with_reducible repeat (first | refine blk_drewN ?_ _ | refine blk_drew ?_ | refine blk_alloc ?_ _)); exact BK127.out)) : gb127 ≠ gb141)); have n6_ := Aside0.mk ((by rw [hg]; exact Nat.ne_of_gt (blk_lt (g := gb127) (o := .cells #[.slice (some ad137) l0_0.length c0_0, .bool a0_1] 30 (0, 0)) (by (with_reducible repeat (first | refine blk_drewN ?_ _ | refine blk_drew ?_ | refine blk_alloc ?_ _)); exact BK127.out)) : gb141 ≠ gb127)); clear BK127; clear HB; have BK127 := n0_; have HB := n1_; have BK141 := n2_; have GW141 := n3_; have GE141 := n4_; have NB127_141 := n5_; have NB141_127 := n6_; clear n0_ n1_ n2_ n3_ n4_ n5_ n6_; clear hb hbox hg; have hnb46 := NB141_127.out; have hnc46 := NB127_141.out; have hcz47_0 : w45.cell? ⟨gb141, 0, none⟩ = some (.bool false) := (blk_cell BK141.out 0).trans rfl; have hcz47_1 : w45.cell? ⟨gb141, 1, none⟩ = some (.int .i64 0) := (blk_cell BK141.out 1).trans rfl; have hcz47_2 : w45.cell? ⟨gb141, 2, none⟩ = some (.int .i64 0) := (blk_cell BK141.out 2).trans rfl; have hcz47_3 : w45.cell? ⟨gb141, 3, none⟩ = some (.int .i64 0) := (blk_cell BK141.out 3).trans rfl; have hfz47_0 := blk_frozen BK141.out 0; have hfz47_1 := blk_frozen BK141.out 1; have hfz47_2 := blk_frozen BK141.out 2; have hfz47_3 := blk_frozen BK141.out 3))
              go_ret
              exact ⟨by first | rfl | (simp [errW_none, errW_some] <;> rfl) | (simp [*, errW_none, errW_some] <;> rfl), by repeat (with_reducible first | exact HB.out | apply below_alloc | apply pw_below_drewN | apply below_drew1 | refine below_set ?_ GE127.out | refine below_set ?_ GE141.out)⟩
             case' b22_ =>
              rw [if_neg c44] at H
              have c44b0 : decide (28 < ((rd_T54 (rd_L5 l0_0 3) x70_4).f1)) = false := decide_eq_false c44
              clear c44
              have H' := Aside0.mk H
              clear H
             case b20_ =>
              rw [if_neg c38] at H
              exact absurd H (by simp)
             case b19_ =>
              rw [if_neg c37] at H
              exact absurd H (by simp)
             case b18_ =>
              rw [if_neg c36] at H
              have c36b0 : decide (x70_4 < ((rd_L5 l0_0 3).length : Int)) = false := decide_eq_false c36
              clear c36
              obtain rfl := Option.some.inj H
              go_wp2
              go_ret
              exact ⟨by first | rfl | (simp [errW_none, errW_some] <;> rfl) | (simp [*, errW_none, errW_some] <;> rfl), by repeat (with_reducible first | exact HB.out | apply below_alloc | apply pw_below_drewN | apply below_drew1 | refine below_set ?_ GE127.out)⟩
             case a21_ | b22_ =>
              have p140 : 0 ≤ (x70_4 : Int) := of_decide_eq_true (by first | (with_reducible assumption) | assumption)
              have q140 : x70_4 < ((rd_L5 l0_0 3).length : Int) := of_decide_eq_true (by first | (with_reducible assumption) | assumption)
              obtain ⟨ad140, e140, hx140_0, hx140_1, hx140_2, hx140_3⟩ := at_T54 HR139_0.out x70_4 p140 q140
              (try rw [← Nbq39.out] at hx140_0)
              cases e140
              replace hx140_0 := (HB.out.cell (World.block_lt_of_cell? w _ hx140_0)).trans hx140_0
              replace hx140_1 := (HB.out.cell (World.block_lt_of_cell? w _ hx140_1)).trans hx140_1
              replace hx140_2 := (HB.out.cell (World.block_lt_of_cell? w _ hx140_2)).trans hx140_2
              replace hx140_3 := (HB.out.cell (World.block_lt_of_cell? w _ hx140_3)).trans hx140_3
              replace p140 := eq_true p140
              replace q140 := eq_true q140
              go_wp2_with (first | ((with_reducible refine gate_dst (N := 6) rfl ?_); (try (refine gate_guard (by rfl) ?_; dsimp only)); refine box_event ?hg (N := 6) ?hd (cs := #[.bool false, .int .i64 0, .int .i64 0, .int .i64 0]) (t := 54) ?hr ?_; (case hd => rfl); (case hg => rfl); (case hr => first | (go_simp; done) | (go_simp; rfl)); intro gb141 hg w41 hbox hb; have n0_ := Aside0.mk (blk_below (g := gb127) (o := .cells #[.slice (some ad137) l0_0.length c0_0, .bool a0_1] 30 (0, 0)) (by (with_reducible repeat (first | refine blk_drewN ?_ _ | refine blk_drew ?_ | refine blk_alloc ?_ _)); exact BK127.out) hb); have n1_ := Aside0.mk (below_step (by repeat (with_reducible first | exact HB.out | apply below_alloc | apply pw_below_drewN | apply below_drew1 | refine below_set ?_ GE127.out)) hb); have n2_ := Aside0.mk (hbox); have n3_ := Aside0.mk ((by rw [hg]; exact (below_size (by repeat (with_reducible first | exact HB.out | apply below_alloc | apply pw_below_drewN | apply below_drew1 | refine below_set ?_ GE127.out))) : w.heap.size ≤ gb141)); have n4_ := Aside0.mk ((by rw [hg]; exact (below_size (by repeat (with_reducible first | exact HB.out | apply below_alloc | apply pw_below_drewN | apply below_drew1 | refine below_set ?_ GE127.out))) : w.heap.size ≤ gb141)); have n5_ := Aside0.mk ((by rw [hg]; exact Nat.ne_of_lt (blk_lt (g := gb127) (o := .cells #[.slice (some ad137) l0_0.length c0_0, .bool a0_1] 30 (0, 0)) (by (with_reducible repeat (first | refine blk_drewN ?_ _ | refine blk_drew ?_ | refine blk_alloc ?_ _)); exact BK127.out)) : gb127 ≠ gb141)); have n6_ := Aside0.mk ((by rw [hg]; exact Nat.ne_of_gt (blk_lt (g := gb127) (o := .cells #[.slice (some ad137) l0_0.length c0_0, .bool a0_1] 30 (0, 0)) (by (with_reducible repeat (first | refine blk_drewN ?_ _ | refine blk_drew ?_ | refine blk_alloc ?_ _)); exact BK127.out)) : gb141 ≠ gb127)); clear BK127; clear HB; have BK127 := n0_; have HB := n1_; have BK141 := n2_; have GW141 := n3_; have GE141 := n4_; have NB127_141 := n5_; have NB141_127 := n6_; clear n0_ n1_ n2_ n3_ n4_ n5_ n6_; clear hb hbox hg; have hnb42 := NB141_127.out; have hnc42 := NB127_141.out; have hcz43_0 : w41.cell? ⟨gb141, 0, none⟩ = some (.bool false) := (blk_cell BK141.out 0).trans rfl; have hcz43_1 : w41.cell? ⟨gb141, 1, none⟩ = some (.int .i64 0) := (blk_cell BK141.out 1).trans rfl; have hcz43_2 : w41.cell? ⟨gb141, 2, none⟩ = some (.int .i64 0) := (blk_cell BK141.out 2).trans rfl; have hcz43_3 : w41.cell? ⟨gb141, 3, none⟩ = some (.int .i64 0) := (blk_cell BK141.out 3).trans rfl; have hfz43_0 := blk_frozen BK141.out 0; have hfz43_1 := blk_frozen BK141.out 1; have hfz43_2 := blk_frozen BK141.out 2; have hfz43_3 := blk_frozen BK141.out 3) | ((with_reducible refine gate_dst (N := 6) rfl ?_); (try (refine gate_guard (by rfl) ?_; dsimp only)); refine box_event ?hg (N := 6) ?hd (cs := #[.bool false, .int .i64 0, .int .i64 0, .int .i64 0]) (t := 54) ?hr ?_; (case hd => rfl); (case hg => rfl); (case hr => first | (go_simp; done) | (go_simp; rfl)); intro gb141 hg w48 hbox hb; have n0_ := Aside0.mk (blk_below (g := gb127) (o := .cells #[.slice (some ad137) l0_0.length c0_0, .bool a0_1] 30 (0, 0)) (by (with_reducible repeat (first | refine blk_drewN ?_ _ | refine blk_drew ?_ | refine blk_alloc ?_ _)); exact BK127.out) hb); have n1_ := Aside0.mk (below_step (by repeat (with_reducible first | exact HB.out | apply below_alloc | apply pw_below_drewN | apply below_drew1 | refine below_set ?_ GE127.out)) hb); have n2_ := Aside0.mk (hbox); have n3_ := Aside0.mk ((by rw [hg]; exact (below_size (by repeat (with_reducible first | exact HB.out | apply below_alloc | apply pw_below_drewN | apply below_drew1 | refine below_set ?_ GE127.out))) : w.heap.size ≤ gb141)); have n4_ := Aside0.mk ((by rw [hg]; exact (below_size (by repeat (with_reducible first | exact HB.out | apply below_alloc | apply pw_below_drewN | apply below_drew1 | refine below_set ?_ GE127.out))) : w.heap.size ≤ gb141)); have n5_ := Aside0.mk ((by rw [hg]; exact Nat.ne_of_lt (blk_lt (g := gb127) (o := .cells #[.slice (some ad137) l0_0.length c0_0, .bool a0_1] 30 (0, 0)) (by (with_reducible repeat (first | refine blk_drewN ?_ _ | refine blk_drew ?_ | refine blk_alloc ?_ _)); exact BK127.out)) : gb127 ≠ gb141)); have n6_ := Aside0.mk ((by rw [hg]; exact Nat.ne_of_gt (blk_lt (g := gb127) (o := .cells #[.slice (some ad137) l0_0.length c0_0, .bool a0_1] 30 (0, 0)) (by (with_reducible repeat (first | refine blk_drewN ?_ _ | refine blk_drew ?_ | refine blk_alloc ?_ _)); exact BK127.out)) : gb141 ≠ gb127)); clear BK127; clear HB; have BK127 := n0_; have HB := n1_; have BK141 := n2_; have GW141 := n3_; have GE141 := n4_; have NB127_141 := n5_; have NB141_127 := n6_; clear n0_ n1_ n2_ n3_ n4_ n5_ n6_; clear hb hbox hg; have hnb49 := NB141_127.out; have hnc49 := NB127_141.out; have hcz50_0 : w48.cell? ⟨gb141, 0, none⟩ = some (.bool false) := (blk_cell BK141.out 0).trans rfl; have hcz50_1 : w48.cell? ⟨gb141, 1, none⟩ = some (.int .i64 0) := (blk_cell BK141.out 1).trans rfl; have hcz50_2 : w48.cell? ⟨gb141, 2, none⟩ = some (.int .i64 0) := (blk_cell BK141.out 2).trans rfl; have hcz50_3 : w48.cell? ⟨gb141, 3, none⟩ = some (.int .i64 0) := (blk_cell BK141.out 3).trans rfl; have hfz50_0 := blk_frozen BK141.out 0; have hfz50_1 := blk_frozen BK141.out 1; have hfz50_2 := blk_frozen BK141.out 2; have hfz50_3 := blk_frozen BK141.out 3))
              go_roundg k4
              case measure => have := HK1.out; have := HJ11.out; have := HJ20.out; have := HK4.out; omega
              case rel => exact ⟨(wrap64 (x70_4 + 1)), (by first | rfl | (simp; done) | (simp [*]; done)), H', ⟨by have := HK1.out; have := HJ11.out; have := HJ20.out; have := HK4.out; omega⟩, ⟨by (with_reducible repeat (first | refine blk_drewN ?_ _ | refine blk_drew ?_ | refine blk_alloc ?_ _)); refine blk_far ?_ NB127_141.out _; (with_reducible repeat (first | refine blk_drewN ?_ _ | refine blk_drew ?_ | refine blk_alloc ?_ _)); refine blk_far ?_ NB127_141.out _; (with_reducible repeat (first | refine blk_drewN ?_ _ | refine blk_drew ?_ | refine blk_alloc ?_ _)); refine blk_far ?_ NB127_141.out _; (with_reducible repeat (first | refine blk_drewN ?_ _ | refine blk_drew ?_ | refine blk_alloc ?_ _)); refine blk_far ?_ NB127_141.out _; (with_reducible repeat (first | refine blk_drewN ?_ _ | refine blk_drew ?_ | refine blk_alloc ?_ _)); exact BK127.out⟩, ⟨by repeat (with_reducible first | exact HB.out | apply below_alloc | apply pw_below_drewN | apply below_drew1 | refine below_set ?_ GE127.out | refine below_set ?_ GE141.out)⟩⟩
          case b17_ =>
           rw [if_neg c34] at H
           exact absurd H (by simp)
          case b15_ =>
           rw [if_neg c30] at H
           exact absurd H (by simp)
 case b1_ =>
  rw [if_neg c2] at H
  have c2b0 : ((l0_0.length : Int) == 6) = false := beq_eq_false_iff_ne.mpr c2
  have c2b1 : ((l0_0.length : Int) != 6) = true := bne_iff_ne.mpr c2
  obtain rfl := Option.some.inj H
  go_enter Tryz.func25, Tryz.ntmps25
  go_wp2_with (first | ((with_reducible refine gate_dst (N := 1) rfl ?_); (try (refine gate_guard (by rfl) ?_; dsimp only)); refine box_event ?hg (N := 1) ?hd (cs := #[.slice A0_0 l0_0.length c0_0, .bool a0_1]) (t := 30) ?hr ?_; (case hd => rfl); (case hg => rfl); (case hr => first | (go_simp; done) | (go_simp; rfl)); intro gb127 hg w51 hbox hb; have n0_ := Aside0.mk (below_step (by repeat (with_reducible first | exact HB.out | apply below_alloc | apply pw_below_drewN | apply below_drew1)) hb); have n1_ := Aside0.mk (hbox); have n2_ := Aside0.mk ((by rw [hg]; exact (below_size (by repeat (with_reducible first | exact HB.out | apply below_alloc | apply pw_below_drewN | apply below_drew1))) : w.heap.size ≤ gb127)); have n3_ := Aside0.mk ((by rw [hg]; exact (below_size (by repeat (with_reducible first | exact HB.out | apply below_alloc | apply pw_below_drewN | apply below_drew1))) : w.heap.size ≤ gb127)); clear HB; have HB := n0_; have BK127 := n1_; have GW127 := n2_; have GE127 := n3_; clear n0_ n1_ n2_ n3_; clear hb hbox hg; have hcz52_0 : w51.cell? ⟨gb127, 0, none⟩ = some (.slice A0_0 l0_0.length c0_0) := (blk_cell BK127.out 0).trans rfl; have hcz52_1 : w51.cell? ⟨gb127, 1, none⟩ = some (.bool a0_1) := (blk_cell BK127.out 1).trans rfl; have hfz52_0 := blk_frozen BK127.out 0; have hfz52_1 := blk_frozen BK127.out 1))
  go_ret
  exact ⟨by first | rfl | (simp [errW_none, errW_some] <;> rfl) | (simp [*, errW_none, errW_some] <;> rfl), by repeat (with_reducible first | exact HB.out | apply below_alloc | apply pw_below_drewN | apply below_drew1 | refine below_set ?_ GE127.out)⟩
end Go.Proofs.YtjpcdkhapeejjaaGreatDoor.A
