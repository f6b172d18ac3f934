/- Steps of the proof of the law: contracts of functions of the given program, and plain lemmas about what they compute.
Conditions: none beyond those that each theorem names. -/
import Derived.Test.YtjpcdkhapeejjaaGreatDoorK07
set_option linter.unusedVariables false
set_option linter.unusedSimpArgs false
open Go.RowKit Go.Proofs.YtjpcdkhapeejjaaGreatDoorW.PrintWords Go.Proofs.YtjpcdkhapeejjaaGreatDoorW.PrintLast Go.Proofs.YtjpcdkhapeejjaaGreatDoorW.PrintMore
namespace Go.Proofs.YtjpcdkhapeejjaaGreatDoor.A
mutual
def gronx_inRange.j0 : Nat → Int → Bool → Int → Int → Bool → Option (Bool × Option Int)
  | 0, _, _, _, _, _ => none
  | k + 1, x0, x3, x11, x13, x61 => if x61 = true then ((errors_New.f (⟨#[114, 97, 110, 103, 101, 32, 111, 117, 116, 32, 111, 102, 32, 98, 111, 117, 110, 100, 115, 40, 44, 32, 41]⟩ : ByteArray)).bind fun t651 => (some (false, t651))) else (if x3 = true then (if x11 = 7 then (gronx_inRange.j1 k x0 x11 x13 (x13 != 7)) else (gronx_inRange.j1 k x0 x11 x13 false)) else (if x13 < x11 then ((errors_New.f (⟨#[114, 97, 110, 103, 101, 32, 111, 117, 116, 32, 111, 102, 32, 98, 111, 117, 110, 100, 115, 40, 44, 32, 41]⟩ : ByteArray)).bind fun t654 => (some (false, t654))) else (if x11 ≤ x0 then (some (decide (x0 ≤ x13), none)) else (some (false, none)))))
def gronx_inRange.j1 : Nat → Int → Int → Int → Bool → Option (Bool × Option Int)
  | 0, _, _, _, _ => none
  | k + 1, x0, x11, x13, x69 => if x69 = true then (gronx_inRange.j2 k x0 0 x13) else (gronx_inRange.j2 k x0 x11 x13)
def gronx_inRange.j2 : Nat → Int → Int → Int → Option (Bool × Option Int)
  | 0, _, _, _ => none
  | k + 1, x0, x11, x13 => if x13 = 7 then (gronx_inRange.j3 k x0 x11 x13 (x0 == 0)) else (gronx_inRange.j3 k x0 x11 x13 false)
def gronx_inRange.j3 : Nat → Int → Int → Int → Bool → Option (Bool × Option Int)
  | 0, _, _, _, _ => none
  | k + 1, x0, x11, x13, x75 => if x75 = true then (if x13 < x11 then ((errors_New.f (⟨#[114, 97, 110, 103, 101, 32, 111, 117, 116, 32, 111, 102, 32, 98, 111, 117, 110, 100, 115, 40, 44, 32, 41]⟩ : ByteArray)).bind fun t652 => (some (false, t652))) else (if x11 ≤ 7 then (some (decide (7 ≤ x13), none)) else (some (false, none)))) else (if x13 < x11 then ((errors_New.f (⟨#[114, 97, 110, 103, 101, 32, 111, 117, 116, 32, 111, 102, 32, 98, 111, 117, 110, 100, 115, 40, 44, 32, 41]⟩ : ByteArray)).bind fun t653 => (some (false, t653))) else (if x11 ≤ x0 then (some (decide (x0 ≤ x13), none)) else (some (false, none))))
end
def gronx_inRange.f (k : Nat) (a0 : Int) (a1 : ByteArray) (l2 : List Int) (a3 : Bool) : Option (Bool × Option Int) := (gronx_zzSplit.f k a1 (⟨#[45]⟩ : ByteArray)).bind fun t636 => (if 0 < (t636.length : Int) then ((strconv_Atoi.f (rdOf ByteArray.empty t636 0)).bind fun bt640 => (if bt640.2.isNone = true then (if 1 < (t636.length : Int) then ((strconv_Atoi.f (rdOf ByteArray.empty t636 1)).bind fun bt644 => (if bt644.2.isNone = true then (if 0 < (l2.length : Int) then (if bt640.1 < (rd l2 0) then (gronx_inRange.j0 k a0 a3 bt640.1 bt644.1 true) else (if 1 < (l2.length : Int) then (if bt640.1 > (rd l2 1) then (gronx_inRange.j0 k a0 a3 bt640.1 bt644.1 true) else (if bt644.1 < (rd l2 0) then (gronx_inRange.j0 k a0 a3 bt640.1 bt644.1 true) else (gronx_inRange.j0 k a0 a3 bt640.1 bt644.1 (decide (bt644.1 > (rd l2 1)))))) else (none))) else (none)) else (some (false, some (bt644.2.getD 0))))) else (none)) else (some (false, some (bt640.2.getD 0))))) else (none))
set_option maxHeartbeats 8000000 in
set_option maxRecDepth 100000 in
theorem gronx_inRange.calls (k : Nat) (a0 : Int) (a1 : ByteArray) (A2 : Option Addr) (c2 : Nat) (l2 : List Int) (a3 : Bool) (r1 : Bool) (r2 : Option Int) (w : World) (hr2 : Kd.C (Kd.int .i64) w A2 l2.length l2) (hc2 : l2.length ≤ c2) (h : gronx_inRange.f k a0 a1 l2 a3 = some (r1, r2)) :
    Calls Tryz.prog 215 #[.int .i64 a0, .string a1, .slice A2 l2.length c2, .bool a3] w fun e w' => e = .returned (.tuple #[.bool r1, errW r2]) ∧ Below w.heap.size w w' := by
 have hu65 := Tryz.underlying65
 have HR2 := Aside0.mk hr2
 have HC2 := Aside0.mk hc2
 clear hr2 hc2
 have HB := Aside0.mk (Below.refl w.heap.size w)
 have H : ((gronx_zzSplit.f k a1 (⟨#[45]⟩ : ByteArray)).bind fun t636 => (if 0 < (t636.length : Int) then ((strconv_Atoi.f (rdOf ByteArray.empty t636 0)).bind fun bt640 => (if bt640.2.isNone = true then (if 1 < (t636.length : Int) then ((strconv_Atoi.f (rdOf ByteArray.empty t636 1)).bind fun bt644 => (if bt644.2.isNone = true then (if 0 < (l2.length : Int) then (if bt640.1 < (rd l2 0) then (gronx_inRange.j0 k a0 a3 bt640.1 bt644.1 true) else (if 1 < (l2.length : Int) then (if bt640.1 > (rd l2 1) then (gronx_inRange.j0 k a0 a3 bt640.1 bt644.1 true) else (if bt644.1 < (rd l2 0) then (gronx_inRange.j0 k a0 a3 bt640.1 bt644.1 true) else (gronx_inRange.j0 k a0 a3 bt640.1 bt644.1 (decide (bt644.1 > (rd l2 1)))))) else (none))) else (none)) else (some (false, some (bt644.2.getD 0))))) else (none)) else (some (false, some (bt640.2.getD 0))))) else (none))) = some (r1, r2) := h
 clear h
 replace H := Option.bind_eq_some_iff.mp H
 obtain ⟨t636, A50, H⟩ := H
 try dsimp only at H
 have A5 := Aside0.mk A50
 clear A50
 refine (Classical.em (0 < (t636.length : Int))).elim (fun c6 => ?a1_) (fun c6 => ?b1_)
 case' a1_ =>
  rw [if_pos c6] at H
  have c6b0 : decide (0 < (t636.length : Int)) = true := decide_eq_true c6
  have c6b1 : decide (0 < t636.length) = true := decide_eq_true (by omega)
  clear c6
  replace H := Option.bind_eq_some_iff.mp H
  obtain ⟨⟨t640, t641⟩, A70, H⟩ := H
  try dsimp only at H
  have A7 := Aside0.mk A70
  clear A70
  refine (show t641 = none ∨ ∃ q, t641 = some q by cases t641 <;> simp).elim (fun h_ => ?a2_) (fun h_ => ?b2_)
 case' a2_ =>
  subst h_
  rw [if_pos (show (none : Option Int).isNone = true by rfl)] at H
  try simp only [errW_none, errW_some]
  refine (Classical.em (1 < (t636.length : Int))).elim (fun c8 => ?a3_) (fun c8 => ?b3_)
 case' a3_ =>
  rw [if_pos c8] at H
  have c8b0 : decide (1 < (t636.length : Int)) = true := decide_eq_true c8
  have c8b1 : decide (1 < t636.length) = true := decide_eq_true (by omega)
  clear c8
  replace H := Option.bind_eq_some_iff.mp H
  obtain ⟨⟨t644, t645⟩, A90, H⟩ := H
  try dsimp only at H
  have A9 := Aside0.mk A90
  clear A90
  refine (show t645 = none ∨ ∃ q, t645 = some q by cases t645 <;> simp).elim (fun h_ => ?a4_) (fun h_ => ?b4_)
 case a4_ =>
  subst h_
  rw [if_pos (show (none : Option Int).isNone = true by rfl)] at H
  try simp only [errW_none, errW_some]
  have HC10 := Aside0.mk H
  clear H
  go_enter Tryz.func215, Tryz.ntmps215
  go_upto_region 8 with (first | ((with_reducible refine gate_callee (f := 64) rfl ?_); refine goesL_ (some 15) rfl rfl Tryz.func64 (by kernel_rfl) rfl #[.string a1, .string (⟨#[45]⟩ : ByteArray)] rfl (by (try simp only [List.map_toArray, List.map_cons, List.map_nil]); first | done | rfl | (simp only [List.length_drop, List.length_take]; rfl)) ?_; (with_reducible refine (gronx_zzSplit.calls k a1 (⟨#[45]⟩ : ByteArray) t636 _ A5.out).mono ?_); rintro e w11 ⟨v637, rfl, ho0, hb⟩; refine ⟨_, rfl, ?_⟩; have n0_ := Aside0.mk (Kd.R_lower ho0 (below_size (by repeat (with_reducible first | exact HB.out | apply below_alloc | apply pw_below_drewN | apply below_drew1)))); have n1_ := Aside0.mk (below_step (by repeat (with_reducible first | exact HB.out | apply below_alloc | apply pw_below_drewN | apply below_drew1)) hb); clear HB; have HO638 := n0_; have HB := n1_; clear n0_ n1_; (try clear hb); (try clear hb2); (try clear hk); (try clear hi); (try clear ho0); obtain ⟨Ao12, co12, eo12⟩ := Kd.R_slice HO638.out; subst eo12; have p639 : 0 ≤ (0 : Int) := (by omega); have q639 : 0 < (t636.length : Int) := of_decide_eq_true (by first | (with_reducible assumption) | assumption); obtain ⟨ad639, e639, hx639_0⟩ := Kd.at_string (Kd.R_reads' HO638.out).2.2 0 p639 q639; cases e639; have qi639 : (0 < t636.length) = True := eq_true (by omega); (try rw [show ((0 : Int)).toNat = 0 from rfl] at hx639_0); (try rw [Addr.add_zero'] at hx639_0); replace p639 := eq_true p639; replace q639 := eq_true q639) | ((with_reducible refine gate_callee (f := 67) rfl ?_); refine goesL_ (some 20) rfl rfl Tryz.func67 (by kernel_rfl) rfl #[.string (rdOf ByteArray.empty t636 0)] rfl (by (try simp only [List.map_toArray, List.map_cons, List.map_nil]); first | done | rfl | (simp only [List.length_drop, List.length_take]; rfl)) ?_; (with_reducible refine (strconv_Atoi.calls (rdOf ByteArray.empty t636 0) t640 none _ A7.out).mono ?_); rintro e w13 ⟨rfl, hb⟩; refine ⟨_, rfl, ?_⟩; have n0_ := Aside0.mk (Kd.R_below (by (with_reducible repeat (first | apply Kd.R_alloc | apply Kd.R_drewN | apply Kd.R_drew)); exact HO638.out) hb); have n1_ := Aside0.mk (below_step (by repeat (with_reducible first | exact HB.out | apply below_alloc | apply pw_below_drewN | apply below_drew1)) hb); clear HO638; clear HB; have HO638 := n0_; have HB := n1_; clear n0_ n1_; (try clear hb); (try clear hb2); (try clear hk); (try clear hi); (try simp only [errW_none, errW_some]); have p643 : 0 ≤ (1 : Int) := (by omega); have q643 : 1 < (t636.length : Int) := of_decide_eq_true (by first | (with_reducible assumption) | assumption); obtain ⟨ad643, e643, hx643_0⟩ := Kd.at_string (Kd.R_reads' HO638.out).2.2 1 p643 q643; obtain rfl : ad639 = ad643 := (by injection e643); (try simp only [show (1 : Int).toNat = 1 from rfl, Nat.reduceMul, Nat.reduceEqDiff, Go.Addr.add, ↓reduceIte] at hx643_0); have qi643 : (1 < t636.length) = True := eq_true (by omega); (try rw [show ((1 : Int)).toNat = 1 from rfl] at hx643_0); replace p643 := eq_true p643; replace q643 := eq_true q643) | ((with_reducible refine gate_callee (f := 67) rfl ?_); refine goesL_ (some 30) rfl rfl Tryz.func67 (by kernel_rfl) rfl #[.string (rdOf ByteArray.empty t636 1)] rfl (by (try simp only [List.map_toArray, List.map_cons, List.map_nil]); first | done | rfl | (simp only [List.length_drop, List.length_take]; rfl)) ?_; (with_reducible refine (strconv_Atoi.calls (rdOf ByteArray.empty t636 1) t644 none _ A9.out).mono ?_); rintro e w14 ⟨rfl, hb⟩; refine ⟨_, rfl, ?_⟩; have n0_ := Aside0.mk (Kd.R_below (by (with_reducible repeat (first | apply Kd.R_alloc | apply Kd.R_drewN | apply Kd.R_drew)); exact HO638.out) hb); have n1_ := Aside0.mk (below_step (by repeat (with_reducible first | exact HB.out | apply below_alloc | apply pw_below_drewN | apply below_drew1)) hb); clear HO638; clear HB; have HO638 := n0_; have HB := n1_; clear n0_ n1_; (try clear hb); (try clear hb2); (try clear hk); (try clear hi); (try simp only [errW_none, errW_some])))
  (try simp only [Act.put, List.setIfInBounds_toArray, List.set_cons_zero, List.set_cons_succ])
  go_cut [61] (fun v61 wc => ∃ (kq : Nat) (x61_9 : Bool), v61 = .bool x61_9 ∧ Aside0 (gronx_inRange.j0 kq a0 a3 t640 t644 x61_9 = some (r1, r2)) ∧ Aside0 (kq ≤ k) ∧ Aside0 (Below w.heap.size w wc))
  case first =>
   have H := HC10.out
   clear HC10
   refine (Classical.em (0 < (l2.length : Int))).elim (fun c15 => ?a5_) (fun c15 => ?b5_)
   case' a5_ =>
    rw [if_pos c15] at H
    have c15b0 : decide (0 < (l2.length : Int)) = true := decide_eq_true c15
    have c15b1 : decide (0 < l2.length) = true := decide_eq_true (by omega)
    clear c15
    (first | rw [c15b0] | (simp only [i64_w, i32_w]; rw [c15b0]) | skip)
    refine (Classical.em (t640 < (rd l2 0))).elim (fun c16 => ?a6_) (fun c16 => ?b6_)
   case a6_ =>
    rw [if_pos c16] at H
    have c16b0 : decide (t640 < (rd l2 0)) = true := decide_eq_true c16
    clear c16
    have H' := Aside0.mk H
    clear H
    have p647 : 0 ≤ (0 : Int) := (by omega)
    have q647 : 0 < (l2.length : Int) := of_decide_eq_true (by first | (with_reducible assumption) | assumption)
    obtain ⟨ad647, e647, hx647_0⟩ := Kd.at_int HR2.out 0 p647 q647
    cases e647
    have qi647 : (0 < l2.length) = True := eq_true (by omega)
    (try rw [show ((0 : Int)).toNat = 0 from rfl] at hx647_0)
    (try rw [Addr.add_zero'] at hx647_0)
    replace hx647_0 := (HB.out.cell (World.block_lt_of_cell? w _ hx647_0)).trans hx647_0
    replace p647 := eq_true p647
    replace q647 := eq_true q647
    go_wp2
    go_meet
    case rel => exact ⟨_, (true), (by first | rfl | (simp; done) | (simp [*]; done)), H', ⟨by first | omega | exact Nat.le_refl _⟩, ⟨by repeat (with_reducible first | exact HB.out | apply below_alloc | apply pw_below_drewN | apply below_drew1)⟩⟩
   case' b6_ =>
    rw [if_neg c16] at H
    have c16b0 : decide (t640 < (rd l2 0)) = false := decide_eq_false c16
    clear c16
    refine (Classical.em (1 < (l2.length : Int))).elim (fun c17 => ?a7_) (fun c17 => ?b7_)
   case' a7_ =>
    rw [if_pos c17] at H
    have c17b0 : decide (1 < (l2.length : Int)) = true := decide_eq_true c17
    have c17b1 : decide (1 < l2.length) = true := decide_eq_true (by omega)
    clear c17
    refine (Classical.em (t640 > (rd l2 1))).elim (fun c18 => ?a8_) (fun c18 => ?b8_)
   case a8_ =>
    rw [if_pos c18] at H
    have c18b0 : decide ((rd l2 1) < t640) = true := decide_eq_true c18
    clear c18
    have H' := Aside0.mk H
    clear H
    have p647 : 0 ≤ (0 : Int) := (by omega)
    have q647 : 0 < (l2.length : Int) := of_decide_eq_true (by first | (with_reducible assumption) | assumption)
    obtain ⟨ad647, e647, hx647_0⟩ := Kd.at_int HR2.out 0 p647 q647
    cases e647
    have qi647 : (0 < l2.length) = True := eq_true (by omega)
    (try rw [show ((0 : Int)).toNat = 0 from rfl] at hx647_0)
    (try rw [Addr.add_zero'] at hx647_0)
    replace hx647_0 := (HB.out.cell (World.block_lt_of_cell? w _ hx647_0)).trans hx647_0
    replace p647 := eq_true p647
    replace q647 := eq_true q647
    have p648 : 0 ≤ (1 : Int) := (by omega)
    have q648 : 1 < (l2.length : Int) := of_decide_eq_true (by first | (with_reducible assumption) | assumption)
    obtain ⟨ad648, e648, hx648_0⟩ := Kd.at_int HR2.out 1 p648 q648
    obtain rfl : ad647 = ad648 := (by injection e648)
    (try simp only [show (1 : Int).toNat = 1 from rfl, Nat.reduceMul, Nat.reduceEqDiff, Go.Addr.add, ↓reduceIte] at hx648_0)
    have qi648 : (1 < l2.length) = True := eq_true (by omega)
    (try rw [show ((1 : Int)).toNat = 1 from rfl] at hx648_0)
    replace hx648_0 := (HB.out.cell (World.block_lt_of_cell? w _ hx648_0)).trans hx648_0
    replace p648 := eq_true p648
    replace q648 := eq_true q648
    go_wp2
    go_meet
    case rel => exact ⟨_, (true), (by first | rfl | (simp; done) | (simp [*]; done)), H', ⟨by first | omega | exact Nat.le_refl _⟩, ⟨by repeat (with_reducible first | exact HB.out | apply below_alloc | apply pw_below_drewN | apply below_drew1)⟩⟩
   case' b8_ =>
    rw [if_neg c18] at H
    have c18b0 : decide ((rd l2 1) < t640) = false := decide_eq_false c18
    clear c18
    refine (Classical.em (t644 < (rd l2 0))).elim (fun c19 => ?a9_) (fun c19 => ?b9_)
   case a9_ =>
    rw [if_pos c19] at H
    have c19b0 : decide (t644 < (rd l2 0)) = true := decide_eq_true c19
    clear c19
    have H' := Aside0.mk H
    clear H
    have p647 : 0 ≤ (0 : Int) := (by omega)
    have q647 : 0 < (l2.length : Int) := of_decide_eq_true (by first | (with_reducible assumption) | assumption)
    obtain ⟨ad647, e647, hx647_0⟩ := Kd.at_int HR2.out 0 p647 q647
    cases e647
    have qi647 : (0 < l2.length) = True := eq_true (by omega)
    (try rw [show ((0 : Int)).toNat = 0 from rfl] at hx647_0)
    (try rw [Addr.add_zero'] at hx647_0)
    replace hx647_0 := (HB.out.cell (World.block_lt_of_cell? w _ hx647_0)).trans hx647_0
    replace p647 := eq_true p647
    replace q647 := eq_true q647
    have p648 : 0 ≤ (1 : Int) := (by omega)
    have q648 : 1 < (l2.length : Int) := of_decide_eq_true (by first | (with_reducible assumption) | assumption)
    obtain ⟨ad648, e648, hx648_0⟩ := Kd.at_int HR2.out 1 p648 q648
    obtain rfl : ad647 = ad648 := (by injection e648)
    (try simp only [show (1 : Int).toNat = 1 from rfl, Nat.reduceMul, Nat.reduceEqDiff, Go.Addr.add, ↓reduceIte] at hx648_0)
    have qi648 : (1 < l2.length) = True := eq_true (by omega)
    (try rw [show ((1 : Int)).toNat = 1 from rfl] at hx648_0)
    replace hx648_0 := (HB.out.cell (World.block_lt_of_cell? w _ hx648_0)).trans hx648_0
    replace p648 := eq_true p648
    replace q648 := eq_true q648
    have p649 : 0 ≤ (0 : Int) := (by omega)
    have q649 : 0 < (l2.length : Int) := of_decide_eq_true (by first | (with_reducible assumption) | assumption)
    obtain ⟨ad649, e649, hx649_0⟩ := Kd.at_int HR2.out 0 p649 q649
    obtain rfl : ad647 = ad649 := (by injection e649)
    have qi649 : (0 < l2.length) = True := eq_true (by omega)
    (try rw [show ((0 : Int)).toNat = 0 from rfl] at hx649_0)
    (try rw [Addr.add_zero'] at hx649_0)
    replace hx649_0 := (HB.out.cell (World.block_lt_of_cell? w _ hx649_0)).trans hx649_0
    replace p649 := eq_true p649
    replace q649 := eq_true q649
    go_wp2
    go_meet
    case rel => exact ⟨_, (true), (by first | rfl | (simp; done) | (simp [*]; done)), H', ⟨by first | omega | exact Nat.le_refl _⟩, ⟨by repeat (with_reducible first | exact HB.out | apply below_alloc | apply pw_below_drewN | apply below_drew1)⟩⟩
   case b9_ =>
    rw [if_neg c19] at H
    have c19b0 : decide (t644 < (rd l2 0)) = false := decide_eq_false c19
    clear c19
    have H' := Aside0.mk H
    clear H
    have p647 : 0 ≤ (0 : Int) := (by omega)
    have q647 : 0 < (l2.length : Int) := of_decide_eq_true (by first | (with_reducible assumption) | assumption)
    obtain ⟨ad647, e647, hx647_0⟩ := Kd.at_int HR2.out 0 p647 q647
    cases e647
    have qi647 : (0 < l2.length) = True := eq_true (by omega)
    (try rw [show ((0 : Int)).toNat = 0 from rfl] at hx647_0)
    (try rw [Addr.add_zero'] at hx647_0)
    replace hx647_0 := (HB.out.cell (World.block_lt_of_cell? w _ hx647_0)).trans hx647_0
    replace p647 := eq_true p647
    replace q647 := eq_true q647
    have p648 : 0 ≤ (1 : Int) := (by omega)
    have q648 : 1 < (l2.length : Int) := of_decide_eq_true (by first | (with_reducible assumption) | assumption)
    obtain ⟨ad648, e648, hx648_0⟩ := Kd.at_int HR2.out 1 p648 q648
    obtain rfl : ad647 = ad648 := (by injection e648)
    (try simp only [show (1 : Int).toNat = 1 from rfl, Nat.reduceMul, Nat.reduceEqDiff, Go.Addr.add, ↓reduceIte] at hx648_0)
    have qi648 : (1 < l2.length) = True := eq_true (by omega)
    (try rw [show ((1 : Int)).toNat = 1 from rfl] at hx648_0)
    replace hx648_0 := (HB.out.cell (World.block_lt_of_cell? w _ hx648_0)).trans hx648_0
    replace p648 := eq_true p648
    replace q648 := eq_true q648
    have p649 : 0 ≤ (0 : Int) := (by omega)
    have q649 : 0 < (l2.length : Int) := of_decide_eq_true (by first | (with_reducible assumption) | assumption)
    obtain ⟨ad649, e649, hx649_0⟩ := Kd.at_int HR2.out 0 p649 q649
    obtain rfl : ad647 = ad649 := (by injection e649)
    have qi649 : (0 < l2.length) = True := eq_true (by omega)
    (try rw [show ((0 : Int)).toNat = 0 from rfl] at hx649_0)
    (try rw [Addr.add_zero'] at hx649_0)
    replace hx649_0 := (HB.out.cell (World.block_lt_of_cell? w _ hx649_0)).trans hx649_0
    replace p649 := eq_true p649
    replace q649 := eq_true q649
    have p650 : 0 ≤ (1 : Int) := (by omega)
    have q650 : 1 < (l2.length : Int) := of_decide_eq_true (by first | (with_reducible assumption) | assumption)
    obtain ⟨ad650, e650, hx650_0⟩ := Kd.at_int HR2.out 1 p650 q650
    obtain rfl : ad647 = ad650 := (by injection e650)
    (try simp only [show (1 : Int).toNat = 1 from rfl, Nat.reduceMul, Nat.reduceEqDiff, Go.Addr.add, ↓reduceIte] at hx650_0)
    have qi650 : (1 < l2.length) = True := eq_true (by omega)
    (try rw [show ((1 : Int)).toNat = 1 from rfl] at hx650_0)
    replace hx650_0 := (HB.out.cell (World.block_lt_of_cell? w _ hx650_0)).trans hx650_0
    replace p650 := eq_true p650
    replace q650 := eq_true q650
    go_wp2
    go_meet
    case rel => exact ⟨_, (decide (t644 > (rd l2 1))), (by first | rfl | (simp; done) | (simp [*]; done)), H', ⟨by first | omega | exact Nat.le_refl _⟩, ⟨by repeat (with_reducible first | exact HB.out | apply below_alloc | apply pw_below_drewN | apply below_drew1)⟩⟩
   case b7_ =>
    rw [if_neg c17] at H
    exact absurd H (by simp)
   case b5_ =>
    rw [if_neg c15] at H
    exact absurd H (by simp)
  case rest =>
   clear HC10
   try clear c2
   try clear c6
   try clear c6b0
   try clear c6b1
   try clear c8
   try clear c8b0
   try clear c8b1
   try clear c15
   try clear c15b0
   try clear c15b1
   try clear c16
   try clear c16b0
   try clear c17
   try clear c17b0
   try clear c17b1
   try clear c18
   try clear c18b0
   try clear c19
   try clear c19b0
   try clear hx639_0
   try clear hx643_0
   try clear hx647_0
   try clear hx648_0
   try clear hx649_0
   try clear hx650_0
   try clear p639
   try clear p643
   try clear p647
   try clear p648
   try clear p649
   try clear p650
   try clear q639
   try clear q642
   try clear q643
   try clear q646
   try clear q647
   try clear q648
   try clear q649
   try clear q650
   obtain ⟨kq, x61_9, rfl, HA, HJ9, HB⟩ := hcut
   cases kq with
   | zero => exact absurd HA.out (by simp [gronx_inRange.j0])
   | succ kj9 =>
    have H := HA.out
    clear HA
    simp only [gronx_inRange.j0] at H
    refine (Classical.em (x61_9 = true)).elim (fun c20 => ?a10_) (fun c20 => ?b10_)
    case' a10_ =>
     subst c20
     rw [if_pos rfl] at H
     replace H := Option.bind_eq_some_iff.mp H
     obtain ⟨t651, A210, H⟩ := H
     try dsimp only at H
     have A21 := Aside0.mk A210
     clear A210
     simp only [Option.some.injEq, Prod.mk.injEq] at H
     obtain ⟨rfl, rfl⟩ := H
    case' b10_ =>
     replace c20 := Bool.eq_false_iff.mpr c20
     subst c20
     rw [if_neg (show ¬ (false = true) by decide)] at H
     refine (Classical.em (a3 = true)).elim (fun c23 => ?a11_) (fun c23 => ?b11_)
    case a11_ =>
     subst c23
     rw [if_pos rfl] at H
     have HC24 := Aside0.mk H
     clear H
     go_upto_region 11 with (fail)
     go_cut [69] (fun v69 wc => ∃ (kq : Nat) (x69_23 : Bool), v69 = .bool x69_23 ∧ Aside0 (gronx_inRange.j1 kq a0 t640 t644 x69_23 = some (r1, r2)) ∧ Aside0 (kq ≤ kj9) ∧ Aside0 (Below w.heap.size w wc))
     case first =>
      have H := HC24.out
      clear HC24
      refine (Classical.em (t640 = 7)).elim (fun c25 => ?a14_) (fun c25 => ?b14_)
      case a14_ =>
       rw [if_pos c25] at H
       have c25b0 : (t640 == 7) = true := beq_iff_eq.mpr c25
       have c25b1 : (t640 != 7) = false := bne_eq_false_iff_eq.mpr c25
       clear c25
       (first | rw [c25b0] | (simp only [i64_w, i32_w]; rw [c25b0]) | skip)
       have H' := Aside0.mk H
       clear H
       go_wp2
       go_meet
       case rel => exact ⟨_, ((t644 != 7)), (by first | rfl | (simp; done) | (simp [*]; done)), H', ⟨by have := HJ9.out; first | omega | exact Nat.le_refl _⟩, ⟨by repeat (with_reducible first | exact HB.out | apply below_alloc | apply pw_below_drewN | apply below_drew1)⟩⟩
      case b14_ =>
       rw [if_neg c25] at H
       have c25b0 : (t640 == 7) = false := beq_eq_false_iff_ne.mpr c25
       have c25b1 : (t640 != 7) = true := bne_iff_ne.mpr c25
       (first | rw [c25b0] | (simp only [i64_w, i32_w]; rw [c25b0]) | skip)
       have H' := Aside0.mk H
       clear H
       go_wp2
       go_meet
       case rel => exact ⟨_, (false), (by first | rfl | (simp; done) | (simp [*]; done)), H', ⟨by have := HJ9.out; first | omega | exact Nat.le_refl _⟩, ⟨by repeat (with_reducible first | exact HB.out | apply below_alloc | apply pw_below_drewN | apply below_drew1)⟩⟩
     case rest =>
      clear HC24
      try clear c2
      try clear c6
      try clear c6b0
      try clear c6b1
      try clear c8
      try clear c8b0
      try clear c8b1
      try clear c15
      try clear c15b0
      try clear c15b1
      try clear c16
      try clear c16b0
      try clear c17
      try clear c17b0
      try clear c17b1
      try clear c18
      try clear c18b0
      try clear c19
      try clear c19b0
      try clear c20
      try clear c23
      try clear c25
      try clear c25b0
      try clear c25b1
      try clear hx639_0
      try clear hx643_0
      try clear hx647_0
      try clear hx648_0
      try clear hx649_0
      try clear hx650_0
      try clear p639
      try clear p643
      try clear p647
      try clear p648
      try clear p649
      try clear p650
      try clear q639
      try clear q642
      try clear q643
      try clear q646
      try clear q647
      try clear q648
      try clear q649
      try clear q650
      obtain ⟨kq, x69_23, rfl, HA, HJ23, HB⟩ := hcut
      cases kq with
      | zero => exact absurd HA.out (by simp [gronx_inRange.j1])
      | succ kj23 =>
       have H := HA.out
       clear HA
       simp only [gronx_inRange.j1] at H
       have HC26 := Aside0.mk H
       clear H
       go_upto_if 69 with (fail)
       go_cut [11] (fun v11 wc => ∃ (kq : Nat) (x11_25 : Int), v11 = .int .i64 x11_25 ∧ Aside0 (gronx_inRange.j2 kq a0 x11_25 t644 = some (r1, r2)) ∧ Aside0 (kq ≤ kj23) ∧ Aside0 (Below w.heap.size w wc))
       case first =>
        have H := HC26.out
        clear HC26
        refine (Classical.em (x69_23 = true)).elim (fun c27 => ?a15_) (fun c27 => ?b15_)
        case a15_ =>
         subst c27
         rw [if_pos rfl] at H
         have H' := Aside0.mk H
         clear H
         go_wp2
         go_meet
         case rel => exact ⟨_, (0), (by first | rfl | (simp; done) | (simp [*]; done)), H', ⟨by have := HJ9.out; have := HJ23.out; first | omega | exact Nat.le_refl _⟩, ⟨by repeat (with_reducible first | exact HB.out | apply below_alloc | apply pw_below_drewN | apply below_drew1)⟩⟩
        case b15_ =>
         replace c27 := Bool.eq_false_iff.mpr c27
         subst c27
         rw [if_neg (show ¬ (false = true) by decide)] at H
         have H' := Aside0.mk H
         clear H
         go_wp2
         go_meet
         case rel => exact ⟨_, (t640), (by first | rfl | (simp; done) | (simp [*]; done)), H', ⟨by have := HJ9.out; have := HJ23.out; first | omega | exact Nat.le_refl _⟩, ⟨by repeat (with_reducible first | exact HB.out | apply below_alloc | apply pw_below_drewN | apply below_drew1)⟩⟩
       case rest =>
        clear HC26
        try clear c2
        try clear c6
        try clear c6b0
        try clear c6b1
        try clear c8
        try clear c8b0
        try clear c8b1
        try clear c15
        try clear c15b0
        try clear c15b1
        try clear c16
        try clear c16b0
        try clear c17
        try clear c17b0
        try clear c17b1
        try clear c18
        try clear c18b0
        try clear c19
        try clear c19b0
        try clear c20
        try clear c23
        try clear c25
        try clear c25b0
        try clear c25b1
        try clear c27
        try clear hx639_0
        try clear hx643_0
        try clear hx647_0
        try clear hx648_0
        try clear hx649_0
        try clear hx650_0
        try clear p639
        try clear p643
        try clear p647
        try clear p648
        try clear p649
        try clear p650
        try clear q639
        try clear q642
        try clear q643
        try clear q646
        try clear q647
        try clear q648
        try clear q649
        try clear q650
        obtain ⟨kq, x11_25, rfl, HA, HJ25, HB⟩ := hcut
        cases kq with
        | zero => exact absurd HA.out (by simp [gronx_inRange.j2])
        | succ kj25 =>
         have H := HA.out
         clear HA
         simp only [gronx_inRange.j2] at H
         have HC28 := Aside0.mk H
         clear H
         go_upto_region 13 with (fail)
         go_cut [75] (fun v75 wc => ∃ (kq : Nat) (x75_27 : Bool), v75 = .bool x75_27 ∧ Aside0 (gronx_inRange.j3 kq a0 x11_25 t644 x75_27 = some (r1, r2)) ∧ Aside0 (kq ≤ kj25) ∧ Aside0 (Below w.heap.size w wc))
         case first =>
          have H := HC28.out
          clear HC28
          refine (Classical.em (t644 = 7)).elim (fun c29 => ?a16_) (fun c29 => ?b16_)
          case a16_ =>
           rw [if_pos c29] at H
           have c29b0 : (t644 == 7) = true := beq_iff_eq.mpr c29
           have c29b1 : (t644 != 7) = false := bne_eq_false_iff_eq.mpr c29
           clear c29
           (first | rw [c29b0] | (simp only [i64_w, i32_w]; rw [c29b0]) | skip)
           have H' := Aside0.mk H
           clear H
           go_wp2
           go_meet
           case rel => exact ⟨_, ((a0 == 0)), (by first | rfl | (simp; done) | (simp [*]; done)), H', ⟨by have := HJ9.out; have := HJ23.out; have := HJ25.out; first | omega | exact Nat.le_refl _⟩, ⟨by repeat (with_reducible first | exact HB.out | apply below_alloc | apply pw_below_drewN | apply below_drew1)⟩⟩
          case b16_ =>
           rw [if_neg c29] at H
           have c29b0 : (t644 == 7) = false := beq_eq_false_iff_ne.mpr c29
           have c29b1 : (t644 != 7) = true := bne_iff_ne.mpr c29
           (first | rw [c29b0] | (simp only [i64_w, i32_w]; rw [c29b0]) | skip)
           have H' := Aside0.mk H
           clear H
           go_wp2
           go_meet
           case rel => exact ⟨_, (false), (by first | rfl | (simp; done) | (simp [*]; done)), H', ⟨by have := HJ9.out; have := HJ23.out; have := HJ25.out; first | omega | exact Nat.le_refl _⟩, ⟨by repeat (with_reducible first | exact HB.out | apply below_alloc | apply pw_below_drewN | apply below_drew1)⟩⟩
         case rest =>
          clear HC28
          try clear c2
          try clear c6
          try clear c6b0
          try clear c6b1
          try clear c8
          try clear c8b0
          try clear c8b1
          try clear c15
          try clear c15b0
          try clear c15b1
          try clear c16
          try clear c16b0
          try clear c17
          try clear c17b0
          try clear c17b1
          try clear c18
          try clear c18b0
          try clear c19
          try clear c19b0
          try clear c20
          try clear c23
          try clear c25
          try clear c25b0
          try clear c25b1
          try clear c27
          try clear c29
          try clear c29b0
          try clear c29b1
          try clear hx639_0
          try clear hx643_0
          try clear hx647_0
          try clear hx648_0
          try clear hx649_0
          try clear hx650_0
          try clear p639
          try clear p643
          try clear p647
          try clear p648
          try clear p649
          try clear p650
          try clear q639
          try clear q642
          try clear q643
          try clear q646
          try clear q647
          try clear q648
          try clear q649
          try clear q650
          obtain ⟨kq, x75_27, rfl, HA, HJ27, HB⟩ := hcut
          cases kq with
          | zero => exact absurd HA.out (by simp [gronx_inRange.j3])
          | succ kj27 =>
           have H := HA.out
           clear HA
           simp only [gronx_inRange.j3] at H
           refine (Classical.em (x75_27 = true)).elim (fun c30 => ?a17_) (fun c30 => ?b17_)
           case' a17_ =>
            subst c30
            rw [if_pos rfl] at H
            refine (Classical.em (t644 < x11_25)).elim (fun c31 => ?a18_) (fun c31 => ?b18_)
           case' a18_ =>
            rw [if_pos c31] at H
            have c31b0 : decide (t644 < x11_25) = true := decide_eq_true c31
            clear c31
            replace H := Option.bind_eq_some_iff.mp H
            obtain ⟨t652, A320, H⟩ := H
            try dsimp only at H
            have A32 := Aside0.mk A320
            clear A320
            simp only [Option.some.injEq, Prod.mk.injEq] at H
            obtain ⟨rfl, rfl⟩ := H
           case' b18_ =>
            rw [if_neg c31] at H
            have c31b0 : decide (t644 < x11_25) = false := decide_eq_false c31
            clear c31
            refine (Classical.em (x11_25 ≤ 7)).elim (fun c34 => ?a19_) (fun c34 => ?b19_)
           case' a19_ =>
            rw [if_pos c34] at H
            have c34b0 : decide (x11_25 ≤ 7) = true := decide_eq_true c34
            clear c34
            simp only [Option.some.injEq, Prod.mk.injEq] at H
            obtain ⟨rfl, rfl⟩ := H
           case' b19_ =>
            rw [if_neg c34] at H
            have c34b0 : decide (x11_25 ≤ 7) = false := decide_eq_false c34
            clear c34
            simp only [Option.some.injEq, Prod.mk.injEq] at H
            obtain ⟨rfl, rfl⟩ := H
           case' b17_ =>
            replace c30 := Bool.eq_false_iff.mpr c30
            subst c30
            rw [if_neg (show ¬ (false = true) by decide)] at H
            refine (Classical.em (t644 < x11_25)).elim (fun c35 => ?a20_) (fun c35 => ?b20_)
           case' a20_ =>
            rw [if_pos c35] at H
            have c35b0 : decide (t644 < x11_25) = true := decide_eq_true c35
            clear c35
            replace H := Option.bind_eq_some_iff.mp H
            obtain ⟨t653, A360, H⟩ := H
            try dsimp only at H
            have A36 := Aside0.mk A360
            clear A360
            simp only [Option.some.injEq, Prod.mk.injEq] at H
            obtain ⟨rfl, rfl⟩ := H
           case' b20_ =>
            rw [if_neg c35] at H
            have c35b0 : decide (t644 < x11_25) = false := decide_eq_false c35
            clear c35
            refine (Classical.em (x11_25 ≤ a0)).elim (fun c38 => ?a21_) (fun c38 => ?b21_)
           case' a21_ =>
            rw [if_pos c38] at H
            have c38b0 : decide (x11_25 ≤ a0) = true := decide_eq_true c38
            clear c38
            simp only [Option.some.injEq, Prod.mk.injEq] at H
            obtain ⟨rfl, rfl⟩ := H
           case' b21_ =>
            rw [if_neg c38] at H
            have c38b0 : decide (x11_25 ≤ a0) = false := decide_eq_false c38
            clear c38
            simp only [Option.some.injEq, Prod.mk.injEq] at H
            obtain ⟨rfl, rfl⟩ := H
           case a18_ | a20_ =>
            go_wp2_with (first | ((with_reducible refine gate_callee (f := 46) rfl ?_); refine goesL_ (some 79) rfl rfl Tryz.func46 (by kernel_rfl) rfl #[.string (⟨#[114, 97, 110, 103, 101, 32, 111, 117, 116, 32, 111, 102, 32, 98, 111, 117, 110, 100, 115, 40, 44, 32, 41]⟩ : ByteArray)] rfl (by (try simp only [List.map_toArray, List.map_cons, List.map_nil]); first | done | rfl | (simp only [List.length_drop, List.length_take]; rfl)) ?_; (with_reducible refine (errors_New.calls (⟨#[114, 97, 110, 103, 101, 32, 111, 117, 116, 32, 111, 102, 32, 98, 111, 117, 110, 100, 115, 40, 44, 32, 41]⟩ : ByteArray) t652 _ A32.out).mono ?_); rintro e w33 ⟨rfl, hb⟩; refine ⟨_, rfl, ?_⟩; have n0_ := Aside0.mk (below_step (by repeat (with_reducible first | exact HB.out | apply below_alloc | apply pw_below_drewN | apply below_drew1)) hb); clear HB; have HB := n0_; clear n0_; (try clear hb); (try clear hb2); (try clear hk); (try clear hi); (try simp only [errW_none, errW_some])) | ((with_reducible refine gate_callee (f := 46) rfl ?_); refine goesL_ (some 79) rfl rfl Tryz.func46 (by kernel_rfl) rfl #[.string (⟨#[114, 97, 110, 103, 101, 32, 111, 117, 116, 32, 111, 102, 32, 98, 111, 117, 110, 100, 115, 40, 44, 32, 41]⟩ : ByteArray)] rfl (by (try simp only [List.map_toArray, List.map_cons, List.map_nil]); first | done | rfl | (simp only [List.length_drop, List.length_take]; rfl)) ?_; (with_reducible refine (errors_New.calls (⟨#[114, 97, 110, 103, 101, 32, 111, 117, 116, 32, 111, 102, 32, 98, 111, 117, 110, 100, 115, 40, 44, 32, 41]⟩ : ByteArray) t653 _ A36.out).mono ?_); rintro e w37 ⟨rfl, hb⟩; refine ⟨_, rfl, ?_⟩; have n0_ := Aside0.mk (below_step (by repeat (with_reducible first | exact HB.out | apply below_alloc | apply pw_below_drewN | apply below_drew1)) hb); clear HB; have HB := n0_; clear n0_; (try clear hb); (try clear hb2); (try clear hk); (try clear hi); (try simp only [errW_none, errW_some])))
            go_ret2
            exact ⟨by first | rfl | (simp [errW_none, errW_some] <;> rfl) | (simp [*, errW_none, errW_some] <;> rfl), by repeat (with_reducible first | exact HB.out | apply below_alloc | apply pw_below_drewN | apply below_drew1)⟩
           case a19_ | b19_ | a21_ | b21_ =>
            go_wp2
            go_ret2
            exact ⟨by first | rfl | (simp [errW_none, errW_some] <;> rfl) | (simp [*, errW_none, errW_some] <;> rfl), by repeat (with_reducible first | exact HB.out | apply below_alloc | apply pw_below_drewN | apply below_drew1)⟩
    case' b11_ =>
     replace c23 := Bool.eq_false_iff.mpr c23
     subst c23
     rw [if_neg (show ¬ (false = true) by decide)] at H
     refine (Classical.em (t644 < t640)).elim (fun c39 => ?a12_) (fun c39 => ?b12_)
    case' a12_ =>
     rw [if_pos c39] at H
     have c39b0 : decide (t644 < t640) = true := decide_eq_true c39
     clear c39
     replace H := Option.bind_eq_some_iff.mp H
     obtain ⟨t654, A400, H⟩ := H
     try dsimp only at H
     have A40 := Aside0.mk A400
     clear A400
     simp only [Option.some.injEq, Prod.mk.injEq] at H
     obtain ⟨rfl, rfl⟩ := H
    case' b12_ =>
     rw [if_neg c39] at H
     have c39b0 : decide (t644 < t640) = false := decide_eq_false c39
     clear c39
     refine (Classical.em (t640 ≤ a0)).elim (fun c42 => ?a13_) (fun c42 => ?b13_)
    case' a13_ =>
     rw [if_pos c42] at H
     have c42b0 : decide (t640 ≤ a0) = true := decide_eq_true c42
     clear c42
     simp only [Option.some.injEq, Prod.mk.injEq] at H
     obtain ⟨rfl, rfl⟩ := H
    case' b13_ =>
     rw [if_neg c42] at H
     have c42b0 : decide (t640 ≤ a0) = false := decide_eq_false c42
     clear c42
     simp only [Option.some.injEq, Prod.mk.injEq] at H
     obtain ⟨rfl, rfl⟩ := H
    case a10_ | a12_ =>
     go_wp2_with (first | ((with_reducible refine gate_callee (f := 46) rfl ?_); refine goesL_ (some 62) rfl rfl Tryz.func46 (by kernel_rfl) rfl #[.string (⟨#[114, 97, 110, 103, 101, 32, 111, 117, 116, 32, 111, 102, 32, 98, 111, 117, 110, 100, 115, 40, 44, 32, 41]⟩ : ByteArray)] rfl (by (try simp only [List.map_toArray, List.map_cons, List.map_nil]); first | done | rfl | (simp only [List.length_drop, List.length_take]; rfl)) ?_; (with_reducible refine (errors_New.calls (⟨#[114, 97, 110, 103, 101, 32, 111, 117, 116, 32, 111, 102, 32, 98, 111, 117, 110, 100, 115, 40, 44, 32, 41]⟩ : ByteArray) t651 _ A21.out).mono ?_); rintro e w22 ⟨rfl, hb⟩; refine ⟨_, rfl, ?_⟩; have n0_ := Aside0.mk (below_step (by repeat (with_reducible first | exact HB.out | apply below_alloc | apply pw_below_drewN | apply below_drew1)) hb); clear HB; have HB := n0_; clear n0_; (try clear hb); (try clear hb2); (try clear hk); (try clear hi); (try simp only [errW_none, errW_some])) | ((with_reducible refine gate_callee (f := 46) rfl ?_); refine goesL_ (some 79) rfl rfl Tryz.func46 (by kernel_rfl) rfl #[.string (⟨#[114, 97, 110, 103, 101, 32, 111, 117, 116, 32, 111, 102, 32, 98, 111, 117, 110, 100, 115, 40, 44, 32, 41]⟩ : ByteArray)] rfl (by (try simp only [List.map_toArray, List.map_cons, List.map_nil]); first | done | rfl | (simp only [List.length_drop, List.length_take]; rfl)) ?_; (with_reducible refine (errors_New.calls (⟨#[114, 97, 110, 103, 101, 32, 111, 117, 116, 32, 111, 102, 32, 98, 111, 117, 110, 100, 115, 40, 44, 32, 41]⟩ : ByteArray) t654 _ A40.out).mono ?_); rintro e w41 ⟨rfl, hb⟩; refine ⟨_, rfl, ?_⟩; have n0_ := Aside0.mk (below_step (by repeat (with_reducible first | exact HB.out | apply below_alloc | apply pw_below_drewN | apply below_drew1)) hb); clear HB; have HB := n0_; clear n0_; (try clear hb); (try clear hb2); (try clear hk); (try clear hi); (try simp only [errW_none, errW_some])))
     go_ret2
     exact ⟨by first | rfl | (simp [errW_none, errW_some] <;> rfl) | (simp [*, errW_none, errW_some] <;> rfl), by repeat (with_reducible first | exact HB.out | apply below_alloc | apply pw_below_drewN | apply below_drew1)⟩
    case a13_ | b13_ =>
     go_wp2
     go_ret2
     exact ⟨by first | rfl | (simp [errW_none, errW_some] <;> rfl) | (simp [*, errW_none, errW_some] <;> rfl), by repeat (with_reducible first | exact HB.out | apply below_alloc | apply pw_below_drewN | apply below_drew1)⟩
 case b4_ =>
  obtain ⟨q646, rfl⟩ := h_
  rw [if_neg (show ¬ (some q646).isNone = true by simp)] at H
  try simp only [errW_none, errW_some]
  simp only [Option.some.injEq, Prod.mk.injEq] at H
  obtain ⟨rfl, rfl⟩ := H
  go_enter Tryz.func215, Tryz.ntmps215
  go_wp2_with (first | ((with_reducible refine gate_callee (f := 64) rfl ?_); refine goesL_ (some 15) rfl rfl Tryz.func64 (by kernel_rfl) rfl #[.string a1, .string (⟨#[45]⟩ : ByteArray)] rfl (by (try simp only [List.map_toArray, List.map_cons, List.map_nil]); first | done | rfl | (simp only [List.length_drop, List.length_take]; rfl)) ?_; (with_reducible refine (gronx_zzSplit.calls k a1 (⟨#[45]⟩ : ByteArray) t636 _ A5.out).mono ?_); rintro e w43 ⟨v637, rfl, ho0, hb⟩; refine ⟨_, rfl, ?_⟩; have n0_ := Aside0.mk (Kd.R_lower ho0 (below_size (by repeat (with_reducible first | exact HB.out | apply below_alloc | apply pw_below_drewN | apply below_drew1)))); have n1_ := Aside0.mk (below_step (by repeat (with_reducible first | exact HB.out | apply below_alloc | apply pw_below_drewN | apply below_drew1)) hb); clear HB; have HO638 := n0_; have HB := n1_; clear n0_ n1_; (try clear hb); (try clear hb2); (try clear hk); (try clear hi); (try clear ho0); obtain ⟨Ao44, co44, eo44⟩ := Kd.R_slice HO638.out; subst eo44; have p639 : 0 ≤ (0 : Int) := (by omega); have q639 : 0 < (t636.length : Int) := of_decide_eq_true (by first | (with_reducible assumption) | assumption); obtain ⟨ad639, e639, hx639_0⟩ := Kd.at_string (Kd.R_reads' HO638.out).2.2 0 p639 q639; cases e639; have qi639 : (0 < t636.length) = True := eq_true (by omega); (try rw [show ((0 : Int)).toNat = 0 from rfl] at hx639_0); (try rw [Addr.add_zero'] at hx639_0); replace p639 := eq_true p639; replace q639 := eq_true q639) | ((with_reducible refine gate_callee (f := 67) rfl ?_); refine goesL_ (some 20) rfl rfl Tryz.func67 (by kernel_rfl) rfl #[.string (rdOf ByteArray.empty t636 0)] rfl (by (try simp only [List.map_toArray, List.map_cons, List.map_nil]); first | done | rfl | (simp only [List.length_drop, List.length_take]; rfl)) ?_; (with_reducible refine (strconv_Atoi.calls (rdOf ByteArray.empty t636 0) t640 none _ A7.out).mono ?_); rintro e w45 ⟨rfl, hb⟩; refine ⟨_, rfl, ?_⟩; have n0_ := Aside0.mk (Kd.R_below (by (with_reducible repeat (first | apply Kd.R_alloc | apply Kd.R_drewN | apply Kd.R_drew)); exact HO638.out) hb); have n1_ := Aside0.mk (below_step (by repeat (with_reducible first | exact HB.out | apply below_alloc | apply pw_below_drewN | apply below_drew1)) hb); clear HO638; clear HB; have HO638 := n0_; have HB := n1_; clear n0_ n1_; (try clear hb); (try clear hb2); (try clear hk); (try clear hi); (try simp only [errW_none, errW_some]); have p643 : 0 ≤ (1 : Int) := (by omega); have q643 : 1 < (t636.length : Int) := of_decide_eq_true (by first | (with_reducible assumption) | assumption); obtain ⟨ad643, e643, hx643_0⟩ := Kd.at_string (Kd.R_reads' HO638.out).2.2 1 p643 q643; obtain rfl : ad639 = ad643 := (by injection e643); (try simp only [show (1 : Int).toNat = 1 from rfl, Nat.reduceMul, Nat.reduceEqDiff, Go.Addr.add, ↓reduceIte] at hx643_0); have qi643 : (1 < t636.length) = True := eq_true (by omega); (try rw [show ((1 : Int)).toNat = 1 from rfl] at hx643_0); replace p643 := eq_true p643; replace q643 := eq_true q643) | ((with_reducible refine gate_callee (f := 67) rfl ?_); refine goesL_ (some 30) rfl rfl Tryz.func67 (by kernel_rfl) rfl #[.string (rdOf ByteArray.empty t636 1)] rfl (by (try simp only [List.map_toArray, List.map_cons, List.map_nil]); first | done | rfl | (simp only [List.length_drop, List.length_take]; rfl)) ?_; (with_reducible refine (strconv_Atoi.calls (rdOf ByteArray.empty t636 1) t644 (some q646) _ A9.out).mono ?_); rintro e w46 ⟨rfl, hb⟩; refine ⟨_, rfl, ?_⟩; have n0_ := Aside0.mk (Kd.R_below (by (with_reducible repeat (first | apply Kd.R_alloc | apply Kd.R_drewN | apply Kd.R_drew)); exact HO638.out) hb); have n1_ := Aside0.mk (below_step (by repeat (with_reducible first | exact HB.out | apply below_alloc | apply pw_below_drewN | apply below_drew1)) hb); clear HO638; clear HB; have HO638 := n0_; have HB := n1_; clear n0_ n1_; (try clear hb); (try clear hb2); (try clear hk); (try clear hi); (try simp only [errW_none, errW_some])))
  go_ret2
  exact ⟨by first | rfl | (simp [errW_none, errW_some] <;> rfl) | (simp [*, errW_none, errW_some] <;> rfl), by repeat (with_reducible first | exact HB.out | apply below_alloc | apply pw_below_drewN | apply below_drew1)⟩
 case b3_ =>
  rw [if_neg c8] at H
  exact absurd H (by simp)
 case b2_ =>
  obtain ⟨q642, rfl⟩ := h_
  rw [if_neg (show ¬ (some q642).isNone = true by simp)] at H
  try simp only [errW_none, errW_some]
  simp only [Option.some.injEq, Prod.mk.injEq] at H
  obtain ⟨rfl, rfl⟩ := H
  go_enter Tryz.func215, Tryz.ntmps215
  go_wp2_with (first | ((with_reducible refine gate_callee (f := 64) rfl ?_); refine goesL_ (some 15) rfl rfl Tryz.func64 (by kernel_rfl) rfl #[.string a1, .string (⟨#[45]⟩ : ByteArray)] rfl (by (try simp only [List.map_toArray, List.map_cons, List.map_nil]); first | done | rfl | (simp only [List.length_drop, List.length_take]; rfl)) ?_; (with_reducible refine (gronx_zzSplit.calls k a1 (⟨#[45]⟩ : ByteArray) t636 _ A5.out).mono ?_); rintro e w47 ⟨v637, rfl, ho0, hb⟩; refine ⟨_, rfl, ?_⟩; have n0_ := Aside0.mk (Kd.R_lower ho0 (below_size (by repeat (with_reducible first | exact HB.out | apply below_alloc | apply pw_below_drewN | apply below_drew1)))); have n1_ := Aside0.mk (below_step (by repeat (with_reducible first | exact HB.out | apply below_alloc | apply pw_below_drewN | apply below_drew1)) hb); clear HB; have HO638 := n0_; have HB := n1_; clear n0_ n1_; (try clear hb); (try clear hb2); (try clear hk); (try clear hi); (try clear ho0); obtain ⟨Ao48, co48, eo48⟩ := Kd.R_slice HO638.out; subst eo48; have p639 : 0 ≤ (0 : Int) := (by omega); have q639 : 0 < (t636.length : Int) := of_decide_eq_true (by first | (with_reducible assumption) | assumption); obtain ⟨ad639, e639, hx639_0⟩ := Kd.at_string (Kd.R_reads' HO638.out).2.2 0 p639 q639; cases e639; have qi639 : (0 < t636.length) = True := eq_true (by omega); (try rw [show ((0 : Int)).toNat = 0 from rfl] at hx639_0); (try rw [Addr.add_zero'] at hx639_0); replace p639 := eq_true p639; replace q639 := eq_true q639) | ((with_reducible refine gate_callee (f := 67) rfl ?_); refine goesL_ (some 20) rfl rfl Tryz.func67 (by kernel_rfl) rfl #[.string (rdOf ByteArray.empty t636 0)] rfl (by (try simp only [List.map_toArray, List.map_cons, List.map_nil]); first | done | rfl | (simp only [List.length_drop, List.length_take]; rfl)) ?_; (with_reducible refine (strconv_Atoi.calls (rdOf ByteArray.empty t636 0) t640 (some q642) _ A7.out).mono ?_); rintro e w49 ⟨rfl, hb⟩; refine ⟨_, rfl, ?_⟩; have n0_ := Aside0.mk (Kd.R_below (by (with_reducible repeat (first | apply Kd.R_alloc | apply Kd.R_drewN | apply Kd.R_drew)); exact HO638.out) hb); have n1_ := Aside0.mk (below_step (by repeat (with_reducible first | exact HB.out | apply below_alloc | apply pw_below_drewN | apply below_drew1)) hb); clear HO638; clear HB; have HO638 := n0_; have HB := n1_; clear n0_ n1_; (try clear hb); (try clear hb2); (try clear hk); (try clear hi); (try simp only [errW_none, errW_some])))
  go_ret2
  exact ⟨by first | rfl | (simp [errW_none, errW_some] <;> rfl) | (simp [*, errW_none, errW_some] <;> rfl), by repeat (with_reducible first | exact HB.out | apply below_alloc | apply pw_below_drewN | apply below_drew1)⟩
 case b1_ =>
  rw [if_neg c6] at H
  exact absurd H (by simp)
end Go.Proofs.YtjpcdkhapeejjaaGreatDoor.A
