/- Steps of the proof of the law: contracts of functions of the given program, and plain lemmas about what they compute.
Conditions: none beyond those that each theorem names. -/
import Derived.Test.YtjpcdkhapeejjaaGreatDoorK07
import Derived.Test.YtjpcdkhapeejjaaGreatDoorK08
set_option linter.unusedVariables false
set_option linter.unusedSimpArgs false
open Go.RowKit Go.Proofs.YtjpcdkhapeejjaaGreatDoorW.PrintWords Go.Proofs.YtjpcdkhapeejjaaGreatDoorW.PrintLast Go.Proofs.YtjpcdkhapeejjaaGreatDoorW.PrintMore
namespace Go.Proofs.YtjpcdkhapeejjaaGreatDoor.A
mutual
def gronx_inStep.j0 : Nat → Int → List Int → Bool → Int → List ByteArray → Int → Int → Option (Bool × Option Int)
  | 0, _, _, _, _, _, _, _ => none
  | k + 1, x0, x2, x3, x11, x13, x14, x15 => if (x13.length : Int) > 1 then (if x14 < x15 then (gronx_inStep.j1 k x0 x3 x11 x14 x15 true) else (if 0 < (x2.length : Int) then (if x15 < (rd x2 0) then (gronx_inStep.j1 k x0 x3 x11 x14 x15 true) else (if 1 < (x2.length : Int) then (gronx_inStep.j1 k x0 x3 x11 x14 x15 (decide (x14 > (rd x2 1)))) else (none))) else (none))) else (if 0 < (x2.length : Int) then (if x15 < (rd x2 0) then (gronx_inStep.j1 k x0 x3 x11 x14 x15 true) else (if 1 < (x2.length : Int) then (gronx_inStep.j1 k x0 x3 x11 x14 x15 (decide (x14 > (rd x2 1)))) else (none))) else (none))
def gronx_inStep.j1 : Nat → Int → Bool → Int → Int → Int → Bool → Option (Bool × Option Int)
  | 0, _, _, _, _, _, _ => none
  | k + 1, x0, x3, x11, x14, x15, x98 => if x98 = true then ((errors_New.f (⟨#[115, 116, 101, 112, 32, 111, 117, 116, 32, 111, 102, 32, 98, 111, 117, 110, 100, 115, 40, 44, 32, 41]⟩ : ByteArray)).bind fun t631 => (some (false, t631))) else (if x3 = true then (if x15 = 7 then (gronx_inStep.j2 k x0 x11 x14 x15 (x14 != 7)) else (gronx_inStep.j2 k x0 x11 x14 x15 false)) else ((gronx_inStepRange.f k x0 x15 x14 x11).bind fun t635 => (some (t635, none))))
def gronx_inStep.j2 : Nat → Int → Int → Int → Int → Bool → Option (Bool × Option Int)
  | 0, _, _, _, _, _ => none
  | k + 1, x0, x11, x14, x15, x106 => if x106 = true then (gronx_inStep.j3 k x0 x11 x14 0) else (gronx_inStep.j3 k x0 x11 x14 x15)
def gronx_inStep.j3 : Nat → Int → Int → Int → Int → Option (Bool × Option Int)
  | 0, _, _, _, _ => none
  | k + 1, x0, x11, x14, x15 => if x0 = 0 then ((gronx_inStepRange.f k 0 x15 x14 x11).bind fun t632 => (if t632 = true then (some (true, none)) else ((gronx_inStepRange.f k 7 x15 x14 x11).bind fun t633 => (some (t633, none))))) else ((gronx_inStepRange.f k x0 x15 x14 x11).bind fun t634 => (some (t634, none)))
end
def gronx_inStep.f (k : Nat) (a0 : Int) (a1 : ByteArray) (l2 : List Int) (a3 : Bool) : Option (Bool × Option Int) := (gronx_zzSplit.f k a1 (⟨#[47]⟩ : ByteArray)).bind fun t604 => (if 1 < (t604.length : Int) then ((strconv_Atoi.f (rdOf ByteArray.empty t604 1)).bind fun bt608 => (if bt608.2.isNone = true then (if bt608.1 ≤ 0 then ((errors_New.f (⟨#[115, 116, 101, 112, 32, 99, 97, 110, 39, 116, 32, 98, 101, 32, 48]⟩ : ByteArray)).bind fun t611 => (some (false, t611))) else ((gronx_zzIndex.f k a1 (⟨#[42, 47]⟩ : ByteArray)).bind fun t612 => (if t612 = 0 then (if 0 < (l2.length : Int) then (if bt608.1 = 0 then (none) else (some (((Int.tmod (wrap64 (a0 - (rd l2 0))) bt608.1) == 0), none))) else (none)) else ((gronx_zzIndex.f k a1 (⟨#[48, 47]⟩ : ByteArray)).bind fun t614 => (if t614 = 0 then (if bt608.1 = 0 then (none) else (some (((Int.tmod a0 bt608.1) == 0), none))) else (if 0 < (t604.length : Int) then ((gronx_zzSplit.f k (rdOf ByteArray.empty t604 0) (⟨#[45]⟩ : ByteArray)).bind fun t616 => (if 0 < (t616.length : Int) then ((strconv_Atoi.f (rdOf ByteArray.empty t616 0)).bind fun bt620 => (if bt620.2.isNone = true then (if (t616.length : Int) > 1 then (if 1 < (t616.length : Int) then ((strconv_Atoi.f (rdOf ByteArray.empty t616 1)).bind fun bt624 => (if bt624.2.isNone = true then (gronx_inStep.j0 k a0 l2 a3 bt608.1 t616 bt624.1 bt620.1) else (some (false, some (bt624.2.getD 0))))) else (none)) else (gronx_inStep.j0 k a0 l2 a3 bt608.1 t616 a0 bt620.1)) else (some (false, some (bt620.2.getD 0))))) else (none))) else (none))))))) else (some (false, some (bt608.2.getD 0))))) else (none))
set_option maxHeartbeats 8000000 in
set_option maxRecDepth 100000 in
theorem gronx_inStep.calls (k : Nat) (a0 : Int) (a1 : ByteArray) (A2 : Option Addr) (c2 : Nat) (l2 : List Int) (a3 : Bool) (r1 : Bool) (r2 : Option Int) (w : World) (hr2 : Kd.C (Kd.int .i64) w A2 l2.length l2) (hc2 : l2.length ≤ c2) (h : gronx_inStep.f k a0 a1 l2 a3 = some (r1, r2)) :
    Calls Tryz.prog 214 #[.int .i64 a0, .string a1, .slice A2 l2.length c2, .bool a3] w fun e w' => e = .returned (.tuple #[.bool r1, errW r2]) ∧ Below w.heap.size w w' := by
 have hu65 := Tryz.underlying65
 have HR2 := Aside0.mk hr2
 have HC2 := Aside0.mk hc2
 clear hr2 hc2
 have HB := Aside0.mk (Below.refl w.heap.size w)
 have H : ((gronx_zzSplit.f k a1 (⟨#[47]⟩ : ByteArray)).bind fun t604 => (if 1 < (t604.length : Int) then ((strconv_Atoi.f (rdOf ByteArray.empty t604 1)).bind fun bt608 => (if bt608.2.isNone = true then (if bt608.1 ≤ 0 then ((errors_New.f (⟨#[115, 116, 101, 112, 32, 99, 97, 110, 39, 116, 32, 98, 101, 32, 48]⟩ : ByteArray)).bind fun t611 => (some (false, t611))) else ((gronx_zzIndex.f k a1 (⟨#[42, 47]⟩ : ByteArray)).bind fun t612 => (if t612 = 0 then (if 0 < (l2.length : Int) then (if bt608.1 = 0 then (none) else (some (((Int.tmod (wrap64 (a0 - (rd l2 0))) bt608.1) == 0), none))) else (none)) else ((gronx_zzIndex.f k a1 (⟨#[48, 47]⟩ : ByteArray)).bind fun t614 => (if t614 = 0 then (if bt608.1 = 0 then (none) else (some (((Int.tmod a0 bt608.1) == 0), none))) else (if 0 < (t604.length : Int) then ((gronx_zzSplit.f k (rdOf ByteArray.empty t604 0) (⟨#[45]⟩ : ByteArray)).bind fun t616 => (if 0 < (t616.length : Int) then ((strconv_Atoi.f (rdOf ByteArray.empty t616 0)).bind fun bt620 => (if bt620.2.isNone = true then (if (t616.length : Int) > 1 then (if 1 < (t616.length : Int) then ((strconv_Atoi.f (rdOf ByteArray.empty t616 1)).bind fun bt624 => (if bt624.2.isNone = true then (gronx_inStep.j0 k a0 l2 a3 bt608.1 t616 bt624.1 bt620.1) else (some (false, some (bt624.2.getD 0))))) else (none)) else (gronx_inStep.j0 k a0 l2 a3 bt608.1 t616 a0 bt620.1)) else (some (false, some (bt620.2.getD 0))))) else (none))) else (none))))))) else (some (false, some (bt608.2.getD 0))))) else (none))) = some (r1, r2) := h
 clear h
 replace H := Option.bind_eq_some_iff.mp H
 obtain ⟨t604, A50, H⟩ := H
 try dsimp only at H
 have A5 := Aside0.mk A50
 clear A50
 refine (Classical.em (1 < (t604.length : Int))).elim (fun c6 => ?a1_) (fun c6 => ?b1_)
 case' a1_ =>
  rw [if_pos c6] at H
  have c6b0 : decide (1 < (t604.length : Int)) = true := decide_eq_true c6
  have c6b1 : decide (1 < t604.length) = true := decide_eq_true (by omega)
  clear c6
  replace H := Option.bind_eq_some_iff.mp H
  obtain ⟨⟨t608, t609⟩, A70, H⟩ := H
  try dsimp only at H
  have A7 := Aside0.mk A70
  clear A70
  refine (show t609 = none ∨ ∃ q, t609 = some q by cases t609 <;> simp).elim (fun h_ => ?a2_) (fun h_ => ?b2_)
 case' a2_ =>
  subst h_
  rw [if_pos (show (none : Option Int).isNone = true by rfl)] at H
  try simp only [errW_none, errW_some]
  refine (Classical.em (t608 ≤ 0)).elim (fun c8 => ?a3_) (fun c8 => ?b3_)
 case' a3_ =>
  rw [if_pos c8] at H
  have c8b0 : decide (t608 ≤ 0) = true := decide_eq_true c8
  clear c8
  replace H := Option.bind_eq_some_iff.mp H
  obtain ⟨t611, A90, H⟩ := H
  try dsimp only at H
  have A9 := Aside0.mk A90
  clear A90
  simp only [Option.some.injEq, Prod.mk.injEq] at H
  obtain ⟨rfl, rfl⟩ := H
 case' b3_ =>
  rw [if_neg c8] at H
  have c8b0 : decide (t608 ≤ 0) = false := decide_eq_false c8
  clear c8
  replace H := Option.bind_eq_some_iff.mp H
  obtain ⟨t612, A140, H⟩ := H
  try dsimp only at H
  have A14 := Aside0.mk A140
  clear A140
  refine (Classical.em (t612 = 0)).elim (fun c15 => ?a4_) (fun c15 => ?b4_)
 case' a4_ =>
  rw [if_pos c15] at H
  have c15b0 : (t612 == 0) = true := beq_iff_eq.mpr c15
  have c15b1 : (t612 != 0) = false := bne_eq_false_iff_eq.mpr c15
  clear c15
  refine (Classical.em (0 < (l2.length : Int))).elim (fun c16 => ?a5_) (fun c16 => ?b5_)
 case' a5_ =>
  rw [if_pos c16] at H
  have c16b0 : decide (0 < (l2.length : Int)) = true := decide_eq_true c16
  have c16b1 : decide (0 < l2.length) = true := decide_eq_true (by omega)
  clear c16
  refine (Classical.em (t608 = 0)).elim (fun c17 => ?a6_) (fun c17 => ?b6_)
 case a6_ =>
  rw [if_pos c17] at H
  exact absurd H (by simp)
 case' b6_ =>
  rw [if_neg c17] at H
  have c17b0 : (t608 == 0) = false := beq_eq_false_iff_ne.mpr c17
  have c17b1 : (t608 != 0) = true := bne_iff_ne.mpr c17
  simp only [Option.some.injEq, Prod.mk.injEq] at H
  obtain ⟨rfl, rfl⟩ := H
 case b5_ =>
  rw [if_neg c16] at H
  exact absurd H (by simp)
 case' b4_ =>
  rw [if_neg c15] at H
  have c15b0 : (t612 == 0) = false := beq_eq_false_iff_ne.mpr c15
  have c15b1 : (t612 != 0) = true := bne_iff_ne.mpr c15
  replace H := Option.bind_eq_some_iff.mp H
  obtain ⟨t614, A210, H⟩ := H
  try dsimp only at H
  have A21 := Aside0.mk A210
  clear A210
  refine (Classical.em (t614 = 0)).elim (fun c22 => ?a7_) (fun c22 => ?b7_)
 case' a7_ =>
  rw [if_pos c22] at H
  have c22b0 : (t614 == 0) = true := beq_iff_eq.mpr c22
  have c22b1 : (t614 != 0) = false := bne_eq_false_iff_eq.mpr c22
  clear c22
  refine (Classical.em (t608 = 0)).elim (fun c23 => ?a8_) (fun c23 => ?b8_)
 case a8_ =>
  rw [if_pos c23] at H
  exact absurd H (by simp)
 case' b8_ =>
  rw [if_neg c23] at H
  have c23b0 : (t608 == 0) = false := beq_eq_false_iff_ne.mpr c23
  have c23b1 : (t608 != 0) = true := bne_iff_ne.mpr c23
  simp only [Option.some.injEq, Prod.mk.injEq] at H
  obtain ⟨rfl, rfl⟩ := H
 case' b7_ =>
  rw [if_neg c22] at H
  have c22b0 : (t614 == 0) = false := beq_eq_false_iff_ne.mpr c22
  have c22b1 : (t614 != 0) = true := bne_iff_ne.mpr c22
  refine (Classical.em (0 < (t604.length : Int))).elim (fun c27 => ?a9_) (fun c27 => ?b9_)
 case' a9_ =>
  rw [if_pos c27] at H
  have c27b0 : decide (0 < (t604.length : Int)) = true := decide_eq_true c27
  have c27b1 : decide (0 < t604.length) = true := decide_eq_true (by omega)
  clear c27
  replace H := Option.bind_eq_some_iff.mp H
  obtain ⟨t616, A280, H⟩ := H
  try dsimp only at H
  have A28 := Aside0.mk A280
  clear A280
  refine (Classical.em (0 < (t616.length : Int))).elim (fun c29 => ?a10_) (fun c29 => ?b10_)
 case' a10_ =>
  rw [if_pos c29] at H
  have c29b0 : decide (0 < (t616.length : Int)) = true := decide_eq_true c29
  have c29b1 : decide (0 < t616.length) = true := decide_eq_true (by omega)
  clear c29
  replace H := Option.bind_eq_some_iff.mp H
  obtain ⟨⟨t620, t621⟩, A300, H⟩ := H
  try dsimp only at H
  have A30 := Aside0.mk A300
  clear A300
  refine (show t621 = none ∨ ∃ q, t621 = some q by cases t621 <;> simp).elim (fun h_ => ?a11_) (fun h_ => ?b11_)
 case a11_ =>
  subst h_
  rw [if_pos (show (none : Option Int).isNone = true by rfl)] at H
  try simp only [errW_none, errW_some]
  have HC31 := Aside0.mk H
  clear H
  go_enter Tryz.func214, Tryz.ntmps214
  go_upto_if 66 with (first | ((with_reducible refine gate_callee (f := 64) rfl ?_); refine goesL_ (some 17) rfl rfl Tryz.func64 (by kernel_rfl) rfl #[.string a1, .string (⟨#[47]⟩ : ByteArray)] rfl (by (try simp only [List.map_toArray, List.map_cons, List.map_nil]); first | done | rfl | (simp only [List.length_drop, List.length_take]; rfl)) ?_; (with_reducible refine (gronx_zzSplit.calls k a1 (⟨#[47]⟩ : ByteArray) t604 _ A5.out).mono ?_); rintro e w32 ⟨v605, rfl, ho0, hb⟩; refine ⟨_, rfl, ?_⟩; have n0_ := Aside0.mk (Kd.R_lower ho0 (below_size (by repeat (with_reducible first | exact HB.out | apply below_alloc | apply pw_below_drewN | apply below_drew1)))); have n1_ := Aside0.mk (below_step (by repeat (with_reducible first | exact HB.out | apply below_alloc | apply pw_below_drewN | apply below_drew1)) hb); clear HB; have HO606 := n0_; have HB := n1_; clear n0_ n1_; (try clear hb); (try clear hb2); (try clear hk); (try clear hi); (try clear ho0); obtain ⟨Ao33, co33, eo33⟩ := Kd.R_slice HO606.out; subst eo33; have p607 : 0 ≤ (1 : Int) := (by omega); have q607 : 1 < (t604.length : Int) := of_decide_eq_true (by first | (with_reducible assumption) | assumption); obtain ⟨ad607, e607, hx607_0⟩ := Kd.at_string (Kd.R_reads' HO606.out).2.2 1 p607 q607; cases e607; (try simp only [show (1 : Int).toNat = 1 from rfl, Nat.reduceMul, Nat.reduceEqDiff, Go.Addr.add, ↓reduceIte] at hx607_0); have qi607 : (1 < t604.length) = True := eq_true (by omega); (try rw [show ((1 : Int)).toNat = 1 from rfl] at hx607_0); replace p607 := eq_true p607; replace q607 := eq_true q607) | ((with_reducible refine gate_callee (f := 67) rfl ?_); refine goesL_ (some 22) rfl rfl Tryz.func67 (by kernel_rfl) rfl #[.string (rdOf ByteArray.empty t604 1)] rfl (by (try simp only [List.map_toArray, List.map_cons, List.map_nil]); first | done | rfl | (simp only [List.length_drop, List.length_take]; rfl)) ?_; (with_reducible refine (strconv_Atoi.calls (rdOf ByteArray.empty t604 1) t608 none _ A7.out).mono ?_); rintro e w34 ⟨rfl, hb⟩; refine ⟨_, rfl, ?_⟩; have n0_ := Aside0.mk (Kd.R_below (by (with_reducible repeat (first | apply Kd.R_alloc | apply Kd.R_drewN | apply Kd.R_drew)); exact HO606.out) hb); have n1_ := Aside0.mk (below_step (by repeat (with_reducible first | exact HB.out | apply below_alloc | apply pw_below_drewN | apply below_drew1)) hb); clear HO606; clear HB; have HO606 := n0_; have HB := n1_; clear n0_ n1_; (try clear hb); (try clear hb2); (try clear hk); (try clear hi); (try simp only [errW_none, errW_some])) | ((with_reducible refine gate_callee (f := 65) rfl ?_); refine goesL_ (some 32) rfl rfl Tryz.func65 (by kernel_rfl) rfl #[.string a1, .string (⟨#[42, 47]⟩ : ByteArray)] rfl (by (try simp only [List.map_toArray, List.map_cons, List.map_nil]); first | done | rfl | (simp only [List.length_drop, List.length_take]; rfl)) ?_; (with_reducible refine (gronx_zzIndex.calls k a1 (⟨#[42, 47]⟩ : ByteArray) t612 _ A14.out).mono ?_); rintro e w' ⟨rfl, ⟨nd, rfl⟩⟩; refine ⟨_, rfl, ?_⟩) | ((with_reducible refine gate_callee (f := 65) rfl ?_); refine goesL_ (some 43) rfl rfl Tryz.func65 (by kernel_rfl) rfl #[.string a1, .string (⟨#[48, 47]⟩ : ByteArray)] rfl (by (try simp only [List.map_toArray, List.map_cons, List.map_nil]); first | done | rfl | (simp only [List.length_drop, List.length_take]; rfl)) ?_; (with_reducible refine (gronx_zzIndex.calls k a1 (⟨#[48, 47]⟩ : ByteArray) t614 _ A21.out).mono ?_); rintro e w' ⟨rfl, ⟨nd, rfl⟩⟩; refine ⟨_, rfl, ?_⟩; have p615 : 0 ≤ (0 : Int) := (by omega); have q615 : 0 < (t604.length : Int) := of_decide_eq_true (by first | (with_reducible assumption) | assumption); obtain ⟨ad615, e615, hx615_0⟩ := Kd.at_string (Kd.R_reads' HO606.out).2.2 0 p615 q615; obtain rfl : ad607 = ad615 := (by injection e615); have qi615 : (0 < t604.length) = True := eq_true (by omega); (try rw [show ((0 : Int)).toNat = 0 from rfl] at hx615_0); (try rw [Addr.add_zero'] at hx615_0); replace p615 := eq_true p615; replace q615 := eq_true q615) | ((with_reducible refine gate_callee (f := 64) rfl ?_); refine goesL_ (some 52) rfl rfl Tryz.func64 (by kernel_rfl) rfl #[.string (rdOf ByteArray.empty t604 0), .string (⟨#[45]⟩ : ByteArray)] rfl (by (try simp only [List.map_toArray, List.map_cons, List.map_nil]); first | done | rfl | (simp only [List.length_drop, List.length_take]; rfl)) ?_; (with_reducible refine (gronx_zzSplit.calls k (rdOf ByteArray.empty t604 0) (⟨#[45]⟩ : ByteArray) t616 _ A28.out).mono ?_); rintro e w35 ⟨v617, rfl, ho0, hb⟩; refine ⟨_, rfl, ?_⟩; have n0_ := Aside0.mk (Kd.R_elder' (by (with_reducible repeat (first | apply Kd.R_alloc | apply Kd.R_drewN | apply Kd.R_drew)); exact HO606.out) (Kd.R_base ho0) hb); have n1_ := Aside0.mk (Kd.R_lower (Kd.R_new' ho0 (Kd.R_lt (by (with_reducible repeat (first | apply Kd.R_alloc | apply Kd.R_drewN | apply Kd.R_drew)); exact HO606.out))) (below_size (by repeat (with_reducible first | exact HB.out | apply below_alloc | apply pw_below_drewN | apply below_drew1)))); have n2_ := Aside0.mk (below_step (by repeat (with_reducible first | exact HB.out | apply below_alloc | apply pw_below_drewN | apply below_drew1)) hb); clear HO606; clear HB; have HO606 := n0_; have HO618 := n1_; have HB := n2_; clear n0_ n1_ n2_; (try clear hb); (try clear hb2); (try clear hk); (try clear hi); (try clear ho0); obtain ⟨Ao36, co36, eo36⟩ := Kd.R_slice HO618.out; subst eo36; have p619 : 0 ≤ (0 : Int) := (by omega); have q619 : 0 < (t616.length : Int) := of_decide_eq_true (by first | (with_reducible assumption) | assumption); obtain ⟨ad619, e619, hx619_0⟩ := Kd.at_string (Kd.R_reads' HO618.out).2.2 0 p619 q619; cases e619; have qi619 : (0 < t616.length) = True := eq_true (by omega); (try rw [show ((0 : Int)).toNat = 0 from rfl] at hx619_0); (try rw [Addr.add_zero'] at hx619_0); replace p619 := eq_true p619; replace q619 := eq_true q619) | ((with_reducible refine gate_callee (f := 67) rfl ?_); refine goesL_ (some 58) rfl rfl Tryz.func67 (by kernel_rfl) rfl #[.string (rdOf ByteArray.empty t616 0)] rfl (by (try simp only [List.map_toArray, List.map_cons, List.map_nil]); first | done | rfl | (simp only [List.length_drop, List.length_take]; rfl)) ?_; (with_reducible refine (strconv_Atoi.calls (rdOf ByteArray.empty t616 0) t620 none _ A30.out).mono ?_); rintro e w37 ⟨rfl, hb⟩; refine ⟨_, rfl, ?_⟩; have n0_ := Aside0.mk (Kd.R_below (by (with_reducible repeat (first | apply Kd.R_alloc | apply Kd.R_drewN | apply Kd.R_drew)); exact HO606.out) hb); have n1_ := Aside0.mk (Kd.R_below (by (with_reducible repeat (first | apply Kd.R_alloc | apply Kd.R_drewN | apply Kd.R_drew)); exact HO618.out) hb); have n2_ := Aside0.mk (below_step (by repeat (with_reducible first | exact HB.out | apply below_alloc | apply pw_below_drewN | apply below_drew1)) hb); clear HO606; clear HO618; clear HB; have HO606 := n0_; have HO618 := n1_; have HB := n2_; clear n0_ n1_ n2_; (try clear hb); (try clear hb2); (try clear hk); (try clear hi); (try simp only [errW_none, errW_some])))
  (try simp only [Act.put, List.setIfInBounds_toArray, List.set_cons_zero, List.set_cons_succ])
  go_cut [14] (fun v14 wc => ∃ (kq : Nat) (x14_30 : Int), v14 = .int .i64 x14_30 ∧ Aside0 (gronx_inStep.j0 kq a0 l2 a3 t608 t616 x14_30 t620 = some (r1, r2)) ∧ Aside0 (kq ≤ k) ∧ Aside0 (Kd.R Kd.string 9 wc w.heap.size (fun _ => True) (.slice (some ad619) t616.length co36) t616) ∧ Aside0 (Below w.heap.size w wc))
  case first =>
   have H := HC31.out
   clear HC31
   refine (Classical.em ((t616.length : Int) > 1)).elim (fun c38 => ?a12_) (fun c38 => ?b12_)
   case' a12_ =>
    rw [if_pos c38] at H
    have c38b0 : decide (1 < (t616.length : Int)) = true := decide_eq_true c38
    have c38b1 : decide (1 < t616.length) = true := decide_eq_true (by omega)
    clear c38
    (first | rw [c38b0] | (simp only [i64_w, i32_w]; rw [c38b0]) | skip)
    refine (Classical.em (1 < (t616.length : Int))).elim (fun c39 => ?a13_) (fun c39 => ?b13_)
   case' a13_ =>
    rw [if_pos c39] at H
    have c39b0 : decide (1 < (t616.length : Int)) = true := decide_eq_true c39
    have c39b1 : decide (1 < t616.length) = true := decide_eq_true (by omega)
    clear c39
    replace H := Option.bind_eq_some_iff.mp H
    obtain ⟨⟨t624, t625⟩, A400, H⟩ := H
    try dsimp only at H
    have A40 := Aside0.mk A400
    clear A400
    refine (show t625 = none ∨ ∃ q, t625 = some q by cases t625 <;> simp).elim (fun h_ => ?a14_) (fun h_ => ?b14_)
   case a14_ =>
    subst h_
    rw [if_pos (show (none : Option Int).isNone = true by rfl)] at H
    try simp only [errW_none, errW_some]
    have H' := Aside0.mk H
    clear H
    have p623 : 0 ≤ (1 : Int) := (by omega)
    have q623 : 1 < (t616.length : Int) := of_decide_eq_true (by first | (with_reducible assumption) | assumption)
    obtain ⟨ad623, e623, hx623_0⟩ := Kd.at_string (Kd.R_reads' HO618.out).2.2 1 p623 q623
    obtain rfl : ad619 = ad623 := (by injection e623)
    (try simp only [show (1 : Int).toNat = 1 from rfl, Nat.reduceMul, Nat.reduceEqDiff, Go.Addr.add, ↓reduceIte] at hx623_0)
    have qi623 : (1 < t616.length) = True := eq_true (by omega)
    (try rw [show ((1 : Int)).toNat = 1 from rfl] at hx623_0)
    replace p623 := eq_true p623
    replace q623 := eq_true q623
    go_wp2_with (first | ((with_reducible refine gate_callee (f := 67) rfl ?_); refine goesL_ (some 71) rfl rfl Tryz.func67 (by kernel_rfl) rfl #[.string (rdOf ByteArray.empty t616 1)] rfl (by (try simp only [List.map_toArray, List.map_cons, List.map_nil]); first | done | rfl | (simp only [List.length_drop, List.length_take]; rfl)) ?_; (with_reducible refine (strconv_Atoi.calls (rdOf ByteArray.empty t616 1) t624 none _ A40.out).mono ?_); rintro e w41 ⟨rfl, hb⟩; refine ⟨_, rfl, ?_⟩; have n0_ := Aside0.mk (Kd.R_below (by (with_reducible repeat (first | apply Kd.R_alloc | apply Kd.R_drewN | apply Kd.R_drew)); exact HO606.out) hb); have n1_ := Aside0.mk (Kd.R_below (by (with_reducible repeat (first | apply Kd.R_alloc | apply Kd.R_drewN | apply Kd.R_drew)); exact HO618.out) hb); have n2_ := Aside0.mk (below_step (by repeat (with_reducible first | exact HB.out | apply below_alloc | apply pw_below_drewN | apply below_drew1)) hb); clear HO606; clear HO618; clear HB; have HO606 := n0_; have HO618 := n1_; have HB := n2_; clear n0_ n1_ n2_; (try clear hb); (try clear hb2); (try clear hk); (try clear hi); (try simp only [errW_none, errW_some])))
    go_meet
    case rel => exact ⟨_, (t624), (by first | rfl | (simp; done) | (simp [*]; done)), H', ⟨by first | omega | exact Nat.le_refl _⟩, ⟨by (with_reducible repeat (first | apply Kd.R_alloc | apply Kd.R_drewN | apply Kd.R_drew)); exact Kd.R_mono HO618.out (fun _ hk => trivial)⟩, ⟨by repeat (with_reducible first | exact HB.out | apply below_alloc | apply pw_below_drewN | apply below_drew1)⟩⟩
   case b14_ =>
    obtain ⟨q626, rfl⟩ := h_
    rw [if_neg (show ¬ (some q626).isNone = true by simp)] at H
    try simp only [errW_none, errW_some]
    simp only [Option.some.injEq, Prod.mk.injEq] at H
    obtain ⟨rfl, rfl⟩ := H
    have p623 : 0 ≤ (1 : Int) := (by omega)
    have q623 : 1 < (t616.length : Int) := of_decide_eq_true (by first | (with_reducible assumption) | assumption)
    obtain ⟨ad623, e623, hx623_0⟩ := Kd.at_string (Kd.R_reads' HO618.out).2.2 1 p623 q623
    obtain rfl : ad619 = ad623 := (by injection e623)
    (try simp only [show (1 : Int).toNat = 1 from rfl, Nat.reduceMul, Nat.reduceEqDiff, Go.Addr.add, ↓reduceIte] at hx623_0)
    have qi623 : (1 < t616.length) = True := eq_true (by omega)
    (try rw [show ((1 : Int)).toNat = 1 from rfl] at hx623_0)
    replace p623 := eq_true p623
    replace q623 := eq_true q623
    go_wp2_with (first | ((with_reducible refine gate_callee (f := 67) rfl ?_); refine goesL_ (some 71) rfl rfl Tryz.func67 (by kernel_rfl) rfl #[.string (rdOf ByteArray.empty t616 1)] rfl (by (try simp only [List.map_toArray, List.map_cons, List.map_nil]); first | done | rfl | (simp only [List.length_drop, List.length_take]; rfl)) ?_; (with_reducible refine (strconv_Atoi.calls (rdOf ByteArray.empty t616 1) t624 (some q626) _ A40.out).mono ?_); rintro e w42 ⟨rfl, hb⟩; refine ⟨_, rfl, ?_⟩; have n0_ := Aside0.mk (Kd.R_below (by (with_reducible repeat (first | apply Kd.R_alloc | apply Kd.R_drewN | apply Kd.R_drew)); exact HO606.out) hb); have n1_ := Aside0.mk (Kd.R_below (by (with_reducible repeat (first | apply Kd.R_alloc | apply Kd.R_drewN | apply Kd.R_drew)); exact HO618.out) hb); have n2_ := Aside0.mk (below_step (by repeat (with_reducible first | exact HB.out | apply below_alloc | apply pw_below_drewN | apply below_drew1)) hb); clear HO606; clear HO618; clear HB; have HO606 := n0_; have HO618 := n1_; have HB := n2_; clear n0_ n1_ n2_; (try clear hb); (try clear hb2); (try clear hk); (try clear hi); (try simp only [errW_none, errW_some])))
    go_ret2
    exact ⟨by first | rfl | (simp [errW_none, errW_some] <;> rfl) | (simp [*, errW_none, errW_some] <;> rfl), by repeat (with_reducible first | exact HB.out | apply below_alloc | apply pw_below_drewN | apply below_drew1)⟩
   case b13_ =>
    rw [if_neg c39] at H
    exact absurd H (by simp)
   case b12_ =>
    rw [if_neg c38] at H
    have c38b0 : decide (1 < (t616.length : Int)) = false := decide_eq_false c38
    have c38b1 : decide (1 < t616.length) = false := decide_eq_false (by omega)
    clear c38
    (first | rw [c38b0] | (simp only [i64_w, i32_w]; rw [c38b0]) | skip)
    have H' := Aside0.mk H
    clear H
    go_wp2
    go_meet
    case rel => exact ⟨_, (a0), (by first | rfl | (simp; done) | (simp [*]; done)), H', ⟨by first | omega | exact Nat.le_refl _⟩, ⟨by (with_reducible repeat (first | apply Kd.R_alloc | apply Kd.R_drewN | apply Kd.R_drew)); exact Kd.R_mono HO618.out (fun _ hk => trivial)⟩, ⟨by repeat (with_reducible first | exact HB.out | apply below_alloc | apply pw_below_drewN | apply below_drew1)⟩⟩
  case rest =>
   clear HC31
   try clear c2
   try clear c6
   try clear c6b0
   try clear c6b1
   try clear c8
   try clear c8b0
   try clear c15
   try clear c15b0
   try clear c15b1
   try clear c16
   try clear c16b0
   try clear c16b1
   try clear c17
   try clear c17b0
   try clear c17b1
   try clear c22
   try clear c22b0
   try clear c22b1
   try clear c23
   try clear c23b0
   try clear c23b1
   try clear c27
   try clear c27b0
   try clear c27b1
   try clear c29
   try clear c29b0
   try clear c29b1
   try clear c38
   try clear c38b0
   try clear c38b1
   try clear c39
   try clear c39b0
   try clear c39b1
   try clear hx607_0
   try clear hx613_0
   try clear hx615_0
   try clear hx619_0
   try clear hx623_0
   try clear p607
   try clear p613
   try clear p615
   try clear p619
   try clear p623
   try clear q607
   try clear q610
   try clear q613
   try clear q615
   try clear q619
   try clear q622
   try clear q623
   try clear q626
   obtain ⟨kq, x14_30, rfl, HA, HJ30, HO_13, HB⟩ := hcut
   cases kq with
   | zero => exact absurd HA.out (by simp [gronx_inStep.j0])
   | succ kj30 =>
    have H := HA.out
    clear HA
    simp only [gronx_inStep.j0] at H
    have HC43 := Aside0.mk H
    clear H
    go_upto_region 19 with (fail)
    go_cut [98] (fun v98 wc => ∃ (kq : Nat) (x98_42 : Bool), v98 = .bool x98_42 ∧ Aside0 (gronx_inStep.j1 kq a0 a3 t608 x14_30 t620 x98_42 = some (r1, r2)) ∧ Aside0 (kq ≤ kj30) ∧ Aside0 (Below w.heap.size w wc))
    case first =>
     have H := HC43.out
     clear HC43
     refine (Classical.em ((t616.length : Int) > 1)).elim (fun c44 => ?a15_) (fun c44 => ?b15_)
     case' a15_ =>
      rw [if_pos c44] at H
      have c44b0 : decide (1 < (t616.length : Int)) = true := decide_eq_true c44
      have c44b1 : decide (1 < t616.length) = true := decide_eq_true (by omega)
      clear c44
      (first | rw [c44b0] | (simp only [i64_w, i32_w]; rw [c44b0]) | skip)
      refine (Classical.em (x14_30 < t620)).elim (fun c45 => ?a16_) (fun c45 => ?b16_)
     case a16_ =>
      rw [if_pos c45] at H
      have c45b0 : decide (x14_30 < t620) = true := decide_eq_true c45
      clear c45
      have H' := Aside0.mk H
      clear H
      go_wp2
      go_meet
      case rel => exact ⟨_, (true), (by first | rfl | (simp; done) | (simp [*]; done)), H', ⟨by have := HJ30.out; first | omega | exact Nat.le_refl _⟩, ⟨by repeat (with_reducible first | exact HB.out | apply below_alloc | apply pw_below_drewN | apply below_drew1)⟩⟩
     case' b16_ =>
      rw [if_neg c45] at H
      have c45b0 : decide (x14_30 < t620) = false := decide_eq_false c45
      clear c45
      refine (Classical.em (0 < (l2.length : Int))).elim (fun c46 => ?a17_) (fun c46 => ?b17_)
     case' a17_ =>
      rw [if_pos c46] at H
      have c46b0 : decide (0 < (l2.length : Int)) = true := decide_eq_true c46
      have c46b1 : decide (0 < l2.length) = true := decide_eq_true (by omega)
      clear c46
      refine (Classical.em (t620 < (rd l2 0))).elim (fun c47 => ?a18_) (fun c47 => ?b18_)
     case' a18_ =>
      rw [if_pos c47] at H
      have c47b0 : decide (t620 < (rd l2 0)) = true := decide_eq_true c47
      clear c47
      have H' := Aside0.mk H
      clear H
     case' b18_ =>
      rw [if_neg c47] at H
      have c47b0 : decide (t620 < (rd l2 0)) = false := decide_eq_false c47
      clear c47
      refine (Classical.em (1 < (l2.length : Int))).elim (fun c48 => ?a19_) (fun c48 => ?b19_)
     case' a19_ =>
      rw [if_pos c48] at H
      have c48b0 : decide (1 < (l2.length : Int)) = true := decide_eq_true c48
      have c48b1 : decide (1 < l2.length) = true := decide_eq_true (by omega)
      clear c48
      have H' := Aside0.mk H
      clear H
     case b19_ =>
      rw [if_neg c48] at H
      exact absurd H (by simp)
     case b17_ =>
      rw [if_neg c46] at H
      exact absurd H (by simp)
     case' b15_ =>
      rw [if_neg c44] at H
      have c44b0 : decide (1 < (t616.length : Int)) = false := decide_eq_false c44
      have c44b1 : decide (1 < t616.length) = false := decide_eq_false (by omega)
      clear c44
      (first | rw [c44b0] | (simp only [i64_w, i32_w]; rw [c44b0]) | skip)
      refine (Classical.em (0 < (l2.length : Int))).elim (fun c49 => ?a20_) (fun c49 => ?b20_)
     case' a20_ =>
      rw [if_pos c49] at H
      have c49b0 : decide (0 < (l2.length : Int)) = true := decide_eq_true c49
      have c49b1 : decide (0 < l2.length) = true := decide_eq_true (by omega)
      clear c49
      refine (Classical.em (t620 < (rd l2 0))).elim (fun c50 => ?a21_) (fun c50 => ?b21_)
     case' a21_ =>
      rw [if_pos c50] at H
      have c50b0 : decide (t620 < (rd l2 0)) = true := decide_eq_true c50
      clear c50
      have H' := Aside0.mk H
      clear H
     case' b21_ =>
      rw [if_neg c50] at H
      have c50b0 : decide (t620 < (rd l2 0)) = false := decide_eq_false c50
      clear c50
      refine (Classical.em (1 < (l2.length : Int))).elim (fun c51 => ?a22_) (fun c51 => ?b22_)
     case' a22_ =>
      rw [if_pos c51] at H
      have c51b0 : decide (1 < (l2.length : Int)) = true := decide_eq_true c51
      have c51b1 : decide (1 < l2.length) = true := decide_eq_true (by omega)
      clear c51
      have H' := Aside0.mk H
      clear H
     case b22_ =>
      rw [if_neg c51] at H
      exact absurd H (by simp)
     case b20_ =>
      rw [if_neg c49] at H
      exact absurd H (by simp)
     case a18_ | a21_ =>
      have p627 : 0 ≤ (0 : Int) := (by omega)
      have q627 : 0 < (l2.length : Int) := of_decide_eq_true (by first | (with_reducible assumption) | assumption)
      obtain ⟨ad627, e627, hx627_0⟩ := Kd.at_int HR2.out 0 p627 q627
      cases e627
      have qi627 : (0 < l2.length) = True := eq_true (by omega)
      (try rw [show ((0 : Int)).toNat = 0 from rfl] at hx627_0)
      (try rw [Addr.add_zero'] at hx627_0)
      replace hx627_0 := (HB.out.cell (World.block_lt_of_cell? w _ hx627_0)).trans hx627_0
      replace p627 := eq_true p627
      replace q627 := eq_true q627
      go_wp2
      go_meet
      case rel => exact ⟨_, (true), (by first | rfl | (simp; done) | (simp [*]; done)), H', ⟨by have := HJ30.out; first | omega | exact Nat.le_refl _⟩, ⟨by repeat (with_reducible first | exact HB.out | apply below_alloc | apply pw_below_drewN | apply below_drew1)⟩⟩
     case a19_ | a22_ =>
      have p627 : 0 ≤ (0 : Int) := (by omega)
      have q627 : 0 < (l2.length : Int) := of_decide_eq_true (by first | (with_reducible assumption) | assumption)
      obtain ⟨ad627, e627, hx627_0⟩ := Kd.at_int HR2.out 0 p627 q627
      cases e627
      have qi627 : (0 < l2.length) = True := eq_true (by omega)
      (try rw [show ((0 : Int)).toNat = 0 from rfl] at hx627_0)
      (try rw [Addr.add_zero'] at hx627_0)
      replace hx627_0 := (HB.out.cell (World.block_lt_of_cell? w _ hx627_0)).trans hx627_0
      replace p627 := eq_true p627
      replace q627 := eq_true q627
      have p628 : 0 ≤ (1 : Int) := (by omega)
      have q628 : 1 < (l2.length : Int) := of_decide_eq_true (by first | (with_reducible assumption) | assumption)
      obtain ⟨ad628, e628, hx628_0⟩ := Kd.at_int HR2.out 1 p628 q628
      obtain rfl : ad627 = ad628 := (by injection e628)
      (try simp only [show (1 : Int).toNat = 1 from rfl, Nat.reduceMul, Nat.reduceEqDiff, Go.Addr.add, ↓reduceIte] at hx628_0)
      have qi628 : (1 < l2.length) = True := eq_true (by omega)
      (try rw [show ((1 : Int)).toNat = 1 from rfl] at hx628_0)
      replace hx628_0 := (HB.out.cell (World.block_lt_of_cell? w _ hx628_0)).trans hx628_0
      replace p628 := eq_true p628
      replace q628 := eq_true q628
      go_wp2
      go_meet
      case rel => exact ⟨_, (decide (x14_30 > (rd l2 1))), (by first | rfl | (simp; done) | (simp [*]; done)), H', ⟨by have := HJ30.out; first | omega | exact Nat.le_refl _⟩, ⟨by repeat (with_reducible first | exact HB.out | apply below_alloc | apply pw_below_drewN | apply below_drew1)⟩⟩
    case rest =>
     clear HC43
     try clear c2
     try clear c6
     try clear c6b0
     try clear c6b1
     try clear c8
     try clear c8b0
     try clear c15
     try clear c15b0
     try clear c15b1
     try clear c16
     try clear c16b0
     try clear c16b1
     try clear c17
     try clear c17b0
     try clear c17b1
     try clear c22
     try clear c22b0
     try clear c22b1
     try clear c23
     try clear c23b0
     try clear c23b1
     try clear c27
     try clear c27b0
     try clear c27b1
     try clear c29
     try clear c29b0
     try clear c29b1
     try clear c38
     try clear c38b0
     try clear c38b1
     try clear c39
     try clear c39b0
     try clear c39b1
     try clear c44
     try clear c44b0
     try clear c44b1
     try clear c45
     try clear c45b0
     try clear c46
     try clear c46b0
     try clear c46b1
     try clear c47
     try clear c47b0
     try clear c48
     try clear c48b0
     try clear c48b1
     try clear c49
     try clear c49b0
     try clear c49b1
     try clear c50
     try clear c50b0
     try clear c51
     try clear c51b0
     try clear c51b1
     try clear hx607_0
     try clear hx613_0
     try clear hx615_0
     try clear hx619_0
     try clear hx623_0
     try clear hx627_0
     try clear hx628_0
     try clear p607
     try clear p613
     try clear p615
     try clear p619
     try clear p623
     try clear p627
     try clear p628
     try clear q607
     try clear q610
     try clear q613
     try clear q615
     try clear q619
     try clear q622
     try clear q623
     try clear q626
     try clear q627
     try clear q628
     obtain ⟨kq, x98_42, rfl, HA, HJ42, HB⟩ := hcut
     cases kq with
     | zero => exact absurd HA.out (by simp [gronx_inStep.j1])
     | succ kj42 =>
      have H := HA.out
      clear HA
      simp only [gronx_inStep.j1] at H
      refine (Classical.em (x98_42 = true)).elim (fun c52 => ?a23_) (fun c52 => ?b23_)
      case' a23_ =>
       subst c52
       rw [if_pos rfl] at H
       replace H := Option.bind_eq_some_iff.mp H
       obtain ⟨t631, A530, H⟩ := H
       try dsimp only at H
       have A53 := Aside0.mk A530
       clear A530
       simp only [Option.some.injEq, Prod.mk.injEq] at H
       obtain ⟨rfl, rfl⟩ := H
      case' b23_ =>
       replace c52 := Bool.eq_false_iff.mpr c52
       subst c52
       rw [if_neg (show ¬ (false = true) by decide)] at H
       refine (Classical.em (a3 = true)).elim (fun c55 => ?a24_) (fun c55 => ?b24_)
      case a24_ =>
       subst c55
       rw [if_pos rfl] at H
       have HC56 := Aside0.mk H
       clear H
       go_upto_region 22 with (fail)
       go_cut [106] (fun v106 wc => ∃ (kq : Nat) (x106_55 : Bool), v106 = .bool x106_55 ∧ Aside0 (gronx_inStep.j2 kq a0 t608 x14_30 t620 x106_55 = some (r1, r2)) ∧ Aside0 (kq ≤ kj42) ∧ Aside0 (Below w.heap.size w wc))
       case first =>
        have H := HC56.out
        clear HC56
        refine (Classical.em (t620 = 7)).elim (fun c57 => ?a25_) (fun c57 => ?b25_)
        case a25_ =>
         rw [if_pos c57] at H
         have c57b0 : (t620 == 7) = true := beq_iff_eq.mpr c57
         have c57b1 : (t620 != 7) = false := bne_eq_false_iff_eq.mpr c57
         clear c57
         (first | rw [c57b0] | (simp only [i64_w, i32_w]; rw [c57b0]) | skip)
         have H' := Aside0.mk H
         clear H
         go_wp2
         go_meet
         case rel => exact ⟨_, ((x14_30 != 7)), (by first | rfl | (simp; done) | (simp [*]; done)), H', ⟨by have := HJ30.out; have := HJ42.out; first | omega | exact Nat.le_refl _⟩, ⟨by repeat (with_reducible first | exact HB.out | apply below_alloc | apply pw_below_drewN | apply below_drew1)⟩⟩
        case b25_ =>
         rw [if_neg c57] at H
         have c57b0 : (t620 == 7) = false := beq_eq_false_iff_ne.mpr c57
         have c57b1 : (t620 != 7) = true := bne_iff_ne.mpr c57
         (first | rw [c57b0] | (simp only [i64_w, i32_w]; rw [c57b0]) | skip)
         have H' := Aside0.mk H
         clear H
         go_wp2
         go_meet
         case rel => exact ⟨_, (false), (by first | rfl | (simp; done) | (simp [*]; done)), H', ⟨by have := HJ30.out; have := HJ42.out; first | omega | exact Nat.le_refl _⟩, ⟨by repeat (with_reducible first | exact HB.out | apply below_alloc | apply pw_below_drewN | apply below_drew1)⟩⟩
       case rest =>
        clear HC56
        try clear c2
        try clear c6
        try clear c6b0
        try clear c6b1
        try clear c8
        try clear c8b0
        try clear c15
        try clear c15b0
        try clear c15b1
        try clear c16
        try clear c16b0
        try clear c16b1
        try clear c17
        try clear c17b0
        try clear c17b1
        try clear c22
        try clear c22b0
        try clear c22b1
        try clear c23
        try clear c23b0
        try clear c23b1
        try clear c27
        try clear c27b0
        try clear c27b1
        try clear c29
        try clear c29b0
        try clear c29b1
        try clear c38
        try clear c38b0
        try clear c38b1
        try clear c39
        try clear c39b0
        try clear c39b1
        try clear c44
        try clear c44b0
        try clear c44b1
        try clear c45
        try clear c45b0
        try clear c46
        try clear c46b0
        try clear c46b1
        try clear c47
        try clear c47b0
        try clear c48
        try clear c48b0
        try clear c48b1
        try clear c49
        try clear c49b0
        try clear c49b1
        try clear c50
        try clear c50b0
        try clear c51
        try clear c51b0
        try clear c51b1
        try clear c52
        try clear c55
        try clear c57
        try clear c57b0
        try clear c57b1
        try clear hx607_0
        try clear hx613_0
        try clear hx615_0
        try clear hx619_0
        try clear hx623_0
        try clear hx627_0
        try clear hx628_0
        try clear p607
        try clear p613
        try clear p615
        try clear p619
        try clear p623
        try clear p627
        try clear p628
        try clear q607
        try clear q610
        try clear q613
        try clear q615
        try clear q619
        try clear q622
        try clear q623
        try clear q626
        try clear q627
        try clear q628
        obtain ⟨kq, x106_55, rfl, HA, HJ55, HB⟩ := hcut
        cases kq with
        | zero => exact absurd HA.out (by simp [gronx_inStep.j2])
        | succ kj55 =>
         have H := HA.out
         clear HA
         simp only [gronx_inStep.j2] at H
         have HC58 := Aside0.mk H
         clear H
         go_upto_if 106 with (fail)
         go_cut [15] (fun v15 wc => ∃ (kq : Nat) (x15_57 : Int), v15 = .int .i64 x15_57 ∧ Aside0 (gronx_inStep.j3 kq a0 t608 x14_30 x15_57 = some (r1, r2)) ∧ Aside0 (kq ≤ kj55) ∧ Aside0 (Below w.heap.size w wc))
         case first =>
          have H := HC58.out
          clear HC58
          refine (Classical.em (x106_55 = true)).elim (fun c59 => ?a26_) (fun c59 => ?b26_)
          case a26_ =>
           subst c59
           rw [if_pos rfl] at H
           have H' := Aside0.mk H
           clear H
           go_wp2
           go_meet
           case rel => exact ⟨_, (0), (by first | rfl | (simp; done) | (simp [*]; done)), H', ⟨by have := HJ30.out; have := HJ42.out; have := HJ55.out; first | omega | exact Nat.le_refl _⟩, ⟨by repeat (with_reducible first | exact HB.out | apply below_alloc | apply pw_below_drewN | apply below_drew1)⟩⟩
          case b26_ =>
           replace c59 := Bool.eq_false_iff.mpr c59
           subst c59
           rw [if_neg (show ¬ (false = true) by decide)] at H
           have H' := Aside0.mk H
           clear H
           go_wp2
           go_meet
           case rel => exact ⟨_, (t620), (by first | rfl | (simp; done) | (simp [*]; done)), H', ⟨by have := HJ30.out; have := HJ42.out; have := HJ55.out; first | omega | exact Nat.le_refl _⟩, ⟨by repeat (with_reducible first | exact HB.out | apply below_alloc | apply pw_below_drewN | apply below_drew1)⟩⟩
         case rest =>
          clear HC58
          try clear c2
          try clear c6
          try clear c6b0
          try clear c6b1
          try clear c8
          try clear c8b0
          try clear c15
          try clear c15b0
          try clear c15b1
          try clear c16
          try clear c16b0
          try clear c16b1
          try clear c17
          try clear c17b0
          try clear c17b1
          try clear c22
          try clear c22b0
          try clear c22b1
          try clear c23
          try clear c23b0
          try clear c23b1
          try clear c27
          try clear c27b0
          try clear c27b1
          try clear c29
          try clear c29b0
          try clear c29b1
          try clear c38
          try clear c38b0
          try clear c38b1
          try clear c39
          try clear c39b0
          try clear c39b1
          try clear c44
          try clear c44b0
          try clear c44b1
          try clear c45
          try clear c45b0
          try clear c46
          try clear c46b0
          try clear c46b1
          try clear c47
          try clear c47b0
          try clear c48
          try clear c48b0
          try clear c48b1
          try clear c49
          try clear c49b0
          try clear c49b1
          try clear c50
          try clear c50b0
          try clear c51
          try clear c51b0
          try clear c51b1
          try clear c52
          try clear c55
          try clear c57
          try clear c57b0
          try clear c57b1
          try clear c59
          try clear hx607_0
          try clear hx613_0
          try clear hx615_0
          try clear hx619_0
          try clear hx623_0
          try clear hx627_0
          try clear hx628_0
          try clear p607
          try clear p613
          try clear p615
          try clear p619
          try clear p623
          try clear p627
          try clear p628
          try clear q607
          try clear q610
          try clear q613
          try clear q615
          try clear q619
          try clear q622
          try clear q623
          try clear q626
          try clear q627
          try clear q628
          obtain ⟨kq, x15_57, rfl, HA, HJ57, HB⟩ := hcut
          cases kq with
          | zero => exact absurd HA.out (by simp [gronx_inStep.j3])
          | succ kj57 =>
           have H := HA.out
           clear HA
           simp only [gronx_inStep.j3] at H
           refine (Classical.em (a0 = 0)).elim (fun c60 => ?a27_) (fun c60 => ?b27_)
           case' a27_ =>
            rw [if_pos c60] at H
            have c60b0 : (a0 == 0) = true := beq_iff_eq.mpr c60
            have c60b1 : (a0 != 0) = false := bne_eq_false_iff_eq.mpr c60
            clear c60
            replace H := Option.bind_eq_some_iff.mp H
            obtain ⟨t632, A610, H⟩ := H
            try dsimp only at H
            have A61 := Aside0.mk A610
            clear A610
            refine (Classical.em (t632 = true)).elim (fun c62 => ?a28_) (fun c62 => ?b28_)
           case' a28_ =>
            subst c62
            rw [if_pos rfl] at H
            simp only [Option.some.injEq, Prod.mk.injEq] at H
            obtain ⟨rfl, rfl⟩ := H
           case' b28_ =>
            replace c62 := Bool.eq_false_iff.mpr c62
            subst c62
            rw [if_neg (show ¬ (false = true) by decide)] at H
            replace H := Option.bind_eq_some_iff.mp H
            obtain ⟨t633, A630, H⟩ := H
            try dsimp only at H
            have A63 := Aside0.mk A630
            clear A630
            simp only [Option.some.injEq, Prod.mk.injEq] at H
            obtain ⟨rfl, rfl⟩ := H
           case' b27_ =>
            rw [if_neg c60] at H
            have c60b0 : (a0 == 0) = false := beq_eq_false_iff_ne.mpr c60
            have c60b1 : (a0 != 0) = true := bne_iff_ne.mpr c60
            replace H := Option.bind_eq_some_iff.mp H
            obtain ⟨t634, A640, H⟩ := H
            try dsimp only at H
            have A64 := Aside0.mk A640
            clear A640
            simp only [Option.some.injEq, Prod.mk.injEq] at H
            obtain ⟨rfl, rfl⟩ := H
           case a28_ | b28_ | b27_ =>
            go_wp2_with (first | ((with_reducible refine gate_callee (f := 216) rfl ?_); refine goesL_ (some 123) rfl rfl Tryz.func216 (by kernel_rfl) rfl #[.int .i64 a0, .int .i64 x15_57, .int .i64 x14_30, .int .i64 t608] rfl (by (try simp only [List.map_toArray, List.map_cons, List.map_nil]); first | done | rfl | (simp only [List.length_drop, List.length_take]; rfl)) ?_; (with_reducible refine (gronx_inStepRange.calls kj57 a0 x15_57 x14_30 t608 t634 _ A64.out).mono ?_); rintro e w' ⟨rfl, ⟨nd, rfl⟩⟩; refine ⟨_, rfl, ?_⟩) | ((with_reducible refine gate_callee (f := 216) rfl ?_); refine goesL_ (some 112) rfl rfl Tryz.func216 (by kernel_rfl) rfl #[.int .i64 0, .int .i64 x15_57, .int .i64 x14_30, .int .i64 t608] rfl (by (try simp only [List.map_toArray, List.map_cons, List.map_nil]); first | done | rfl | (simp only [List.length_drop, List.length_take]; rfl)) ?_; (with_reducible refine (gronx_inStepRange.calls kj57 0 x15_57 x14_30 t608 false _ A61.out).mono ?_); rintro e w' ⟨rfl, ⟨nd, rfl⟩⟩; refine ⟨_, rfl, ?_⟩) | ((with_reducible refine gate_callee (f := 216) rfl ?_); refine goesL_ (some 112) rfl rfl Tryz.func216 (by kernel_rfl) rfl #[.int .i64 0, .int .i64 x15_57, .int .i64 x14_30, .int .i64 t608] rfl (by (try simp only [List.map_toArray, List.map_cons, List.map_nil]); first | done | rfl | (simp only [List.length_drop, List.length_take]; rfl)) ?_; (with_reducible refine (gronx_inStepRange.calls kj57 0 x15_57 x14_30 t608 true _ A61.out).mono ?_); rintro e w' ⟨rfl, ⟨nd, rfl⟩⟩; refine ⟨_, rfl, ?_⟩) | (go_at_call 216; (with_reducible refine (gronx_inStepRange.calls kj57 7 x15_57 x14_30 t608 t633 _ A63.out).mono ?_); rintro e w' ⟨rfl, ⟨nd, rfl⟩⟩))
            go_ret2
            exact ⟨by first | rfl | (simp [errW_none, errW_some] <;> rfl) | (simp [*, errW_none, errW_some] <;> rfl), by repeat (with_reducible first | exact HB.out | apply below_alloc | apply pw_below_drewN | apply below_drew1)⟩
      case' b24_ =>
       replace c55 := Bool.eq_false_iff.mpr c55
       subst c55
       rw [if_neg (show ¬ (false = true) by decide)] at H
       replace H := Option.bind_eq_some_iff.mp H
       obtain ⟨t635, A650, H⟩ := H
       try dsimp only at H
       have A65 := Aside0.mk A650
       clear A650
       simp only [Option.some.injEq, Prod.mk.injEq] at H
       obtain ⟨rfl, rfl⟩ := H
      case a23_ | b24_ =>
       go_wp2_with (first | ((with_reducible refine gate_callee (f := 46) rfl ?_); refine goesL_ (some 99) rfl rfl Tryz.func46 (by kernel_rfl) rfl #[.string (⟨#[115, 116, 101, 112, 32, 111, 117, 116, 32, 111, 102, 32, 98, 111, 117, 110, 100, 115, 40, 44, 32, 41]⟩ : ByteArray)] rfl (by (try simp only [List.map_toArray, List.map_cons, List.map_nil]); first | done | rfl | (simp only [List.length_drop, List.length_take]; rfl)) ?_; (with_reducible refine (errors_New.calls (⟨#[115, 116, 101, 112, 32, 111, 117, 116, 32, 111, 102, 32, 98, 111, 117, 110, 100, 115, 40, 44, 32, 41]⟩ : ByteArray) t631 _ A53.out).mono ?_); rintro e w54 ⟨rfl, hb⟩; refine ⟨_, rfl, ?_⟩; have n0_ := Aside0.mk (below_step (by repeat (with_reducible first | exact HB.out | apply below_alloc | apply pw_below_drewN | apply below_drew1)) hb); clear HB; have HB := n0_; clear n0_; (try clear hb); (try clear hb2); (try clear hk); (try clear hi); (try simp only [errW_none, errW_some])) | ((with_reducible refine gate_callee (f := 216) rfl ?_); refine goesL_ (some 123) rfl rfl Tryz.func216 (by kernel_rfl) rfl #[.int .i64 a0, .int .i64 t620, .int .i64 x14_30, .int .i64 t608] rfl (by (try simp only [List.map_toArray, List.map_cons, List.map_nil]); first | done | rfl | (simp only [List.length_drop, List.length_take]; rfl)) ?_; (with_reducible refine (gronx_inStepRange.calls kj42 a0 t620 x14_30 t608 t635 _ A65.out).mono ?_); rintro e w' ⟨rfl, ⟨nd, rfl⟩⟩; refine ⟨_, rfl, ?_⟩))
       go_ret2
       exact ⟨by first | rfl | (simp [errW_none, errW_some] <;> rfl) | (simp [*, errW_none, errW_some] <;> rfl), by repeat (with_reducible first | exact HB.out | apply below_alloc | apply pw_below_drewN | apply below_drew1)⟩
 case b11_ =>
  obtain ⟨q622, rfl⟩ := h_
  rw [if_neg (show ¬ (some q622).isNone = true by simp)] at H
  try simp only [errW_none, errW_some]
  simp only [Option.some.injEq, Prod.mk.injEq] at H
  obtain ⟨rfl, rfl⟩ := H
  go_enter Tryz.func214, Tryz.ntmps214
  go_wp2_with (first | ((with_reducible refine gate_callee (f := 64) rfl ?_); refine goesL_ (some 17) rfl rfl Tryz.func64 (by kernel_rfl) rfl #[.string a1, .string (⟨#[47]⟩ : ByteArray)] rfl (by (try simp only [List.map_toArray, List.map_cons, List.map_nil]); first | done | rfl | (simp only [List.length_drop, List.length_take]; rfl)) ?_; (with_reducible refine (gronx_zzSplit.calls k a1 (⟨#[47]⟩ : ByteArray) t604 _ A5.out).mono ?_); rintro e w66 ⟨v605, rfl, ho0, hb⟩; refine ⟨_, rfl, ?_⟩; have n0_ := Aside0.mk (Kd.R_lower ho0 (below_size (by repeat (with_reducible first | exact HB.out | apply below_alloc | apply pw_below_drewN | apply below_drew1)))); have n1_ := Aside0.mk (below_step (by repeat (with_reducible first | exact HB.out | apply below_alloc | apply pw_below_drewN | apply below_drew1)) hb); clear HB; have HO606 := n0_; have HB := n1_; clear n0_ n1_; (try clear hb); (try clear hb2); (try clear hk); (try clear hi); (try clear ho0); obtain ⟨Ao67, co67, eo67⟩ := Kd.R_slice HO606.out; subst eo67; have p607 : 0 ≤ (1 : Int) := (by omega); have q607 : 1 < (t604.length : Int) := of_decide_eq_true (by first | (with_reducible assumption) | assumption); obtain ⟨ad607, e607, hx607_0⟩ := Kd.at_string (Kd.R_reads' HO606.out).2.2 1 p607 q607; cases e607; (try simp only [show (1 : Int).toNat = 1 from rfl, Nat.reduceMul, Nat.reduceEqDiff, Go.Addr.add, ↓reduceIte] at hx607_0); have qi607 : (1 < t604.length) = True := eq_true (by omega); (try rw [show ((1 : Int)).toNat = 1 from rfl] at hx607_0); replace p607 := eq_true p607; replace q607 := eq_true q607) | ((with_reducible refine gate_callee (f := 67) rfl ?_); refine goesL_ (some 22) rfl rfl Tryz.func67 (by kernel_rfl) rfl #[.string (rdOf ByteArray.empty t604 1)] rfl (by (try simp only [List.map_toArray, List.map_cons, List.map_nil]); first | done | rfl | (simp only [List.length_drop, List.length_take]; rfl)) ?_; (with_reducible refine (strconv_Atoi.calls (rdOf ByteArray.empty t604 1) t608 none _ A7.out).mono ?_); rintro e w68 ⟨rfl, hb⟩; refine ⟨_, rfl, ?_⟩; have n0_ := Aside0.mk (Kd.R_below (by (with_reducible repeat (first | apply Kd.R_alloc | apply Kd.R_drewN | apply Kd.R_drew)); exact HO606.out) hb); have n1_ := Aside0.mk (below_step (by repeat (with_reducible first | exact HB.out | apply below_alloc | apply pw_below_drewN | apply below_drew1)) hb); clear HO606; clear HB; have HO606 := n0_; have HB := n1_; clear n0_ n1_; (try clear hb); (try clear hb2); (try clear hk); (try clear hi); (try simp only [errW_none, errW_some])) | ((with_reducible refine gate_callee (f := 65) rfl ?_); refine goesL_ (some 32) rfl rfl Tryz.func65 (by kernel_rfl) rfl #[.string a1, .string (⟨#[42, 47]⟩ : ByteArray)] rfl (by (try simp only [List.map_toArray, List.map_cons, List.map_nil]); first | done | rfl | (simp only [List.length_drop, List.length_take]; rfl)) ?_; (with_reducible refine (gronx_zzIndex.calls k a1 (⟨#[42, 47]⟩ : ByteArray) t612 _ A14.out).mono ?_); rintro e w' ⟨rfl, ⟨nd, rfl⟩⟩; refine ⟨_, rfl, ?_⟩) | ((with_reducible refine gate_callee (f := 65) rfl ?_); refine goesL_ (some 43) rfl rfl Tryz.func65 (by kernel_rfl) rfl #[.string a1, .string (⟨#[48, 47]⟩ : ByteArray)] rfl (by (try simp only [List.map_toArray, List.map_cons, List.map_nil]); first | done | rfl | (simp only [List.length_drop, List.length_take]; rfl)) ?_; (with_reducible refine (gronx_zzIndex.calls k a1 (⟨#[48, 47]⟩ : ByteArray) t614 _ A21.out).mono ?_); rintro e w' ⟨rfl, ⟨nd, rfl⟩⟩; refine ⟨_, rfl, ?_⟩; have p615 : 0 ≤ (0 : Int) := (by omega); have q615 : 0 < (t604.length : Int) := of_decide_eq_true (by first | (with_reducible assumption) | assumption); obtain ⟨ad615, e615, hx615_0⟩ := Kd.at_string (Kd.R_reads' HO606.out).2.2 0 p615 q615; obtain rfl : ad607 = ad615 := (by injection e615); have qi615 : (0 < t604.length) = True := eq_true (by omega); (try rw [show ((0 : Int)).toNat = 0 from rfl] at hx615_0); (try rw [Addr.add_zero'] at hx615_0); replace p615 := eq_true p615; replace q615 := eq_true q615) | ((with_reducible refine gate_callee (f := 64) rfl ?_); refine goesL_ (some 52) rfl rfl Tryz.func64 (by kernel_rfl) rfl #[.string (rdOf ByteArray.empty t604 0), .string (⟨#[45]⟩ : ByteArray)] rfl (by (try simp only [List.map_toArray, List.map_cons, List.map_nil]); first | done | rfl | (simp only [List.length_drop, List.length_take]; rfl)) ?_; (with_reducible refine (gronx_zzSplit.calls k (rdOf ByteArray.empty t604 0) (⟨#[45]⟩ : ByteArray) t616 _ A28.out).mono ?_); rintro e w69 ⟨v617, rfl, ho0, hb⟩; refine ⟨_, rfl, ?_⟩; have n0_ := Aside0.mk (Kd.R_elder' (by (with_reducible repeat (first | apply Kd.R_alloc | apply Kd.R_drewN | apply Kd.R_drew)); exact HO606.out) (Kd.R_base ho0) hb); have n1_ := Aside0.mk (Kd.R_lower (Kd.R_new' ho0 (Kd.R_lt (by (with_reducible repeat (first | apply Kd.R_alloc | apply Kd.R_drewN | apply Kd.R_drew)); exact HO606.out))) (below_size (by repeat (with_reducible first | exact HB.out | apply below_alloc | apply pw_below_drewN | apply below_drew1)))); have n2_ := Aside0.mk (below_step (by repeat (with_reducible first | exact HB.out | apply below_alloc | apply pw_below_drewN | apply below_drew1)) hb); clear HO606; clear HB; have HO606 := n0_; have HO618 := n1_; have HB := n2_; clear n0_ n1_ n2_; (try clear hb); (try clear hb2); (try clear hk); (try clear hi); (try clear ho0); obtain ⟨Ao70, co70, eo70⟩ := Kd.R_slice HO618.out; subst eo70; have p619 : 0 ≤ (0 : Int) := (by omega); have q619 : 0 < (t616.length : Int) := of_decide_eq_true (by first | (with_reducible assumption) | assumption); obtain ⟨ad619, e619, hx619_0⟩ := Kd.at_string (Kd.R_reads' HO618.out).2.2 0 p619 q619; cases e619; have qi619 : (0 < t616.length) = True := eq_true (by omega); (try rw [show ((0 : Int)).toNat = 0 from rfl] at hx619_0); (try rw [Addr.add_zero'] at hx619_0); replace p619 := eq_true p619; replace q619 := eq_true q619) | ((with_reducible refine gate_callee (f := 67) rfl ?_); refine goesL_ (some 58) rfl rfl Tryz.func67 (by kernel_rfl) rfl #[.string (rdOf ByteArray.empty t616 0)] rfl (by (try simp only [List.map_toArray, List.map_cons, List.map_nil]); first | done | rfl | (simp only [List.length_drop, List.length_take]; rfl)) ?_; (with_reducible refine (strconv_Atoi.calls (rdOf ByteArray.empty t616 0) t620 (some q622) _ A30.out).mono ?_); rintro e w71 ⟨rfl, hb⟩; refine ⟨_, rfl, ?_⟩; have n0_ := Aside0.mk (Kd.R_below (by (with_reducible repeat (first | apply Kd.R_alloc | apply Kd.R_drewN | apply Kd.R_drew)); exact HO606.out) hb); have n1_ := Aside0.mk (Kd.R_below (by (with_reducible repeat (first | apply Kd.R_alloc | apply Kd.R_drewN | apply Kd.R_drew)); exact HO618.out) hb); have n2_ := Aside0.mk (below_step (by repeat (with_reducible first | exact HB.out | apply below_alloc | apply pw_below_drewN | apply below_drew1)) hb); clear HO606; clear HO618; clear HB; have HO606 := n0_; have HO618 := n1_; have HB := n2_; clear n0_ n1_ n2_; (try clear hb); (try clear hb2); (try clear hk); (try clear hi); (try simp only [errW_none, errW_some])))
  go_ret2
  exact ⟨by first | rfl | (simp [errW_none, errW_some] <;> rfl) | (simp [*, errW_none, errW_some] <;> rfl), by repeat (with_reducible first | exact HB.out | apply below_alloc | apply pw_below_drewN | apply below_drew1)⟩
 case b10_ =>
  rw [if_neg c29] at H
  exact absurd H (by simp)
 case b9_ =>
  rw [if_neg c27] at H
  exact absurd H (by simp)
 case b2_ =>
  obtain ⟨q610, rfl⟩ := h_
  rw [if_neg (show ¬ (some q610).isNone = true by simp)] at H
  try simp only [errW_none, errW_some]
  simp only [Option.some.injEq, Prod.mk.injEq] at H
  obtain ⟨rfl, rfl⟩ := H
  go_enter Tryz.func214, Tryz.ntmps214
  go_wp2_with (first | ((with_reducible refine gate_callee (f := 64) rfl ?_); refine goesL_ (some 17) rfl rfl Tryz.func64 (by kernel_rfl) rfl #[.string a1, .string (⟨#[47]⟩ : ByteArray)] rfl (by (try simp only [List.map_toArray, List.map_cons, List.map_nil]); first | done | rfl | (simp only [List.length_drop, List.length_take]; rfl)) ?_; (with_reducible refine (gronx_zzSplit.calls k a1 (⟨#[47]⟩ : ByteArray) t604 _ A5.out).mono ?_); rintro e w72 ⟨v605, rfl, ho0, hb⟩; refine ⟨_, rfl, ?_⟩; have n0_ := Aside0.mk (Kd.R_lower ho0 (below_size (by repeat (with_reducible first | exact HB.out | apply below_alloc | apply pw_below_drewN | apply below_drew1)))); have n1_ := Aside0.mk (below_step (by repeat (with_reducible first | exact HB.out | apply below_alloc | apply pw_below_drewN | apply below_drew1)) hb); clear HB; have HO606 := n0_; have HB := n1_; clear n0_ n1_; (try clear hb); (try clear hb2); (try clear hk); (try clear hi); (try clear ho0); obtain ⟨Ao73, co73, eo73⟩ := Kd.R_slice HO606.out; subst eo73; have p607 : 0 ≤ (1 : Int) := (by omega); have q607 : 1 < (t604.length : Int) := of_decide_eq_true (by first | (with_reducible assumption) | assumption); obtain ⟨ad607, e607, hx607_0⟩ := Kd.at_string (Kd.R_reads' HO606.out).2.2 1 p607 q607; cases e607; (try simp only [show (1 : Int).toNat = 1 from rfl, Nat.reduceMul, Nat.reduceEqDiff, Go.Addr.add, ↓reduceIte] at hx607_0); have qi607 : (1 < t604.length) = True := eq_true (by omega); (try rw [show ((1 : Int)).toNat = 1 from rfl] at hx607_0); replace p607 := eq_true p607; replace q607 := eq_true q607) | ((with_reducible refine gate_callee (f := 67) rfl ?_); refine goesL_ (some 22) rfl rfl Tryz.func67 (by kernel_rfl) rfl #[.string (rdOf ByteArray.empty t604 1)] rfl (by (try simp only [List.map_toArray, List.map_cons, List.map_nil]); first | done | rfl | (simp only [List.length_drop, List.length_take]; rfl)) ?_; (with_reducible refine (strconv_Atoi.calls (rdOf ByteArray.empty t604 1) t608 (some q610) _ A7.out).mono ?_); rintro e w74 ⟨rfl, hb⟩; refine ⟨_, rfl, ?_⟩; have n0_ := Aside0.mk (Kd.R_below (by (with_reducible repeat (first | apply Kd.R_alloc | apply Kd.R_drewN | apply Kd.R_drew)); exact HO606.out) hb); have n1_ := Aside0.mk (below_step (by repeat (with_reducible first | exact HB.out | apply below_alloc | apply pw_below_drewN | apply below_drew1)) hb); clear HO606; clear HB; have HO606 := n0_; have HB := n1_; clear n0_ n1_; (try clear hb); (try clear hb2); (try clear hk); (try clear hi); (try simp only [errW_none, errW_some])))
  go_ret2
  exact ⟨by first | rfl | (simp [errW_none, errW_some] <;> rfl) | (simp [*, errW_none, errW_some] <;> rfl), by repeat (with_reducible first | exact HB.out | apply below_alloc | apply pw_below_drewN | apply below_drew1)⟩
 case b1_ =>
  rw [if_neg c6] at H
  exact absurd H (by simp)
 case a3_ | b6_ | b8_ =>
  go_enter Tryz.func214, Tryz.ntmps214
  go_wp2_with (first | ((with_reducible refine gate_callee (f := 64) rfl ?_); refine goesL_ (some 17) rfl rfl Tryz.func64 (by kernel_rfl) rfl #[.string a1, .string (⟨#[47]⟩ : ByteArray)] rfl (by (try simp only [List.map_toArray, List.map_cons, List.map_nil]); first | done | rfl | (simp only [List.length_drop, List.length_take]; rfl)) ?_; (with_reducible refine (gronx_zzSplit.calls k a1 (⟨#[47]⟩ : ByteArray) t604 _ A5.out).mono ?_); rintro e w24 ⟨v605, rfl, ho0, hb⟩; refine ⟨_, rfl, ?_⟩; have n0_ := Aside0.mk (Kd.R_lower ho0 (below_size (by repeat (with_reducible first | exact HB.out | apply below_alloc | apply pw_below_drewN | apply below_drew1)))); have n1_ := Aside0.mk (below_step (by repeat (with_reducible first | exact HB.out | apply below_alloc | apply pw_below_drewN | apply below_drew1)) hb); clear HB; have HO606 := n0_; have HB := n1_; clear n0_ n1_; (try clear hb); (try clear hb2); (try clear hk); (try clear hi); (try clear ho0); obtain ⟨Ao25, co25, eo25⟩ := Kd.R_slice HO606.out; subst eo25; have p607 : 0 ≤ (1 : Int) := (by omega); have q607 : 1 < (t604.length : Int) := of_decide_eq_true (by first | (with_reducible assumption) | assumption); obtain ⟨ad607, e607, hx607_0⟩ := Kd.at_string (Kd.R_reads' HO606.out).2.2 1 p607 q607; cases e607; (try simp only [show (1 : Int).toNat = 1 from rfl, Nat.reduceMul, Nat.reduceEqDiff, Go.Addr.add, ↓reduceIte] at hx607_0); have qi607 : (1 < t604.length) = True := eq_true (by omega); (try rw [show ((1 : Int)).toNat = 1 from rfl] at hx607_0); replace p607 := eq_true p607; replace q607 := eq_true q607) | ((with_reducible refine gate_callee (f := 64) rfl ?_); refine goesL_ (some 17) rfl rfl Tryz.func64 (by kernel_rfl) rfl #[.string a1, .string (⟨#[47]⟩ : ByteArray)] rfl (by (try simp only [List.map_toArray, List.map_cons, List.map_nil]); first | done | rfl | (simp only [List.length_drop, List.length_take]; rfl)) ?_; (with_reducible refine (gronx_zzSplit.calls k a1 (⟨#[47]⟩ : ByteArray) t604 _ A5.out).mono ?_); rintro e w10 ⟨v605, rfl, ho0, hb⟩; refine ⟨_, rfl, ?_⟩; have n0_ := Aside0.mk (Kd.R_lower ho0 (below_size (by repeat (with_reducible first | exact HB.out | apply below_alloc | apply pw_below_drewN | apply below_drew1)))); have n1_ := Aside0.mk (below_step (by repeat (with_reducible first | exact HB.out | apply below_alloc | apply pw_below_drewN | apply below_drew1)) hb); clear HB; have HO606 := n0_; have HB := n1_; clear n0_ n1_; (try clear hb); (try clear hb2); (try clear hk); (try clear hi); (try clear ho0); obtain ⟨Ao11, co11, eo11⟩ := Kd.R_slice HO606.out; subst eo11; have p607 : 0 ≤ (1 : Int) := (by omega); have q607 : 1 < (t604.length : Int) := of_decide_eq_true (by first | (with_reducible assumption) | assumption); obtain ⟨ad607, e607, hx607_0⟩ := Kd.at_string (Kd.R_reads' HO606.out).2.2 1 p607 q607; cases e607; (try simp only [show (1 : Int).toNat = 1 from rfl, Nat.reduceMul, Nat.reduceEqDiff, Go.Addr.add, ↓reduceIte] at hx607_0); have qi607 : (1 < t604.length) = True := eq_true (by omega); (try rw [show ((1 : Int)).toNat = 1 from rfl] at hx607_0); replace p607 := eq_true p607; replace q607 := eq_true q607) | ((with_reducible refine gate_callee (f := 64) rfl ?_); refine goesL_ (some 17) rfl rfl Tryz.func64 (by kernel_rfl) rfl #[.string a1, .string (⟨#[47]⟩ : ByteArray)] rfl (by (try simp only [List.map_toArray, List.map_cons, List.map_nil]); first | done | rfl | (simp only [List.length_drop, List.length_take]; rfl)) ?_; (with_reducible refine (gronx_zzSplit.calls k a1 (⟨#[47]⟩ : ByteArray) t604 _ A5.out).mono ?_); rintro e w18 ⟨v605, rfl, ho0, hb⟩; refine ⟨_, rfl, ?_⟩; have n0_ := Aside0.mk (Kd.R_lower ho0 (below_size (by repeat (with_reducible first | exact HB.out | apply below_alloc | apply pw_below_drewN | apply below_drew1)))); have n1_ := Aside0.mk (below_step (by repeat (with_reducible first | exact HB.out | apply below_alloc | apply pw_below_drewN | apply below_drew1)) hb); clear HB; have HO606 := n0_; have HB := n1_; clear n0_ n1_; (try clear hb); (try clear hb2); (try clear hk); (try clear hi); (try clear ho0); obtain ⟨Ao19, co19, eo19⟩ := Kd.R_slice HO606.out; subst eo19; have p607 : 0 ≤ (1 : Int) := (by omega); have q607 : 1 < (t604.length : Int) := of_decide_eq_true (by first | (with_reducible assumption) | assumption); obtain ⟨ad607, e607, hx607_0⟩ := Kd.at_string (Kd.R_reads' HO606.out).2.2 1 p607 q607; cases e607; (try simp only [show (1 : Int).toNat = 1 from rfl, Nat.reduceMul, Nat.reduceEqDiff, Go.Addr.add, ↓reduceIte] at hx607_0); have qi607 : (1 < t604.length) = True := eq_true (by omega); (try rw [show ((1 : Int)).toNat = 1 from rfl] at hx607_0); replace p607 := eq_true p607; replace q607 := eq_true q607) | ((with_reducible refine gate_callee (f := 46) rfl ?_); refine goesL_ (some 30) rfl rfl Tryz.func46 (by kernel_rfl) rfl #[.string (⟨#[115, 116, 101, 112, 32, 99, 97, 110, 39, 116, 32, 98, 101, 32, 48]⟩ : ByteArray)] rfl (by (try simp only [List.map_toArray, List.map_cons, List.map_nil]); first | done | rfl | (simp only [List.length_drop, List.length_take]; rfl)) ?_; (with_reducible refine (errors_New.calls (⟨#[115, 116, 101, 112, 32, 99, 97, 110, 39, 116, 32, 98, 101, 32, 48]⟩ : ByteArray) t611 _ A9.out).mono ?_); rintro e w13 ⟨rfl, hb⟩; refine ⟨_, rfl, ?_⟩; have n0_ := Aside0.mk (Kd.R_below (by (with_reducible repeat (first | apply Kd.R_alloc | apply Kd.R_drewN | apply Kd.R_drew)); exact HO606.out) hb); have n1_ := Aside0.mk (below_step (by repeat (with_reducible first | exact HB.out | apply below_alloc | apply pw_below_drewN | apply below_drew1)) hb); clear HO606; clear HB; have HO606 := n0_; have HB := n1_; clear n0_ n1_; (try clear hb); (try clear hb2); (try clear hk); (try clear hi); (try simp only [errW_none, errW_some])) | ((with_reducible refine gate_callee (f := 65) rfl ?_); refine goesL_ (some 32) rfl rfl Tryz.func65 (by kernel_rfl) rfl #[.string a1, .string (⟨#[42, 47]⟩ : ByteArray)] rfl (by (try simp only [List.map_toArray, List.map_cons, List.map_nil]); first | done | rfl | (simp only [List.length_drop, List.length_take]; rfl)) ?_; (with_reducible refine (gronx_zzIndex.calls k a1 (⟨#[42, 47]⟩ : ByteArray) t612 _ A14.out).mono ?_); rintro e w' ⟨rfl, ⟨nd, rfl⟩⟩; refine ⟨_, rfl, ?_⟩; have p613 : 0 ≤ (0 : Int) := (by omega); have q613 : 0 < (l2.length : Int) := of_decide_eq_true (by first | (with_reducible assumption) | assumption); obtain ⟨ad613, e613, hx613_0⟩ := Kd.at_int HR2.out 0 p613 q613; cases e613; have qi613 : (0 < l2.length) = True := eq_true (by omega); (try rw [show ((0 : Int)).toNat = 0 from rfl] at hx613_0); (try rw [Addr.add_zero'] at hx613_0); replace hx613_0 := (HB.out.cell (World.block_lt_of_cell? w _ hx613_0)).trans hx613_0; replace p613 := eq_true p613; replace q613 := eq_true q613) | ((with_reducible refine gate_callee (f := 67) rfl ?_); refine goesL_ (some 22) rfl rfl Tryz.func67 (by kernel_rfl) rfl #[.string (rdOf ByteArray.empty t604 1)] rfl (by (try simp only [List.map_toArray, List.map_cons, List.map_nil]); first | done | rfl | (simp only [List.length_drop, List.length_take]; rfl)) ?_; (with_reducible refine (strconv_Atoi.calls (rdOf ByteArray.empty t604 1) t608 none _ A7.out).mono ?_); rintro e w26 ⟨rfl, hb⟩; refine ⟨_, rfl, ?_⟩; have n0_ := Aside0.mk (Kd.R_below (by (with_reducible repeat (first | apply Kd.R_alloc | apply Kd.R_drewN | apply Kd.R_drew)); exact HO606.out) hb); have n1_ := Aside0.mk (below_step (by repeat (with_reducible first | exact HB.out | apply below_alloc | apply pw_below_drewN | apply below_drew1)) hb); clear HO606; clear HB; have HO606 := n0_; have HB := n1_; clear n0_ n1_; (try clear hb); (try clear hb2); (try clear hk); (try clear hi); (try simp only [errW_none, errW_some])) | ((with_reducible refine gate_callee (f := 65) rfl ?_); refine goesL_ (some 32) rfl rfl Tryz.func65 (by kernel_rfl) rfl #[.string a1, .string (⟨#[42, 47]⟩ : ByteArray)] rfl (by (try simp only [List.map_toArray, List.map_cons, List.map_nil]); first | done | rfl | (simp only [List.length_drop, List.length_take]; rfl)) ?_; (with_reducible refine (gronx_zzIndex.calls k a1 (⟨#[42, 47]⟩ : ByteArray) t612 _ A14.out).mono ?_); rintro e w' ⟨rfl, ⟨nd, rfl⟩⟩; refine ⟨_, rfl, ?_⟩) | ((with_reducible refine gate_callee (f := 65) rfl ?_); refine goesL_ (some 43) rfl rfl Tryz.func65 (by kernel_rfl) rfl #[.string a1, .string (⟨#[48, 47]⟩ : ByteArray)] rfl (by (try simp only [List.map_toArray, List.map_cons, List.map_nil]); first | done | rfl | (simp only [List.length_drop, List.length_take]; rfl)) ?_; (with_reducible refine (gronx_zzIndex.calls k a1 (⟨#[48, 47]⟩ : ByteArray) t614 _ A21.out).mono ?_); rintro e w' ⟨rfl, ⟨nd, rfl⟩⟩; refine ⟨_, rfl, ?_⟩))
  go_ret2
  exact ⟨by first | rfl | (simp [errW_none, errW_some] <;> rfl) | (simp [*, errW_none, errW_some] <;> rfl), by repeat (with_reducible first | exact HB.out | apply below_alloc | apply pw_below_drewN | apply below_drew1)⟩
end Go.Proofs.YtjpcdkhapeejjaaGreatDoor.A
