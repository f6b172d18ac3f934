/- Steps of the proof of the law: contracts of functions of the given program, and plain lemmas about what they compute.
Conditions: none beyond those that each theorem names. -/
import Derived.Test.YtjpcdkhapeejjaaGreatDoorK11
import Derived.Test.YtjpcdkhapeejjaaGreatDoorK24
set_option linter.unusedVariables false
set_option linter.unusedSimpArgs false
open Go.RowKit Go.Proofs.YtjpcdkhapeejjaaGreatDoorW.PrintWords Go.Proofs.YtjpcdkhapeejjaaGreatDoorW.PrintLast Go.Proofs.YtjpcdkhapeejjaaGreatDoorW.PrintMore
namespace Go.Proofs.YtjpcdkhapeejjaaGreatDoor.A
mutual
def gronx_zzHasYear.l0 : Nat → ByteArray → Int → Int → Option (Bool)
  | 0, _, _, _ => none
  | k + 1, x0, x3, x4 => if x4 < (x0.size : Int) then (if 0 ≤ x4 then (if (bt x0 x4) < 48 then (gronx_zzHasYear.j1 k x0 x3 x4 true) else (gronx_zzHasYear.j1 k x0 x3 x4 (decide ((bt x0 x4) > 57)))) else (none)) else (some false)
def gronx_zzHasYear.j1 : Nat → ByteArray → Int → Int → Bool → Option (Bool)
  | 0, _, _, _, _ => none
  | k + 1, x0, x3, x4, x20 => if x20 = true then (gronx_zzHasYear.l0 k x0 0 (wrap64 (x4 + 1))) else (if (wrap64 (x3 + 1)) = 4 then (some true) else (gronx_zzHasYear.l0 k x0 (wrap64 (x3 + 1)) (wrap64 (x4 + 1))))
end
def gronx_zzHasYear.f (k : Nat) (a0 : ByteArray) : Option (Bool) := gronx_zzHasYear.l0 k a0 0 0
set_option maxHeartbeats 8000000 in
set_option maxRecDepth 100000 in
theorem gronx_zzHasYear.calls (k : Nat) (a0 : ByteArray) (r : Bool) (w : World) (h : gronx_zzHasYear.f k a0 = some r) :
    Calls Tryz.prog 62 #[.string a0] w fun e w' => e = .returned (.bool r) ∧ Drawn0 w w' := by
 have H : (gronx_zzHasYear.l0 k a0 0 0) = some r := h
 clear h
 have H' := Aside0.mk H
 clear H
 go_enter Tryz.func62, Tryz.ntmps62
 go_wp2
 go_loopg [3, 4] k (fun kq v3 v4 w' => ∃ (x3_1 : Int) (x4_1 : Int), v3 = .int .i64 x3_1 ∧ v4 = .int .i64 x4_1 ∧ Aside0 (gronx_zzHasYear.l0 kq a0 x3_1 x4_1 = some r) ∧ Aside0 (kq ≤ k) ∧ Drawn0 w w')
 case atStart => exact ⟨(0), (0), (by first | rfl | (simp; done) | (simp [*]; done)), (by first | rfl | (simp; done) | (simp [*]; done)), H', ⟨Nat.le_refl _⟩, by repeat (first | exact Drawn0.refl _ | apply Drawn0.step)⟩
 case round =>
  clear H'
  obtain ⟨x3_1, x4_1, rfl, rfl, HA, HK1, ⟨m1, rfl⟩⟩ := hrel
  cases gk with
  | zero => exact absurd HA.out (by simp [gronx_zzHasYear.l0])
  | succ k1 =>
   have H := HA.out
   clear HA
   simp only [gronx_zzHasYear.l0] at H
   refine (Classical.em (x4_1 < (a0.size : Int))).elim (fun c2 => ?a1_) (fun c2 => ?b1_)
   case a1_ =>
    rw [if_pos c2] at H
    have c2b0 : decide (x4_1 < (a0.size : Int)) = true := decide_eq_true c2
    clear c2
    have HC3 := Aside0.mk H
    clear H
    go_upto_region 5 with (fail)
    go_cut [20] (fun v20 wc => ∃ (kq : Nat) (x20_2 : Bool), v20 = .bool x20_2 ∧ Aside0 (gronx_zzHasYear.j1 kq a0 x3_1 x4_1 x20_2 = some r) ∧ Aside0 (kq ≤ k1) ∧ Drawn0 w wc)
    case first =>
     have H := HC3.out
     clear HC3
     refine (Classical.em (0 ≤ x4_1)).elim (fun c4 => ?a2_) (fun c4 => ?b2_)
     case' a2_ =>
      rw [if_pos c4] at H
      have c4b0 : decide (0 ≤ x4_1) = true := decide_eq_true c4
      clear c4
      (first | rw [c4b0] | (simp only [i64_w, i32_w]; rw [c4b0]) | skip)
      refine (Classical.em ((bt a0 x4_1) < 48)).elim (fun c6 => ?a3_) (fun c6 => ?b3_)
     case a3_ =>
      rw [if_pos c6] at H
      have c6b0 : decide ((bt a0 x4_1) < 48) = true := decide_eq_true c6
      clear c6
      have H' := Aside0.mk H
      clear H
      have p5 : 0 ≤ (x4_1 : Int) := of_decide_eq_true (by first | (with_reducible assumption) | assumption)
      have q5 : x4_1 < (a0.size : Int) := of_decide_eq_true (by first | (with_reducible assumption) | assumption)
      have hx5 := bt_at a0 x4_1
      replace p5 := eq_true p5
      replace q5 := eq_true q5
      go_wp2
      go_meet
      case rel => exact ⟨_, (true), (by first | rfl | (simp; done) | (simp [*]; done)), H', ⟨by have := HK1.out; first | omega | exact Nat.le_refl _⟩, by repeat (first | exact Drawn0.refl _ | apply Drawn0.step)⟩
     case b3_ =>
      rw [if_neg c6] at H
      have c6b0 : decide ((bt a0 x4_1) < 48) = false := decide_eq_false c6
      clear c6
      have H' := Aside0.mk H
      clear H
      have p5 : 0 ≤ (x4_1 : Int) := of_decide_eq_true (by first | (with_reducible assumption) | assumption)
      have q5 : x4_1 < (a0.size : Int) := of_decide_eq_true (by first | (with_reducible assumption) | assumption)
      have hx5 := bt_at a0 x4_1
      replace p5 := eq_true p5
      replace q5 := eq_true q5
      have p7 : 0 ≤ (x4_1 : Int) := of_decide_eq_true (by first | (with_reducible assumption) | assumption)
      have q7 : x4_1 < (a0.size : Int) := of_decide_eq_true (by first | (with_reducible assumption) | assumption)
      have hx7 := bt_at a0 x4_1
      replace p7 := eq_true p7
      replace q7 := eq_true q7
      go_wp2
      go_meet
      case rel => exact ⟨_, (decide ((bt a0 x4_1) > 57)), (by first | rfl | (simp; done) | (simp [*]; done)), H', ⟨by have := HK1.out; first | omega | exact Nat.le_refl _⟩, by repeat (first | exact Drawn0.refl _ | apply Drawn0.step)⟩
     case b2_ =>
      rw [if_neg c4] at H
      exact absurd H (by simp)
    case rest =>
     clear HC3
     try clear c2
     try clear c2b0
     try clear c4
     try clear c4b0
     try clear p5
     try clear q5
     try clear hx5
     try clear c6
     try clear c6b0
     try clear p7
     try clear q7
     try clear hx7
     try clear p5
     try clear p7
     try clear q5
     try clear q7
     obtain ⟨kq, x20_2, rfl, HA, HJ2, ⟨mc2, rfl⟩⟩ := hcut
     cases kq with
     | zero => exact absurd HA.out (by simp [gronx_zzHasYear.j1])
     | succ kj2 =>
      have H := HA.out
      clear HA
      simp only [gronx_zzHasYear.j1] at H
      refine (Classical.em (x20_2 = true)).elim (fun c8 => ?a4_) (fun c8 => ?b4_)
      case a4_ =>
       subst c8
       rw [if_pos rfl] at H
       have H' := Aside0.mk H
       clear H
       go_wp2
       go_roundg kj2
       case measure => have := HK1.out; have := HJ2.out; omega
       case rel => exact ⟨(0), (wrap64 (x4_1 + 1)), (by first | rfl | (simp; done) | (simp [*]; done)), (by first | rfl | (simp; done) | (simp [*]; done)), H', ⟨by have := HK1.out; have := HJ2.out; omega⟩, by repeat (first | exact Drawn0.refl _ | apply Drawn0.step)⟩
      case' b4_ =>
       replace c8 := Bool.eq_false_iff.mpr c8
       subst c8
       rw [if_neg (show ¬ (false = true) by decide)] at H
       refine (Classical.em ((wrap64 (x3_1 + 1)) = 4)).elim (fun c9 => ?a5_) (fun c9 => ?b5_)
      case a5_ =>
       rw [if_pos c9] at H
       have c9b0 : ((wrap64 (x3_1 + 1)) == 4) = true := beq_iff_eq.mpr c9
       have c9b1 : ((wrap64 (x3_1 + 1)) != 4) = false := bne_eq_false_iff_eq.mpr c9
       clear c9
       obtain rfl := Option.some.inj H
       go_wp2
       go_ret
       exact ⟨by first | rfl | (simp; done) | (simp [*]; done), by repeat (first | exact Drawn0.refl _ | apply Drawn0.step)⟩
      case b5_ =>
       rw [if_neg c9] at H
       have c9b0 : ((wrap64 (x3_1 + 1)) == 4) = false := beq_eq_false_iff_ne.mpr c9
       have c9b1 : ((wrap64 (x3_1 + 1)) != 4) = true := bne_iff_ne.mpr c9
       have H' := Aside0.mk H
       clear H
       go_wp2
       go_roundg kj2
       case measure => have := HK1.out; have := HJ2.out; omega
       case rel => exact ⟨(wrap64 (x3_1 + 1)), (wrap64 (x4_1 + 1)), (by first | rfl | (simp; done) | (simp [*]; done)), (by first | rfl | (simp; done) | (simp [*]; done)), H', ⟨by have := HK1.out; have := HJ2.out; omega⟩, by repeat (first | exact Drawn0.refl _ | apply Drawn0.step)⟩
   case b1_ =>
    rw [if_neg c2] at H
    have c2b0 : decide (x4_1 < (a0.size : Int)) = false := decide_eq_false c2
    clear c2
    obtain rfl := Option.some.inj H
    go_wp2
    go_ret
    exact ⟨by first | rfl | (simp; done) | (simp [*]; done), by repeat (first | exact Drawn0.refl _ | apply Drawn0.step)⟩
def gronx_Segments.j0 : Nat → List ByteArray → Int → Bool → Option (List ByteArray × Option Int)
  | 0, _, _, _ => none
  | k + 1, x4, x5, x16 => if x16 = true then ((errors_New.f (⟨#[101, 120, 112, 114, 32, 115, 104, 111, 117, 108, 100, 32, 99, 111, 110, 116, 97, 105, 110, 32, 53, 45, 55, 32, 115, 101, 103, 109, 101, 110, 116, 115, 32, 115, 101, 112, 97, 114, 97, 116, 101, 100, 32, 98, 121, 32, 115, 112, 97, 99, 101]⟩ : ByteArray)).bind fun t589 => (some ((([] : List ByteArray)), t589))) else (if x5 = 5 then ((some (([(⟨#[48]⟩ : ByteArray)] : List ByteArray) : List ByteArray)).bind fun y590 => (if y590.length + x4.length < 8796093022208 then (some ((y590 ++ x4), none)) else (none))) else (if x5 = 6 then (if 5 < (x4.length : Int) then ((gronx_zzHasYear.f k (rdOf ByteArray.empty x4 5)).bind fun t597 => (if t597 = true then ((some (([(⟨#[48]⟩ : ByteArray)] : List ByteArray) : List ByteArray)).bind fun y598 => (if y598.length + x4.length < 8796093022208 then (some ((y598 ++ x4), none)) else (none))) else (some (x4, none)))) else (none)) else (some (x4, none))))
def gronx_Segments.f (k : Nat) (a0 : ByteArray) : Option (List ByteArray × Option Int) := (gronx_normalize.f k a0).bind fun t583 => (if (t583.length : Int) < 5 then (gronx_Segments.j0 k t583 (t583.length : Int) true) else (gronx_Segments.j0 k t583 (t583.length : Int) (decide ((t583.length : Int) > 7))))
set_option maxHeartbeats 8000000 in
set_option maxRecDepth 100000 in
theorem gronx_Segments.calls (k : Nat) (a0 : ByteArray) (r1 : List ByteArray) (r2 : Option Int) (w : World) (h : gronx_Segments.f k a0 = some (r1, r2)) :
    Calls Tryz.prog 44 #[.string a0] w fun e w' => ∃ v0_ : Value, e = .returned (.tuple #[v0_, errW r2]) ∧ Kd.R Kd.string 9 w' w.heap.size (fun _ => True) v0_ r1 ∧ Below w.heap.size w w' := by
 have HB := Aside0.mk (Below.refl w.heap.size w)
 have H : ((gronx_normalize.f k a0).bind fun t583 => (if (t583.length : Int) < 5 then (gronx_Segments.j0 k t583 (t583.length : Int) true) else (gronx_Segments.j0 k t583 (t583.length : Int) (decide ((t583.length : Int) > 7))))) = some (r1, r2) := h
 clear h
 replace H := Option.bind_eq_some_iff.mp H
 obtain ⟨t583, A20, H⟩ := H
 try dsimp only at H
 have A2 := Aside0.mk A20
 clear A20
 have HC3 := Aside0.mk H
 clear H
 go_enter Tryz.func44, Tryz.ntmps44
 go_upto_region 3 with (first | ((with_reducible refine gate_callee (f := 61) rfl ?_); refine goesL_ (some 8) rfl rfl Tryz.func61 (by kernel_rfl) rfl #[.string a0] rfl (by (try simp only [List.map_toArray, List.map_cons, List.map_nil]); first | done | rfl | (simp only [List.length_drop, List.length_take]; rfl)) ?_; (with_reducible refine (gronx_normalize.calls k a0 t583 _ A2.out).mono ?_); rintro e w4 ⟨v584, rfl, ho0, hb⟩; refine ⟨_, rfl, ?_⟩; have n0_ := Aside0.mk (Kd.R_lower ho0 (below_size (by repeat (with_reducible first | exact HB.out | apply below_alloc | apply pw_below_drewN | apply below_drew1)))); have n1_ := Aside0.mk (below_step (by repeat (with_reducible first | exact HB.out | apply below_alloc | apply pw_below_drewN | apply below_drew1)) hb); clear HB; have HO585 := n0_; have HB := n1_; clear n0_ n1_; (try clear hb); (try clear hb2); (try clear hk); (try clear hi); (try clear ho0); obtain ⟨Ao5, co5, eo5⟩ := Kd.R_slice HO585.out; subst eo5))
 (try simp only [Act.put, List.setIfInBounds_toArray, List.set_cons_zero, List.set_cons_succ])
 go_cut [16] (fun v16 wc => ∃ (kq : Nat) (x16_2 : Bool), v16 = .bool x16_2 ∧ Aside0 (gronx_Segments.j0 kq t583 (t583.length : Int) x16_2 = some (r1, r2)) ∧ Aside0 (kq ≤ k) ∧ Aside0 (Kd.R Kd.string 9 wc w.heap.size (fun _ => True) (.slice Ao5 t583.length co5) t583) ∧ Aside0 (Below w.heap.size w wc))
 case first =>
  have H := HC3.out
  clear HC3
  refine (Classical.em ((t583.length : Int) < 5)).elim (fun c6 => ?a1_) (fun c6 => ?b1_)
  case a1_ =>
   rw [if_pos c6] at H
   have c6b0 : decide ((t583.length : Int) < 5) = true := decide_eq_true c6
   have c6b1 : decide (t583.length < 5) = true := decide_eq_true (by omega)
   clear c6
   (first | rw [c6b0] | (simp only [i64_w, i32_w]; rw [c6b0]) | skip)
   have H' := Aside0.mk H
   clear H
   go_wp2
   go_meet
   case rel => exact ⟨_, (true), (by first | rfl | (simp; done) | (simp [*]; done)), H', ⟨by first | omega | exact Nat.le_refl _⟩, ⟨by (with_reducible repeat (first | apply Kd.R_alloc | apply Kd.R_drewN | apply Kd.R_drew)); exact HO585.out⟩, ⟨by repeat (with_reducible first | exact HB.out | apply below_alloc | apply pw_below_drewN | apply below_drew1)⟩⟩
  case b1_ =>
   rw [if_neg c6] at H
   have c6b0 : decide ((t583.length : Int) < 5) = false := decide_eq_false c6
   have c6b1 : decide (t583.length < 5) = false := decide_eq_false (by omega)
   clear c6
   (first | rw [c6b0] | (simp only [i64_w, i32_w]; rw [c6b0]) | skip)
   have H' := Aside0.mk H
   clear H
   go_wp2
   go_meet
   case rel => exact ⟨_, (decide ((t583.length : Int) > 7)), (by first | rfl | (simp; done) | (simp [*]; done)), H', ⟨by first | omega | exact Nat.le_refl _⟩, ⟨by (with_reducible repeat (first | apply Kd.R_alloc | apply Kd.R_drewN | apply Kd.R_drew)); exact HO585.out⟩, ⟨by repeat (with_reducible first | exact HB.out | apply below_alloc | apply pw_below_drewN | apply below_drew1)⟩⟩
 case rest =>
  clear HC3
  try clear c6
  try clear c6b0
  try clear c6b1
  obtain ⟨kq, x16_2, rfl, HA, HJ2, HO_4, HB⟩ := hcut
  cases kq with
  | zero => exact absurd HA.out (by simp [gronx_Segments.j0])
  | succ kj2 =>
   have H := HA.out
   clear HA
   simp only [gronx_Segments.j0] at H
   refine (Classical.em (x16_2 = true)).elim (fun c7 => ?a2_) (fun c7 => ?b2_)
   case a2_ =>
    subst c7
    rw [if_pos rfl] at H
    obtain ⟨y586, hy586⟩ : ∃ y_ : List ByteArray, y_ = (([] : List ByteArray)) := ⟨_, rfl⟩
    replace H : ((errors_New.f (⟨#[101, 120, 112, 114, 32, 115, 104, 111, 117, 108, 100, 32, 99, 111, 110, 116, 97, 105, 110, 32, 53, 45, 55, 32, 115, 101, 103, 109, 101, 110, 116, 115, 32, 115, 101, 112, 97, 114, 97, 116, 101, 100, 32, 98, 121, 32, 115, 112, 97, 99, 101]⟩ : ByteArray)).bind fun t589 => (some (y586, t589))) = some (r1, r2) := by first | (rw [hy586]; with_reducible exact H) | (have H2_ := (Option.bind_some _ _).symm.trans H; rw [hy586]; with_reducible exact H2_) | (have H2_ := (Option.bind_some _ _).symm.trans H; with_reducible exact H2_) | with_reducible exact H | (rw [hy586]; exact H) | exact H
    have Ny586 := Aside0.mk hy586
    clear hy586
    replace H := Option.bind_eq_some_iff.mp H
    obtain ⟨t589, A80, H⟩ := H
    try dsimp only at H
    have A8 := Aside0.mk A80
    clear A80
    simp only [Option.some.injEq, Prod.mk.injEq] at H
    obtain ⟨rfl, rfl⟩ := H
    go_wp2_with (first | ((with_reducible refine gate_dst (N := 17) rfl ?_); refine Kd.R_lit Kd.string _ 9 ?hg (N := 17) ?hd (xs := ([] : List ByteArray)) (inner := []) (ok := fun _ => True) (okp := fun _ => True) ?hr ?hp (fun _ hk => hk) trivial (Below.refl _ _) (Nat.le_refl _) (by simp) ?_; (case hd => rfl); (case hg => rfl); (case hr => first | (go_simp; done) | (go_simp; rfl)); (case hp => exact (Reps.none _ _)); intro v587 w9 ho10 hb hg_ hnew_; clear hg_ hnew_; (first | rw [← Ny586.out] at ho10 | (simp only [Int.reduceToNat] at ho10; rw [← Ny586.out] at ho10)); have n0_ := Aside0.mk (Kd.R_elder' (by (with_reducible repeat (first | apply Kd.R_alloc | apply Kd.R_drewN | apply Kd.R_drew)); exact HO_4.out) (Kd.R_base ho10) hb); have n1_ := Aside0.mk (Kd.R_lower (Kd.R_new' ho10 (Kd.R_lt (by (with_reducible repeat (first | apply Kd.R_alloc | apply Kd.R_drewN | apply Kd.R_drew)); exact HO_4.out))) (below_size (by repeat (with_reducible first | exact HB.out | apply below_alloc | apply pw_below_drewN | apply below_drew1)))); have n2_ := Aside0.mk (below_step (by repeat (with_reducible first | exact HB.out | apply below_alloc | apply pw_below_drewN | apply below_drew1)) hb); clear HO_4; clear HB; have HO_4 := n0_; have HO588 := n1_; have HB := n2_; clear n0_ n1_ n2_; clear hb ho10) | ((with_reducible refine gate_callee (f := 46) rfl ?_); refine goesL_ (some 18) rfl rfl Tryz.func46 (by kernel_rfl) rfl #[.string (⟨#[101, 120, 112, 114, 32, 115, 104, 111, 117, 108, 100, 32, 99, 111, 110, 116, 97, 105, 110, 32, 53, 45, 55, 32, 115, 101, 103, 109, 101, 110, 116, 115, 32, 115, 101, 112, 97, 114, 97, 116, 101, 100, 32, 98, 121, 32, 115, 112, 97, 99, 101]⟩ : ByteArray)] rfl (by (try simp only [List.map_toArray, List.map_cons, List.map_nil]); first | done | rfl | (simp only [List.length_drop, List.length_take]; rfl)) ?_; (with_reducible refine (errors_New.calls (⟨#[101, 120, 112, 114, 32, 115, 104, 111, 117, 108, 100, 32, 99, 111, 110, 116, 97, 105, 110, 32, 53, 45, 55, 32, 115, 101, 103, 109, 101, 110, 116, 115, 32, 115, 101, 112, 97, 114, 97, 116, 101, 100, 32, 98, 121, 32, 115, 112, 97, 99, 101]⟩ : ByteArray) t589 _ A8.out).mono ?_); rintro e w11 ⟨rfl, hb⟩; refine ⟨_, rfl, ?_⟩; have n0_ := Aside0.mk (Kd.R_below (by (with_reducible repeat (first | apply Kd.R_alloc | apply Kd.R_drewN | apply Kd.R_drew)); exact HO_4.out) hb); have n1_ := Aside0.mk (Kd.R_below (by (with_reducible repeat (first | apply Kd.R_alloc | apply Kd.R_drewN | apply Kd.R_drew)); exact HO588.out) hb); have n2_ := Aside0.mk (below_step (by repeat (with_reducible first | exact HB.out | apply below_alloc | apply pw_below_drewN | apply below_drew1)) hb); clear HO_4; clear HO588; clear HB; have HO_4 := n0_; have HO588 := n1_; have HB := n2_; clear n0_ n1_ n2_; (try clear hb); (try clear hb2); (try clear hk); (try clear hi); (try simp only [errW_none, errW_some])))
    go_ret2
    exact ⟨_, by first | rfl | (simp [errW_none, errW_some] <;> rfl) | (simp [*, errW_none, errW_some] <;> rfl), by (with_reducible repeat (first | apply Kd.R_alloc | apply Kd.R_drewN | apply Kd.R_drew)); exact Kd.R_mono HO588.out (fun _ hk => trivial), by repeat (with_reducible first | exact HB.out | apply below_alloc | apply pw_below_drewN | apply below_drew1)⟩
   case' b2_ =>
    replace c7 := Bool.eq_false_iff.mpr c7
    subst c7
    rw [if_neg (show ¬ (false = true) by decide)] at H
    refine (Classical.em ((t583.length : Int) = 5)).elim (fun c12 => ?a3_) (fun c12 => ?b3_)
   case' a3_ =>
    rw [if_pos c12] at H
    have c12b0 : ((t583.length : Int) == 5) = true := beq_iff_eq.mpr c12
    have c12b1 : ((t583.length : Int) != 5) = false := bne_eq_false_iff_eq.mpr c12
    clear c12
    obtain ⟨y590, hy590⟩ : ∃ y_ : List ByteArray, y_ = (([(⟨#[48]⟩ : ByteArray)] : List ByteArray)) := ⟨_, rfl⟩
    replace H : (if y590.length + t583.length < 8796093022208 then (some ((y590 ++ t583), none)) else (none)) = some (r1, r2) := by first | (rw [hy590]; with_reducible exact H) | (have H2_ := (Option.bind_some _ _).symm.trans H; rw [hy590]; with_reducible exact H2_) | (have H2_ := (Option.bind_some _ _).symm.trans H; with_reducible exact H2_) | with_reducible exact H | (rw [hy590]; exact H) | exact H
    have Ny590 := Aside0.mk hy590
    clear hy590
    refine (Classical.em (y590.length + t583.length < 8796093022208)).elim (fun c13 => ?a4_) (fun c13 => ?b4_)
   case a4_ =>
    rw [if_pos c13] at H
    have LMc13 := Aside0.mk c13
    clear c13
    obtain ⟨y593, hy593⟩ : ∃ y_ : List ByteArray, y_ = (y590 ++ t583) := ⟨_, rfl⟩
    replace H : (some (y593, none)) = some (r1, r2) := by first | (rw [hy593]; with_reducible exact H) | (have H2_ := (Option.bind_some _ _).symm.trans H; rw [hy593]; with_reducible exact H2_) | (have H2_ := (Option.bind_some _ _).symm.trans H; with_reducible exact H2_) | with_reducible exact H | (rw [hy593]; exact H) | exact H
    have Ny593 := Aside0.mk hy593
    clear hy593
    simp only [Option.some.injEq, Prod.mk.injEq] at H
    obtain ⟨rfl, rfl⟩ := H
    go_wp2_with (first | ((with_reducible refine gate_dst (N := 32) rfl ?_); refine Kd.R_lit Kd.string _ 9 ?hg (N := 32) ?hd (xs := ([(⟨#[48]⟩ : ByteArray)] : List ByteArray)) (inner := [.string (⟨#[48]⟩ : ByteArray)]) (ok := fun _ => True) (okp := fun _ => True) ?hr ?hp (fun _ hk => hk) trivial (Below.refl _ _) (Nat.le_refl _) (by simp) ?_; (case hd => rfl); (case hg => rfl); (case hr => first | (go_simp; done) | (go_simp; rfl)); (case hp => exact (Reps.one (show Kd.M Kd.string _ _ _ (⟨#[48]⟩ : ByteArray) [.string (⟨#[48]⟩ : ByteArray)] from rfl) (Reps.none _ _))); intro v591 w14 ho15 hb hg_ hnew_; clear hg_ hnew_; (first | rw [← Ny590.out] at ho15 | (simp only [Int.reduceToNat] at ho15; rw [← Ny590.out] at ho15)); have n0_ := Aside0.mk (Kd.R_elder' (by (with_reducible repeat (first | apply Kd.R_alloc | apply Kd.R_drewN | apply Kd.R_drew)); exact HO_4.out) (Kd.R_base ho15) hb); have n1_ := Aside0.mk (Kd.R_lower (Kd.R_new' ho15 (Kd.R_lt (by (with_reducible repeat (first | apply Kd.R_alloc | apply Kd.R_drewN | apply Kd.R_drew)); exact HO_4.out))) (below_size (by repeat (with_reducible first | exact HB.out | apply below_alloc | apply pw_below_drewN | apply below_drew1)))); have n2_ := Aside0.mk (below_step (by repeat (with_reducible first | exact HB.out | apply below_alloc | apply pw_below_drewN | apply below_drew1)) hb); clear HO_4; clear HB; have HO_4 := n0_; have HO592 := n1_; have HB := n2_; clear n0_ n1_ n2_; clear hb ho15) | ((with_reducible refine gate_builtin (b := .append) (xs := #[.tmp 32, .tmp 33]) rfl ?_); at_builtin; refine Kd.R_append_rows Kd.string (w0 := w) w.heap.size rfl (.tmp 32) (.tmp 33) 82 9 (.string ⟨#[]⟩) 16 rfl Tryz.underlying82 info9 rfl (by decide) (by omega) v591 y590 t583 _ _ _ (fun k_ => some k_ ≠ (.slice Ao5 t583.length co5 : Value).ownBlock) (fun _ => False) rfl rfl ?aO ?aR (fun _ _ h => h) (fun _ h => h.elim) ?aF ?aB ?aS ?aL ?_; (case aR => repeat (first | exact (Kd.R_reads' HO_4.out).2.2 | (with_reducible refine Kd.C_alloc ?_ _) | (with_reducible refine Kd.C_drewN ?_ _) | (with_reducible refine Kd.C_drew ?_))); (case aB => exact (by repeat (with_reducible first | exact HB.out | apply below_alloc | apply pw_below_drewN | apply below_drew1))); (case aF => exact (fun k_ hk => Kd.fresh' (Kd.R_lt (by (with_reducible repeat (first | apply Kd.R_alloc | apply Kd.R_drewN | apply Kd.R_drew)); exact HO_4.out)) k_ hk)); (case aO => exact (by (with_reducible repeat (first | apply Kd.R_alloc | apply Kd.R_drewN | apply Kd.R_drew)); exact Kd.R_mono HO592.out (fun _ hk => hk.2))); (case aS => exact (below_size (by repeat (with_reducible first | exact HB.out | apply below_alloc | apply pw_below_drewN | apply below_drew1)))); (case aL => have := LMc13.out; omega); intro v594 w16 ho hb hg hat; rw [← Ny593.out] at ho; have n0_ := Aside0.mk (Kd.R_after (ok := (fun _ => True)) (by (with_reducible repeat (first | apply Kd.R_alloc | apply Kd.R_drewN | apply Kd.R_drew)); exact HO_4.out) hg hat); have n1_ := Aside0.mk (hb); have n2_ := Aside0.mk (ho); clear HO_4; clear HB; clear HO592; have HO_4 := n0_; have HB := n1_; have HO595 := n2_; clear n0_ n1_ n2_; clear ho hb hg hat))
    go_ret2
    exact ⟨_, by first | rfl | (simp [errW_none, errW_some] <;> rfl) | (simp [*, errW_none, errW_some] <;> rfl), by (with_reducible repeat (first | apply Kd.R_alloc | apply Kd.R_drewN | apply Kd.R_drew)); exact Kd.R_mono HO595.out (fun _ hk => trivial), by repeat (with_reducible first | exact HB.out | apply below_alloc | apply pw_below_drewN | apply below_drew1)⟩
   case b4_ =>
    rw [if_neg c13] at H
    exact absurd H (by simp)
   case' b3_ =>
    rw [if_neg c12] at H
    have c12b0 : ((t583.length : Int) == 5) = false := beq_eq_false_iff_ne.mpr c12
    have c12b1 : ((t583.length : Int) != 5) = true := bne_iff_ne.mpr c12
    refine (Classical.em ((t583.length : Int) = 6)).elim (fun c17 => ?a5_) (fun c17 => ?b5_)
   case' a5_ =>
    rw [if_pos c17] at H
    have c17b0 : ((t583.length : Int) == 6) = true := beq_iff_eq.mpr c17
    have c17b1 : ((t583.length : Int) != 6) = false := bne_eq_false_iff_eq.mpr c17
    clear c17
    refine (Classical.em (5 < (t583.length : Int))).elim (fun c18 => ?a6_) (fun c18 => ?b6_)
   case' a6_ =>
    rw [if_pos c18] at H
    have c18b0 : decide (5 < (t583.length : Int)) = true := decide_eq_true c18
    have c18b1 : decide (5 < t583.length) = true := decide_eq_true (by omega)
    clear c18
    replace H := Option.bind_eq_some_iff.mp H
    obtain ⟨t597, A190, H⟩ := H
    try dsimp only at H
    have A19 := Aside0.mk A190
    clear A190
    refine (Classical.em (t597 = true)).elim (fun c20 => ?a7_) (fun c20 => ?b7_)
   case' a7_ =>
    subst c20
    rw [if_pos rfl] at H
    obtain ⟨y598, hy598⟩ : ∃ y_ : List ByteArray, y_ = (([(⟨#[48]⟩ : ByteArray)] : List ByteArray)) := ⟨_, rfl⟩
    replace H : (if y598.length + t583.length < 8796093022208 then (some ((y598 ++ t583), none)) else (none)) = some (r1, r2) := by first | (rw [hy598]; with_reducible exact H) | (have H2_ := (Option.bind_some _ _).symm.trans H; rw [hy598]; with_reducible exact H2_) | (have H2_ := (Option.bind_some _ _).symm.trans H; with_reducible exact H2_) | with_reducible exact H | (rw [hy598]; exact H) | exact H
    have Ny598 := Aside0.mk hy598
    clear hy598
    refine (Classical.em (y598.length + t583.length < 8796093022208)).elim (fun c21 => ?a8_) (fun c21 => ?b8_)
   case a8_ =>
    rw [if_pos c21] at H
    have LMc21 := Aside0.mk c21
    clear c21
    obtain ⟨y601, hy601⟩ : ∃ y_ : List ByteArray, y_ = (y598 ++ t583) := ⟨_, rfl⟩
    replace H : (some (y601, none)) = some (r1, r2) := by first | (rw [hy601]; with_reducible exact H) | (have H2_ := (Option.bind_some _ _).symm.trans H; rw [hy601]; with_reducible exact H2_) | (have H2_ := (Option.bind_some _ _).symm.trans H; with_reducible exact H2_) | with_reducible exact H | (rw [hy601]; exact H) | exact H
    have Ny601 := Aside0.mk hy601
    clear hy601
    simp only [Option.some.injEq, Prod.mk.injEq] at H
    obtain ⟨rfl, rfl⟩ := H
    have p596 : 0 ≤ (5 : Int) := (by omega)
    have q596 : 5 < (t583.length : Int) := of_decide_eq_true (by first | (with_reducible assumption) | assumption)
    obtain ⟨ad596, e596, hx596_0⟩ := Kd.at_string (Kd.R_reads' HO_4.out).2.2 5 p596 q596
    cases e596
    (try simp only [show (5 : Int).toNat = 5 from rfl, Nat.reduceMul, Nat.reduceEqDiff, Go.Addr.add, ↓reduceIte] at hx596_0)
    have qi596 : (5 < t583.length) = True := eq_true (by omega)
    (try rw [show ((5 : Int)).toNat = 5 from rfl] at hx596_0)
    replace p596 := eq_true p596
    replace q596 := eq_true q596
    go_wp2_with (first | (go_at_call 62; (with_reducible refine (gronx_zzHasYear.calls kj2 (rdOf ByteArray.empty t583 5) true _ A19.out).mono ?_); rintro e w' ⟨rfl, ⟨nd, rfl⟩⟩) | ((with_reducible refine gate_dst (N := 32) rfl ?_); refine Kd.R_lit Kd.string _ 9 ?hg (N := 32) ?hd (xs := ([(⟨#[48]⟩ : ByteArray)] : List ByteArray)) (inner := [.string (⟨#[48]⟩ : ByteArray)]) (ok := fun _ => True) (okp := fun _ => True) ?hr ?hp (fun _ hk => hk) trivial (Below.refl _ _) (Nat.le_refl _) (by simp) ?_; (case hd => rfl); (case hg => rfl); (case hr => first | (go_simp; done) | (go_simp; rfl)); (case hp => exact (Reps.one (show Kd.M Kd.string _ _ _ (⟨#[48]⟩ : ByteArray) [.string (⟨#[48]⟩ : ByteArray)] from rfl) (Reps.none _ _))); intro v599 w22 ho23 hb hg_ hnew_; clear hg_ hnew_; (first | rw [← Ny598.out] at ho23 | (simp only [Int.reduceToNat] at ho23; rw [← Ny598.out] at ho23)); have n0_ := Aside0.mk (Kd.R_elder' (by (with_reducible repeat (first | apply Kd.R_alloc | apply Kd.R_drewN | apply Kd.R_drew)); exact HO_4.out) (Kd.R_base ho23) hb); have n1_ := Aside0.mk (Kd.R_lower (Kd.R_new' ho23 (Kd.R_lt (by (with_reducible repeat (first | apply Kd.R_alloc | apply Kd.R_drewN | apply Kd.R_drew)); exact HO_4.out))) (below_size (by repeat (with_reducible first | exact HB.out | apply below_alloc | apply pw_below_drewN | apply below_drew1)))); have n2_ := Aside0.mk (below_step (by repeat (with_reducible first | exact HB.out | apply below_alloc | apply pw_below_drewN | apply below_drew1)) hb); clear HO_4; clear HB; have HO_4 := n0_; have HO600 := n1_; have HB := n2_; clear n0_ n1_ n2_; clear hb ho23) | ((with_reducible refine gate_builtin (b := .append) (xs := #[.tmp 32, .tmp 33]) rfl ?_); at_builtin; refine Kd.R_append_rows Kd.string (w0 := w) w.heap.size rfl (.tmp 32) (.tmp 33) 82 9 (.string ⟨#[]⟩) 16 rfl Tryz.underlying82 info9 rfl (by decide) (by omega) v599 y598 t583 _ _ _ (fun k_ => some k_ ≠ (.slice (some ad596) t583.length co5 : Value).ownBlock) (fun _ => False) rfl rfl ?aO ?aR (fun _ _ h => h) (fun _ h => h.elim) ?aF ?aB ?aS ?aL ?_; (case aR => repeat (first | exact (Kd.R_reads' HO_4.out).2.2 | (with_reducible refine Kd.C_alloc ?_ _) | (with_reducible refine Kd.C_drewN ?_ _) | (with_reducible refine Kd.C_drew ?_))); (case aB => exact (by repeat (with_reducible first | exact HB.out | apply below_alloc | apply pw_below_drewN | apply below_drew1))); (case aF => exact (fun k_ hk => Kd.fresh' (Kd.R_lt (by (with_reducible repeat (first | apply Kd.R_alloc | apply Kd.R_drewN | apply Kd.R_drew)); exact HO_4.out)) k_ hk)); (case aO => exact (by (with_reducible repeat (first | apply Kd.R_alloc | apply Kd.R_drewN | apply Kd.R_drew)); exact Kd.R_mono HO600.out (fun _ hk => hk.2))); (case aS => exact (below_size (by repeat (with_reducible first | exact HB.out | apply below_alloc | apply pw_below_drewN | apply below_drew1)))); (case aL => have := LMc21.out; omega); intro v602 w24 ho hb hg hat; rw [← Ny601.out] at ho; have n0_ := Aside0.mk (Kd.R_after (ok := (fun _ => True)) (by (with_reducible repeat (first | apply Kd.R_alloc | apply Kd.R_drewN | apply Kd.R_drew)); exact HO_4.out) hg hat); have n1_ := Aside0.mk (hb); have n2_ := Aside0.mk (ho); clear HO_4; clear HB; clear HO600; have HO_4 := n0_; have HB := n1_; have HO603 := n2_; clear n0_ n1_ n2_; clear ho hb hg hat))
    go_ret2
    exact ⟨_, by first | rfl | (simp [errW_none, errW_some] <;> rfl) | (simp [*, errW_none, errW_some] <;> rfl), by (with_reducible repeat (first | apply Kd.R_alloc | apply Kd.R_drewN | apply Kd.R_drew)); exact Kd.R_mono HO603.out (fun _ hk => trivial), by repeat (with_reducible first | exact HB.out | apply below_alloc | apply pw_below_drewN | apply below_drew1)⟩
   case b8_ =>
    rw [if_neg c21] at H
    exact absurd H (by simp)
   case b7_ =>
    replace c20 := Bool.eq_false_iff.mpr c20
    subst c20
    rw [if_neg (show ¬ (false = true) by decide)] at H
    simp only [Option.some.injEq, Prod.mk.injEq] at H
    obtain ⟨rfl, rfl⟩ := H
    have p596 : 0 ≤ (5 : Int) := (by omega)
    have q596 : 5 < (t583.length : Int) := of_decide_eq_true (by first | (with_reducible assumption) | assumption)
    obtain ⟨ad596, e596, hx596_0⟩ := Kd.at_string (Kd.R_reads' HO_4.out).2.2 5 p596 q596
    cases e596
    (try simp only [show (5 : Int).toNat = 5 from rfl, Nat.reduceMul, Nat.reduceEqDiff, Go.Addr.add, ↓reduceIte] at hx596_0)
    have qi596 : (5 < t583.length) = True := eq_true (by omega)
    (try rw [show ((5 : Int)).toNat = 5 from rfl] at hx596_0)
    replace p596 := eq_true p596
    replace q596 := eq_true q596
    go_wp2_with (first | (go_at_call 62; (with_reducible refine (gronx_zzHasYear.calls kj2 (rdOf ByteArray.empty t583 5) false _ A19.out).mono ?_); rintro e w' ⟨rfl, ⟨nd, rfl⟩⟩))
    go_ret2
    exact ⟨_, by first | rfl | (simp [errW_none, errW_some] <;> rfl) | (simp [*, errW_none, errW_some] <;> rfl), by (with_reducible repeat (first | apply Kd.R_alloc | apply Kd.R_drewN | apply Kd.R_drew)); exact HO_4.out, by repeat (with_reducible first | exact HB.out | apply below_alloc | apply pw_below_drewN | apply below_drew1)⟩
   case b6_ =>
    rw [if_neg c18] at H
    exact absurd H (by simp)
   case b5_ =>
    rw [if_neg c17] at H
    have c17b0 : ((t583.length : Int) == 6) = false := beq_eq_false_iff_ne.mpr c17
    have c17b1 : ((t583.length : Int) != 6) = true := bne_iff_ne.mpr c17
    simp only [Option.some.injEq, Prod.mk.injEq] at H
    obtain ⟨rfl, rfl⟩ := H
    go_wp2
    go_ret2
    exact ⟨_, by first | rfl | (simp [errW_none, errW_some] <;> rfl) | (simp [*, errW_none, errW_some] <;> rfl), by (with_reducible repeat (first | apply Kd.R_alloc | apply Kd.R_drewN | apply Kd.R_drew)); exact HO_4.out, by repeat (with_reducible first | exact HB.out | apply below_alloc | apply pw_below_drewN | apply below_drew1)⟩
/-- Numbers that bytes have. -/
def by8 (xs : List Int) : Prop := ∀ x ∈ xs, 0 ≤ x ∧ x ≤ 255
theorem by8_left {xs ys : List Int} (a : by8 (xs ++ ys)) : by8 xs := fun x h => a x (List.mem_append_left _ h)
theorem s_bytes (xs : List Int) (h : by8 xs) : bytesOf (strOfNums xs) = xs := by
  unfold bytesOf
  rw [strOfNums_data, List.map_map]
  conv => rhs; rw [← List.map_id xs]
  refine List.map_congr_left fun x hx => ?_
  have := h x hx
  show ((UInt8.ofNat x.toNat).toNat : Int) = x
  rw [UInt8.toNat_ofNat']
  omega
theorem s_bt (xs : List Int) (h : by8 xs) (i : Int) : bt (strOfNums xs) i = rd xs i := by rw [← rd_bytesOf, s_bytes xs h]
theorem s_inj {xs ys : List Int} (a : by8 xs) (b : by8 ys) (h : strOfNums xs = strOfNums ys) : xs = ys := by rw [← s_bytes xs a, h, s_bytes ys b]
theorem s_ext (xs : List Int) (i j : Nat) : (strOfNums xs).extract i j = strOfNums ((xs.take j).drop i) := by
  have e : ((strOfNums xs).extract i j).data.toList = (strOfNums ((xs.take j).drop i)).data.toList := by
    rw [ByteArray.data_extract, Array.toList_extract, strOfNums_data, strOfNums_data, List.map_drop, List.map_take]
    rw [List.extract_eq_take_drop, List.drop_take]
  have : ((strOfNums xs).extract i j).data = (strOfNums ((xs.take j).drop i)).data := Array.toList_inj.1 e
  exact congrArg ByteArray.mk this
theorem s_list (xs : List Int) : (strOfNums xs).toList = xs.map fun n => UInt8.ofNat n.toNat := by rw [Go.ByteArray.toList_eq]; rfl
theorem s_list_eq {xs ys : List Int} (a : by8 xs) (b : by8 ys) : (strOfNums xs).toList = (strOfNums ys).toList ↔ xs = ys := by
  refine ⟨fun h => ?_, fun h => by rw [h]⟩
  rw [Go.ByteArray.toList_eq, Go.ByteArray.toList_eq] at h
  exact s_inj a b (congrArg ByteArray.mk (Array.toList_inj.1 h))
theorem s_app (xs ys : List Int) : strOfNums xs ++ strOfNums ys = strOfNums (xs ++ ys) := by
  have e : (strOfNums xs ++ strOfNums ys).data = (strOfNums (xs ++ ys)).data := by
    rw [ByteArray.data_append]
    unfold strOfNums
    simp
  exact congrArg ByteArray.mk e
theorem w64' (x : Int) (h0 : 0 ≤ x + 9223372036854775808) (h1 : x ≤ 9223372036854775807) : wrap64 x = x := by unfold wrap64; omega
theorem ex_eq (xs : List Int) (i n : Nat) : (xs.take (i + n)).drop i = (xs.drop i).take n := by rw [List.drop_take, Nat.add_sub_cancel_left]
theorem idx_step (k : Nat) (xs p : List Int) (bx : by8 xs) (bp : by8 p) (i : Nat) (hi : i < 2000000) (hs : xs.length < 1000000) (hp : p.length < 1000) :
    gronx_zzIndex.l0 (k + 1) (strOfNums xs) (strOfNums p) (i : Int) = if (i : Int) + p.length ≤ xs.length then (if (xs.drop i).take p.length = p then some (i : Int) else gronx_zzIndex.l0 k (strOfNums xs) (strOfNums p) ((i + 1 : Nat) : Int)) else some (-1) := by
  rw [gronx_zzIndex.l0, strOfNums_size, strOfNums_size, w64' _ (by omega) (by omega)]
  by_cases c : (i : Int) + p.length ≤ xs.length
  · rw [if_pos c, if_pos c, if_pos (by omega), if_pos (by omega)]
    rw [show ((i : Int) + (p.length : Int)).toNat = i + p.length by omega, show ((i : Int)).toNat = i by omega, s_ext, ex_eq]
    by_cases e : (xs.drop i).take p.length = p
    · rw [e, if_pos rfl, if_pos rfl]
    · rw [if_neg e, if_neg (fun h => e ((s_list_eq (fun x hx => bx x (List.mem_of_mem_drop (List.mem_of_mem_take hx))) bp).1 h)), w64' _ (by omega) (by omega)]
      rfl
  · rw [if_neg c, if_neg c]
/-- Found at n. -/
theorem idx_found (xs p : List Int) (bx : by8 xs) (bp : by8 p) (hs : xs.length < 1000000) (hp : p.length < 1000) (n : Nat) (hn : n + p.length ≤ xs.length) (hf : (xs.drop n).take p.length = p) (hno : ∀ j, j < n → (xs.drop j).take p.length ≠ p) :
    ∀ (m i k : Nat), i + m = n → m < k → gronx_zzIndex.l0 k (strOfNums xs) (strOfNums p) (i : Int) = some (n : Int)
  | 0, i, 0, _, hk => by omega
  | 0, i, k + 1, hi, hk => by
    have : i = n := by omega
    subst this
    rw [idx_step k xs p bx bp i (by omega) hs hp, if_pos (by omega), if_pos hf]
  | m + 1, i, 0, hi, hk => by omega
  | m + 1, i, k + 1, hi, hk => by
    rw [idx_step k xs p bx bp i (by omega) hs hp, if_pos (by omega), if_neg (hno i (by omega))]
    exact idx_found xs p bx bp hs hp n hn hf hno m (i + 1) k (by omega) (by omega)
/-- Found nowhere. -/
theorem idx_none (xs p : List Int) (bx : by8 xs) (bp : by8 p) (hs : xs.length < 1000000) (hp : p.length < 1000) (hno : ∀ j, j + p.length ≤ xs.length → (xs.drop j).take p.length ≠ p) :
    ∀ (m i k : Nat), i + m = xs.length + 1 → m < k → gronx_zzIndex.l0 k (strOfNums xs) (strOfNums p) (i : Int) = some (-1)
  | m, i, 0, _, hk => by omega
  | 0, i, k + 1, hi, hk => by rw [idx_step k xs p bx bp i (by omega) hs hp, if_neg (by omega)]
  | m + 1, i, k + 1, hi, hk => by
    rw [idx_step k xs p bx bp i (by omega) hs hp]
    by_cases c : (i : Int) + p.length ≤ xs.length
    · rw [if_pos c, if_neg (hno i (by omega))]
      exact idx_none xs p bx bp hs hp hno m (i + 1) k (by omega) (by omega)
    · rw [if_neg c]
/-- One letter, not in a text. -/
theorem idx1_none (xs : List Int) (c : Int) (hc : 0 ≤ c ∧ c ≤ 255) (bx : by8 xs) (hs : xs.length < 1000000) (h : c ∉ xs) (k : Nat) (hk : xs.length + 1 < k) : gronx_zzIndex.f k (strOfNums xs) (strOfNums [c]) = some (-1) := by
  have bp : by8 [c] := fun x hx => by rw [List.mem_singleton] at hx; subst hx; exact hc
  refine idx_none xs [c] bx bp hs (by simp) (fun j hj e => h ?_) (xs.length + 1) 0 k (by omega) hk
  have : c ∈ (xs.drop j).take [c].length := by rw [e]; exact List.mem_singleton.2 rfl
  exact List.mem_of_mem_drop (List.mem_of_mem_take this)
/-- One letter, behind a text that has it not. -/
theorem idx1_found (xs ys : List Int) (c : Int) (bx : by8 (xs ++ c :: ys)) (hs : (xs ++ c :: ys).length < 1000000) (h : c ∉ xs) (k : Nat) (hk : xs.length < k) : gronx_zzIndex.f k (strOfNums (xs ++ c :: ys)) (strOfNums [c]) = some (xs.length : Int) := by
  have bp : by8 [c] := fun x hx => by rw [List.mem_singleton] at hx; subst hx; exact bx _ (List.mem_append_right _ List.mem_cons_self)
  refine idx_found (xs ++ c :: ys) [c] bx bp hs (by simp) xs.length (by simp) (by simp) (fun j hj e => h ?_) xs.length 0 k (by omega) hk
  rw [List.drop_append_of_le_length (by omega)] at e
  have hd : xs.drop j = xs[j] :: xs.drop (j + 1) := List.drop_eq_getElem_cons hj
  rw [hd] at e
  simp only [List.cons_append, List.length_singleton, List.take_succ_cons, List.take_zero, List.cons.injEq, and_true] at e
  rw [← e]
  exact List.getElem_mem hj
def joinC (c : Int) : List (List Int) → List Int
  | [] => []
  | [f] => f
  | f :: g :: fs => f ++ c :: joinC c (g :: fs)
theorem split_join (c : Int) (hc : 0 ≤ c ∧ c ≤ 255) : ∀ (fs : List (List Int)) (f : List Int) (acc : List ByteArray) (k : Nat), by8 (joinC c (f :: fs)) → (joinC c (f :: fs)).length < 100000 → (∀ g ∈ f :: fs, c ∉ g) → acc.length + fs.length < 100000 → (joinC c (f :: fs)).length + fs.length + 3 < k →
    gronx_zzSplit.l0 k (strOfNums (joinC c (f :: fs))) (strOfNums [c]) acc = some (acc ++ (f :: fs).map strOfNums)
  | [], f, acc, 0, _, _, _, _, hk => by omega
  | [], f, acc, k + 1, hb, hl, hno, ha, hk => by
    rw [gronx_zzSplit.l0]
    unfold joinC at hb hl hk ⊢
    rw [idx1_none f c hc hb (by omega) (hno f List.mem_cons_self) k (by omega), Option.bind_some, if_pos (by omega), if_pos (by omega)]
    rfl
  | g :: fs, f, acc, 0, _, _, _, _, hk => by omega
  | g :: fs, f, acc, k + 1, hb, hl, hno, ha, hk => by
    rw [gronx_zzSplit.l0]
    rw [show joinC c (f :: g :: fs) = f ++ c :: joinC c (g :: fs) from rfl] at hb hl hk ⊢
    have hlen : (f ++ c :: joinC c (g :: fs)).length = f.length + ((joinC c (g :: fs)).length + 1) := by rw [List.length_append, List.length_cons]
    rw [idx1_found f (joinC c (g :: fs)) c hb (by omega) (hno f List.mem_cons_self) k (by omega), Option.bind_some, if_neg (by omega), if_pos (by omega), strOfNums_size, strOfNums_size, if_pos (by omega), if_pos (by omega)]
    rw [List.length_singleton, w64' _ (by omega) (by omega), if_pos (by omega), if_pos (by omega)]
    rw [s_ext, s_ext, show ((f.length : Int)).toNat = f.length by omega, show ((f.length : Int) + ((1 : Nat) : Int)).toNat = f.length + 1 by omega, List.take_length]
    have e1 : (f ++ c :: joinC c (g :: fs)).drop (f.length + 1) = joinC c (g :: fs) := by
      rw [show f ++ c :: joinC c (g :: fs) = (f ++ [c]) ++ joinC c (g :: fs) by simp, List.drop_append_of_le_length (by simp), List.drop_eq_nil_of_le (by simp), List.nil_append]
    have e2 : ((f ++ c :: joinC c (g :: fs)).take f.length).drop 0 = f := by rw [List.drop_zero, List.take_append_of_le_length (by omega), List.take_length]
    rw [e1, e2]
    rw [split_join c hc fs g (acc ++ [strOfNums f]) k (fun x hx => hb x (List.mem_append_right _ (List.mem_cons_of_mem _ hx))) (by omega) (fun x hx => hno x (List.mem_cons_of_mem _ hx)) (by rw [List.length_append, List.length_singleton]; simp only [List.length_cons] at ha; omega) (by simp only [List.length_cons] at hk ⊢; omega)]
    simp
theorem zsplit (c : Int) (hc : 0 ≤ c ∧ c ≤ 255) (fs : List (List Int)) (f : List Int) (hb : by8 (joinC c (f :: fs))) (hl : (joinC c (f :: fs)).length < 100000) (hno : ∀ g ∈ f :: fs, c ∉ g) (ha : fs.length < 100000) (k : Nat) (hk : (joinC c (f :: fs)).length + fs.length + 3 < k) :
    gronx_zzSplit.f k (strOfNums (joinC c (f :: fs))) (strOfNums [c]) = some ((f :: fs).map strOfNums) := by
  have := split_join c hc fs f [] k hb hl hno (by simpa using ha) hk
  rw [List.nil_append] at this
  exact this
end Go.Proofs.YtjpcdkhapeejjaaGreatDoor.A
