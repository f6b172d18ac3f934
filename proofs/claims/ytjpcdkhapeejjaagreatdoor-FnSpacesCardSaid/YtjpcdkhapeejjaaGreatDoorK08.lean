/- Steps of the proof of the law: contracts of functions of the given program, and plain lemmas about what they compute.
Conditions: none beyond those that each theorem names. -/
import Derived.Test.YtjpcdkhapeejjaaGreatDoorK02
set_option linter.unusedVariables false
set_option linter.unusedSimpArgs false
open Go.RowKit Go.Proofs.YtjpcdkhapeejjaaGreatDoorW.PrintWords Go.Proofs.YtjpcdkhapeejjaaGreatDoorW.PrintLast Go.Proofs.YtjpcdkhapeejjaaGreatDoorW.PrintMore
namespace Go.Proofs.YtjpcdkhapeejjaaGreatDoor.A
mutual
def gronx_inStepRange.l0 : Nat → Int → Int → Int → Int → Option (Bool)
  | 0, _, _, _, _ => none
  | k + 1, x0, x2, x3, x9 => if x9 ≤ x2 then (gronx_inStepRange.j1 k x0 x2 x3 x9 (decide (x9 ≤ x0))) else (gronx_inStepRange.j1 k x0 x2 x3 x9 false)
def gronx_inStepRange.j1 : Nat → Int → Int → Int → Int → Bool → Option (Bool)
  | 0, _, _, _, _, _ => none
  | k + 1, x0, x2, x3, x9, x18 => if x18 = true then (if x9 = x0 then (some true) else (gronx_inStepRange.l0 k x0 x2 x3 (wrap64 (x9 + x3)))) else (some false)
end
def gronx_inStepRange.f (k : Nat) (a0 : Int) (a1 : Int) (a2 : Int) (a3 : Int) : Option (Bool) := gronx_inStepRange.l0 k a0 a2 a3 a1
set_option maxHeartbeats 8000000 in
set_option maxRecDepth 100000 in
theorem gronx_inStepRange.calls (k : Nat) (a0 : Int) (a1 : Int) (a2 : Int) (a3 : Int) (r : Bool) (w : World) (h : gronx_inStepRange.f k a0 a1 a2 a3 = some r) :
    Calls Tryz.prog 216 #[.int .i64 a0, .int .i64 a1, .int .i64 a2, .int .i64 a3] w fun e w' => e = .returned (.bool r) ∧ Drawn0 w w' := by
 have H : (gronx_inStepRange.l0 k a0 a2 a3 a1) = some r := h
 clear h
 have H' := Aside0.mk H
 clear H
 go_enter Tryz.func216, Tryz.ntmps216
 go_wp2
 go_loopg [9] k (fun kq v9 w' => ∃ (x9_1 : Int), v9 = .int .i64 x9_1 ∧ Aside0 (gronx_inStepRange.l0 kq a0 a2 a3 x9_1 = some r) ∧ Aside0 (kq ≤ k) ∧ Drawn0 w w')
 case atStart => exact ⟨(a1), (by first | rfl | (simp; done) | (simp [*]; done)), H', ⟨Nat.le_refl _⟩, by repeat (first | exact Drawn0.refl _ | apply Drawn0.step)⟩
 case round =>
  clear H'
  obtain ⟨x9_1, rfl, HA, HK1, ⟨m1, rfl⟩⟩ := hrel
  cases gk with
  | zero => exact absurd HA.out (by simp [gronx_inStepRange.l0])
  | succ k1 =>
   have H := HA.out
   clear HA
   simp only [gronx_inStepRange.l0] at H
   have HC5 := Aside0.mk H
   clear H
   go_upto_region 2 with (fail)
   go_cut [18] (fun v18 wc => ∃ (kq : Nat) (x18_4 : Bool), v18 = .bool x18_4 ∧ Aside0 (gronx_inStepRange.j1 kq a0 a2 a3 x9_1 x18_4 = some r) ∧ Aside0 (kq ≤ k1) ∧ Drawn0 w wc)
   case first =>
    have H := HC5.out
    clear HC5
    refine (Classical.em (x9_1 ≤ a2)).elim (fun c6 => ?a1_) (fun c6 => ?b1_)
    case a1_ =>
     rw [if_pos c6] at H
     have c6b0 : decide (x9_1 ≤ a2) = true := decide_eq_true c6
     clear c6
     (first | rw [c6b0] | (simp only [i64_w, i32_w]; rw [c6b0]) | skip)
     have H' := Aside0.mk H
     clear H
     go_wp2
     go_meet
     case rel => exact ⟨_, (decide (x9_1 ≤ a0)), (by first | rfl | (simp; done) | (simp [*]; done)), H', ⟨by have := HK1.out; first | omega | exact Nat.le_refl _⟩, by repeat (first | exact Drawn0.refl _ | apply Drawn0.step)⟩
    case b1_ =>
     rw [if_neg c6] at H
     have c6b0 : decide (x9_1 ≤ a2) = false := decide_eq_false c6
     clear c6
     (first | rw [c6b0] | (simp only [i64_w, i32_w]; rw [c6b0]) | skip)
     have H' := Aside0.mk H
     clear H
     go_wp2
     go_meet
     case rel => exact ⟨_, (false), (by first | rfl | (simp; done) | (simp [*]; done)), H', ⟨by have := HK1.out; first | omega | exact Nat.le_refl _⟩, by repeat (first | exact Drawn0.refl _ | apply Drawn0.step)⟩
   case rest =>
    clear HC5
    try clear c6
    try clear c6b0
    obtain ⟨kq, x18_4, rfl, HA, HJ4, ⟨mc4, rfl⟩⟩ := hcut
    cases kq with
    | zero => exact absurd HA.out (by simp [gronx_inStepRange.j1])
    | succ kj4 =>
     have H := HA.out
     clear HA
     simp only [gronx_inStepRange.j1] at H
     refine (Classical.em (x18_4 = true)).elim (fun c7 => ?a2_) (fun c7 => ?b2_)
     case' a2_ =>
      subst c7
      rw [if_pos rfl] at H
      refine (Classical.em (x9_1 = a0)).elim (fun c8 => ?a3_) (fun c8 => ?b3_)
     case' a3_ =>
      rw [if_pos c8] at H
      have c8b0 : (x9_1 == a0) = true := beq_iff_eq.mpr c8
      have c8b1 : (x9_1 != a0) = false := bne_eq_false_iff_eq.mpr c8
      clear c8
      obtain rfl := Option.some.inj H
     case b3_ =>
      rw [if_neg c8] at H
      have c8b0 : (x9_1 == a0) = false := beq_eq_false_iff_ne.mpr c8
      have c8b1 : (x9_1 != a0) = true := bne_iff_ne.mpr c8
      have H' := Aside0.mk H
      clear H
      go_wp2
      go_roundg kj4
      case measure => have := HK1.out; have := HJ4.out; omega
      case rel => exact ⟨(wrap64 (x9_1 + a3)), (by first | rfl | (simp; done) | (simp [*]; done)), H', ⟨by have := HK1.out; have := HJ4.out; omega⟩, by repeat (first | exact Drawn0.refl _ | apply Drawn0.step)⟩
     case' b2_ =>
      replace c7 := Bool.eq_false_iff.mpr c7
      subst c7
      rw [if_neg (show ¬ (false = true) by decide)] at H
      obtain rfl := Option.some.inj H
     case a3_ | b2_ =>
      go_wp2
      go_ret
      exact ⟨by first | rfl | (simp; done) | (simp [*]; done), by repeat (first | exact Drawn0.refl _ | apply Drawn0.step)⟩
end Go.Proofs.YtjpcdkhapeejjaaGreatDoor.A
