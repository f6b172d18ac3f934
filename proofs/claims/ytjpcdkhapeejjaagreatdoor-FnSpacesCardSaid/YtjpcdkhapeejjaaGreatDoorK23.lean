/- Steps of the proof of the law: contracts of functions of the given program, and plain lemmas about what they compute.
Conditions: none beyond those that each theorem names. -/
import Derived.Test.YtjpcdkhapeejjaaGreatDoorK02
set_option linter.unusedVariables false
set_option linter.unusedSimpArgs false
open Go.RowKit Go.Proofs.YtjpcdkhapeejjaaGreatDoorW.PrintWords Go.Proofs.YtjpcdkhapeejjaaGreatDoorW.PrintLast Go.Proofs.YtjpcdkhapeejjaaGreatDoorW.PrintMore
namespace Go.Proofs.YtjpcdkhapeejjaaGreatDoor.A
mutual
def gronx_zzTrim.j1 : Nat → ByteArray → Option (ByteArray)
  | 0, _ => none
  | k + 1, x0 => gronx_zzTrim.l1 k x0
def gronx_zzTrim.l1 : Nat → ByteArray → Option (ByteArray)
  | 0, _ => none
  | k + 1, x0 => if (x0.size : Int) > 0 then (if 0 ≤ (wrap64 ((x0.size : Int) - 1)) then (if (wrap64 ((x0.size : Int) - 1)) < (x0.size : Int) then (if (bt x0 (wrap64 ((x0.size : Int) - 1))) = 32 then (if (wrap64 ((x0.size : Int) - 1)) ≤ (x0.size : Int) then (gronx_zzTrim.l1 k (x0.extract 0 ((wrap64 ((x0.size : Int) - 1)) : Int).toNat)) else (none)) else (if (bt x0 (wrap64 ((x0.size : Int) - 1))) = 9 then (if (wrap64 ((x0.size : Int) - 1)) ≤ (x0.size : Int) then (gronx_zzTrim.l1 k (x0.extract 0 ((wrap64 ((x0.size : Int) - 1)) : Int).toNat)) else (none)) else (some x0))) else (none)) else (none)) else (some x0)
def gronx_zzTrim.l0 : Nat → ByteArray → Option (ByteArray)
  | 0, _ => none
  | k + 1, x0 => if (x0.size : Int) > 0 then (if 0 < (x0.size : Int) then (if (bt x0 0) = 32 then (if 1 ≤ (x0.size : Int) then (gronx_zzTrim.l0 k (x0.extract 1 x0.size)) else (none)) else (if (bt x0 0) = 9 then (if 1 ≤ (x0.size : Int) then (gronx_zzTrim.l0 k (x0.extract 1 x0.size)) else (none)) else (gronx_zzTrim.j1 k x0))) else (none)) else (gronx_zzTrim.j1 k x0)
end
def gronx_zzTrim.f (k : Nat) (a0 : ByteArray) : Option (ByteArray) := gronx_zzTrim.l0 k a0
set_option maxHeartbeats 8000000 in
set_option maxRecDepth 100000 in
theorem gronx_zzTrim.calls (k : Nat) (a0 : ByteArray) (r : ByteArray) (w : World) (h : gronx_zzTrim.f k a0 = some r) :
    Calls Tryz.prog 85 #[.string a0] w fun e w' => e = .returned (.string r) ∧ Drawn0 w w' := by
 have H : (gronx_zzTrim.l0 k a0) = some r := h
 clear h
 have HC2 := Aside0.mk H
 clear H
 go_enter Tryz.func85, Tryz.ntmps85
 go_upto_block 0 with (fail)
 go_cut [0] (fun v0 wc => ∃ (kq : Nat) (x0_1 : ByteArray), v0 = .string x0_1 ∧ Aside0 (gronx_zzTrim.j1 kq x0_1 = some r) ∧ Aside0 (kq ≤ k) ∧ Drawn0 w wc)
 case first =>
  have H := HC2.out
  clear HC2
  have H' := Aside0.mk H
  clear H
  go_wp2
  go_loopg [0] k (fun kq v0 w' => ∃ (x0_1 : ByteArray), v0 = .string x0_1 ∧ Aside0 (gronx_zzTrim.l0 kq x0_1 = some r) ∧ Aside0 (kq ≤ k) ∧ Drawn0 w w')
  case atStart => exact ⟨(a0), (by first | rfl | (simp; done) | (simp [*]; done)), H', ⟨Nat.le_refl _⟩, by repeat (first | exact Drawn0.refl _ | apply Drawn0.step)⟩
  case round =>
   clear H'
   obtain ⟨x0_1, rfl, HA, HK1, ⟨m1, rfl⟩⟩ := hrel
   cases gk with
   | zero => exact absurd HA.out (by simp [gronx_zzTrim.l0])
   | succ k1 =>
    have H := HA.out
    clear HA
    simp only [gronx_zzTrim.l0] at H
    refine (Classical.em ((x0_1.size : Int) > 0)).elim (fun c3 => ?a1_) (fun c3 => ?b1_)
    case' a1_ =>
     rw [if_pos c3] at H
     have c3b0 : decide (0 < (x0_1.size : Int)) = true := decide_eq_true c3
     have c3b1 : decide (0 < x0_1.size) = true := decide_eq_true (by omega)
     clear c3
     (first | rw [c3b0] | (simp only [i64_w, i32_w]; rw [c3b0]) | skip)
     refine (Classical.em (0 < (x0_1.size : Int))).elim (fun c4 => ?a2_) (fun c4 => ?b2_)
    case' a2_ =>
     rw [if_pos c4] at H
     have c4b0 : decide (0 < (x0_1.size : Int)) = true := decide_eq_true c4
     have c4b1 : decide (0 < x0_1.size) = true := decide_eq_true (by omega)
     clear c4
     refine (Classical.em ((bt x0_1 0) = 32)).elim (fun c6 => ?a3_) (fun c6 => ?b3_)
    case' a3_ =>
     rw [if_pos c6] at H
     have c6b0 : ((bt x0_1 0) == 32) = true := beq_iff_eq.mpr c6
     have c6b1 : ((bt x0_1 0) != 32) = false := bne_eq_false_iff_eq.mpr c6
     clear c6
     refine (Classical.em (1 ≤ (x0_1.size : Int))).elim (fun c7 => ?a4_) (fun c7 => ?b4_)
    case a4_ =>
     rw [if_pos c7] at H
     have c7b0 := eq_true c7
     have c7b1 : decide (1 ≤ (x0_1.size : Int)) = true := decide_eq_true c7
     clear c7
     have H' := Aside0.mk H
     clear H
     have p5 : 0 ≤ (0 : Int) := (by omega)
     have q5 : 0 < x0_1.size := (by have : (0 : Int) < (x0_1.size : Int) := of_decide_eq_true (by first | (with_reducible assumption) | assumption); omega)
     have hx5 : ∀ h : 0 < x0_1.size, ((x0_1[0]'h).toNat : Int) = bt x0_1 0 := bt_at x0_1 0
     clear p5
     have qi5 : (0 < (x0_1.size : Int)) = True := eq_true (of_decide_eq_true (by first | (with_reducible assumption) | assumption))
     replace q5 := eq_true q5
     go_wp2
     go_roundg k1
     case measure => have := HK1.out; omega
     case rel => exact ⟨(x0_1.extract 1 x0_1.size), (by first | rfl | (simp; done) | (simp [*]; done)), H', ⟨by have := HK1.out; omega⟩, by repeat (first | exact Drawn0.refl _ | apply Drawn0.step)⟩
    case b4_ =>
     rw [if_neg c7] at H
     exact absurd H (by simp)
    case' b3_ =>
     rw [if_neg c6] at H
     have c6b0 : ((bt x0_1 0) == 32) = false := beq_eq_false_iff_ne.mpr c6
     have c6b1 : ((bt x0_1 0) != 32) = true := bne_iff_ne.mpr c6
     refine (Classical.em ((bt x0_1 0) = 9)).elim (fun c9 => ?a5_) (fun c9 => ?b5_)
    case' a5_ =>
     rw [if_pos c9] at H
     have c9b0 : ((bt x0_1 0) == 9) = true := beq_iff_eq.mpr c9
     have c9b1 : ((bt x0_1 0) != 9) = false := bne_eq_false_iff_eq.mpr c9
     clear c9
     refine (Classical.em (1 ≤ (x0_1.size : Int))).elim (fun c10 => ?a6_) (fun c10 => ?b6_)
    case a6_ =>
     rw [if_pos c10] at H
     have c10b0 := eq_true c10
     have c10b1 : decide (1 ≤ (x0_1.size : Int)) = true := decide_eq_true c10
     clear c10
     have H' := Aside0.mk H
     clear H
     have p5 : 0 ≤ (0 : Int) := (by omega)
     have q5 : 0 < x0_1.size := (by have : (0 : Int) < (x0_1.size : Int) := of_decide_eq_true (by first | (with_reducible assumption) | assumption); omega)
     have hx5 : ∀ h : 0 < x0_1.size, ((x0_1[0]'h).toNat : Int) = bt x0_1 0 := bt_at x0_1 0
     clear p5
     have qi5 : (0 < (x0_1.size : Int)) = True := eq_true (of_decide_eq_true (by first | (with_reducible assumption) | assumption))
     replace q5 := eq_true q5
     have p8 : 0 ≤ (0 : Int) := (by omega)
     have q8 : 0 < x0_1.size := (by have : (0 : Int) < (x0_1.size : Int) := of_decide_eq_true (by first | (with_reducible assumption) | assumption); omega)
     have hx8 : ∀ h : 0 < x0_1.size, ((x0_1[0]'h).toNat : Int) = bt x0_1 0 := bt_at x0_1 0
     clear p8
     have qi8 : (0 < (x0_1.size : Int)) = True := eq_true (of_decide_eq_true (by first | (with_reducible assumption) | assumption))
     replace q8 := eq_true q8
     go_wp2
     go_roundg k1
     case measure => have := HK1.out; omega
     case rel => exact ⟨(x0_1.extract 1 x0_1.size), (by first | rfl | (simp; done) | (simp [*]; done)), H', ⟨by have := HK1.out; omega⟩, by repeat (first | exact Drawn0.refl _ | apply Drawn0.step)⟩
    case b6_ =>
     rw [if_neg c10] at H
     exact absurd H (by simp)
    case b5_ =>
     rw [if_neg c9] at H
     have c9b0 : ((bt x0_1 0) == 9) = false := beq_eq_false_iff_ne.mpr c9
     have c9b1 : ((bt x0_1 0) != 9) = true := bne_iff_ne.mpr c9
     have H' := Aside0.mk H
     clear H
     have p5 : 0 ≤ (0 : Int) := (by omega)
     have q5 : 0 < x0_1.size := (by have : (0 : Int) < (x0_1.size : Int) := of_decide_eq_true (by first | (with_reducible assumption) | assumption); omega)
     have hx5 : ∀ h : 0 < x0_1.size, ((x0_1[0]'h).toNat : Int) = bt x0_1 0 := bt_at x0_1 0
     clear p5
     have qi5 : (0 < (x0_1.size : Int)) = True := eq_true (of_decide_eq_true (by first | (with_reducible assumption) | assumption))
     replace q5 := eq_true q5
     have p8 : 0 ≤ (0 : Int) := (by omega)
     have q8 : 0 < x0_1.size := (by have : (0 : Int) < (x0_1.size : Int) := of_decide_eq_true (by first | (with_reducible assumption) | assumption); omega)
     have hx8 : ∀ h : 0 < x0_1.size, ((x0_1[0]'h).toNat : Int) = bt x0_1 0 := bt_at x0_1 0
     clear p8
     have qi8 : (0 < (x0_1.size : Int)) = True := eq_true (of_decide_eq_true (by first | (with_reducible assumption) | assumption))
     replace q8 := eq_true q8
     go_wp2
     go_meet
     case rel => exact ⟨_, (x0_1), (by first | rfl | (simp; done) | (simp [*]; done)), H', ⟨by have := HK1.out; first | omega | exact Nat.le_refl _⟩, by repeat (first | exact Drawn0.refl _ | apply Drawn0.step)⟩
    case b2_ =>
     rw [if_neg c4] at H
     exact absurd H (by simp)
    case b1_ =>
     rw [if_neg c3] at H
     have c3b0 : decide (0 < (x0_1.size : Int)) = false := decide_eq_false c3
     have c3b1 : decide (0 < x0_1.size) = false := decide_eq_false (by omega)
     clear c3
     (first | rw [c3b0] | (simp only [i64_w, i32_w]; rw [c3b0]) | skip)
     have H' := Aside0.mk H
     clear H
     go_wp2
     go_meet
     case rel => exact ⟨_, (x0_1), (by first | rfl | (simp; done) | (simp [*]; done)), H', ⟨by have := HK1.out; first | omega | exact Nat.le_refl _⟩, by repeat (first | exact Drawn0.refl _ | apply Drawn0.step)⟩
 case rest =>
  clear HC2
  try clear c3
  try clear c3b0
  try clear c3b1
  try clear c4
  try clear c4b0
  try clear c4b1
  try clear p5
  try clear q5
  try clear hx5
  try clear qi5
  try clear c6
  try clear c6b0
  try clear c6b1
  try clear c7
  try clear c7b0
  try clear c7b1
  try clear p8
  try clear q8
  try clear hx8
  try clear qi8
  try clear c9
  try clear c9b0
  try clear c9b1
  try clear c10
  try clear c10b0
  try clear c10b1
  try clear p5
  try clear p8
  try clear q5
  try clear q8
  obtain ⟨kq, x0_1, rfl, HA, HJ1, ⟨mc1, rfl⟩⟩ := hcut
  cases kq with
  | zero => exact absurd HA.out (by simp [gronx_zzTrim.j1])
  | succ kj1 =>
   have H := HA.out
   clear HA
   simp only [gronx_zzTrim.j1] at H
   have H' := Aside0.mk H
   clear H
   go_wp2
   go_loopg [0] kj1 (fun kq v0 w' => ∃ (x0_2 : ByteArray), v0 = .string x0_2 ∧ Aside0 (gronx_zzTrim.l1 kq x0_2 = some r) ∧ Aside0 (kq ≤ kj1) ∧ Drawn0 w w')
   case atStart => exact ⟨(x0_1), (by first | rfl | (simp; done) | (simp [*]; done)), H', ⟨Nat.le_refl _⟩, by repeat (first | exact Drawn0.refl _ | apply Drawn0.step)⟩
   case round =>
    clear H'
    try clear c3
    try clear c3b0
    try clear c3b1
    try clear c4
    try clear c4b0
    try clear c4b1
    try clear p5
    try clear q5
    try clear hx5
    try clear qi5
    try clear c6
    try clear c6b0
    try clear c6b1
    try clear c7
    try clear c7b0
    try clear c7b1
    try clear p8
    try clear q8
    try clear hx8
    try clear qi8
    try clear c9
    try clear c9b0
    try clear c9b1
    try clear c10
    try clear c10b0
    try clear c10b1
    try clear p5
    try clear p8
    try clear q5
    try clear q8
    obtain ⟨x0_2, rfl, HA, HK2, ⟨m2, rfl⟩⟩ := hrel
    cases gk with
    | zero => exact absurd HA.out (by simp [gronx_zzTrim.l1])
    | succ k2 =>
     have H := HA.out
     clear HA
     simp only [gronx_zzTrim.l1] at H
     refine (Classical.em ((x0_2.size : Int) > 0)).elim (fun c11 => ?a7_) (fun c11 => ?b7_)
     case' a7_ =>
      rw [if_pos c11] at H
      have c11b0 : decide (0 < (x0_2.size : Int)) = true := decide_eq_true c11
      have c11b1 : decide (0 < x0_2.size) = true := decide_eq_true (by omega)
      clear c11
      obtain ⟨ji12, hji12⟩ : ∃ j_ : Int, (wrap64 ((x0_2.size : Int) - 1)) = j_ := ⟨_, rfl⟩
      replace H : (if 0 ≤ (ji12) then (if (ji12) < (x0_2.size : Int) then (if (bt x0_2 (ji12)) = 32 then (if (ji12) ≤ (x0_2.size : Int) then (gronx_zzTrim.l1 k2 (x0_2.extract 0 ((ji12) : Int).toNat)) else (none)) else (if (bt x0_2 (ji12)) = 9 then (if (ji12) ≤ (x0_2.size : Int) then (gronx_zzTrim.l1 k2 (x0_2.extract 0 ((ji12) : Int).toNat)) else (none)) else (some x0_2))) else (none)) else (none)) = some r := by first | (rw [hji12] at H; exact H) | (simp only [hji12] at H ⊢; exact H)
      have hji12w : (IntKind.i64.wrap ((x0_2.size : Int) - 1)) = ji12 := (i64_w _).trans hji12
      refine (Classical.em (0 ≤ (ji12))).elim (fun c13 => ?a8_) (fun c13 => ?b8_)
     case' a8_ =>
      rw [if_pos c13] at H
      have c13b0 : decide (0 ≤ (ji12)) = true := decide_eq_true c13
      clear c13
      refine (Classical.em ((ji12) < (x0_2.size : Int))).elim (fun c14 => ?a9_) (fun c14 => ?b9_)
     case' a9_ =>
      rw [if_pos c14] at H
      have c14b0 : decide ((ji12) < (x0_2.size : Int)) = true := decide_eq_true c14
      clear c14
      refine (Classical.em ((bt x0_2 (ji12)) = 32)).elim (fun c16 => ?a10_) (fun c16 => ?b10_)
     case' a10_ =>
      rw [if_pos c16] at H
      have c16b0 : ((bt x0_2 (ji12)) == 32) = true := beq_iff_eq.mpr c16
      have c16b1 : ((bt x0_2 (ji12)) != 32) = false := bne_eq_false_iff_eq.mpr c16
      clear c16
      have c17b0 := eq_true (of_decide_eq_true (by first | (with_reducible assumption) | assumption) : 0 ≤ (ji12))
      refine (Classical.em ((ji12) ≤ (x0_2.size : Int))).elim (fun c18 => ?a11_) (fun c18 => ?b11_)
     case a11_ =>
      rw [if_pos c18] at H
      have c18b0 := eq_true c18
      have c18b1 : decide ((ji12) ≤ (x0_2.size : Int)) = true := decide_eq_true c18
      clear c18
      have H' := Aside0.mk H
      clear H
      have p15 : 0 ≤ ((ji12) : Int) := of_decide_eq_true (by first | (with_reducible assumption) | assumption)
      have q15 : (ji12) < (x0_2.size : Int) := of_decide_eq_true (by first | (with_reducible assumption) | assumption)
      have hx15 := bt_at x0_2 (ji12)
      replace p15 := eq_true p15
      replace q15 := eq_true q15
      go_wp2
      go_roundg k2
      case measure => have := HJ1.out; have := HK2.out; omega
      case rel => exact ⟨(x0_2.extract 0 ((ji12) : Int).toNat), (by first | rfl | (simp; done) | (simp only [← hji12] <;> (first | rfl | simp)) | (simp [*]; done)), H', ⟨by have := HJ1.out; have := HK2.out; omega⟩, by repeat (first | exact Drawn0.refl _ | apply Drawn0.step)⟩
     case b11_ =>
      rw [if_neg c18] at H
      exact absurd H (by simp)
     case' b10_ =>
      rw [if_neg c16] at H
      have c16b0 : ((bt x0_2 (ji12)) == 32) = false := beq_eq_false_iff_ne.mpr c16
      have c16b1 : ((bt x0_2 (ji12)) != 32) = true := bne_iff_ne.mpr c16
      refine (Classical.em ((bt x0_2 (ji12)) = 9)).elim (fun c20 => ?a12_) (fun c20 => ?b12_)
     case' a12_ =>
      rw [if_pos c20] at H
      have c20b0 : ((bt x0_2 (ji12)) == 9) = true := beq_iff_eq.mpr c20
      have c20b1 : ((bt x0_2 (ji12)) != 9) = false := bne_eq_false_iff_eq.mpr c20
      clear c20
      have c21b0 := eq_true (of_decide_eq_true (by first | (with_reducible assumption) | assumption) : 0 ≤ (ji12))
      refine (Classical.em ((ji12) ≤ (x0_2.size : Int))).elim (fun c22 => ?a13_) (fun c22 => ?b13_)
     case a13_ =>
      rw [if_pos c22] at H
      have c22b0 := eq_true c22
      have c22b1 : decide ((ji12) ≤ (x0_2.size : Int)) = true := decide_eq_true c22
      clear c22
      have H' := Aside0.mk H
      clear H
      have p15 : 0 ≤ ((ji12) : Int) := of_decide_eq_true (by first | (with_reducible assumption) | assumption)
      have q15 : (ji12) < (x0_2.size : Int) := of_decide_eq_true (by first | (with_reducible assumption) | assumption)
      have hx15 := bt_at x0_2 (ji12)
      replace p15 := eq_true p15
      replace q15 := eq_true q15
      have p19 : 0 ≤ ((ji12) : Int) := of_decide_eq_true (by first | (with_reducible assumption) | assumption)
      have q19 : (ji12) < (x0_2.size : Int) := of_decide_eq_true (by first | (with_reducible assumption) | assumption)
      have hx19 := bt_at x0_2 (ji12)
      replace p19 := eq_true p19
      replace q19 := eq_true q19
      go_wp2
      go_roundg k2
      case measure => have := HJ1.out; have := HK2.out; omega
      case rel => exact ⟨(x0_2.extract 0 ((ji12) : Int).toNat), (by first | rfl | (simp; done) | (simp only [← hji12] <;> (first | rfl | simp)) | (simp [*]; done)), H', ⟨by have := HJ1.out; have := HK2.out; omega⟩, by repeat (first | exact Drawn0.refl _ | apply Drawn0.step)⟩
     case b13_ =>
      rw [if_neg c22] at H
      exact absurd H (by simp)
     case b12_ =>
      rw [if_neg c20] at H
      have c20b0 : ((bt x0_2 (ji12)) == 9) = false := beq_eq_false_iff_ne.mpr c20
      have c20b1 : ((bt x0_2 (ji12)) != 9) = true := bne_iff_ne.mpr c20
      obtain rfl := Option.some.inj H
      have p15 : 0 ≤ ((ji12) : Int) := of_decide_eq_true (by first | (with_reducible assumption) | assumption)
      have q15 : (ji12) < (x0_2.size : Int) := of_decide_eq_true (by first | (with_reducible assumption) | assumption)
      have hx15 := bt_at x0_2 (ji12)
      replace p15 := eq_true p15
      replace q15 := eq_true q15
      have p19 : 0 ≤ ((ji12) : Int) := of_decide_eq_true (by first | (with_reducible assumption) | assumption)
      have q19 : (ji12) < (x0_2.size : Int) := of_decide_eq_true (by first | (with_reducible assumption) | assumption)
      have hx19 := bt_at x0_2 (ji12)
      replace p19 := eq_true p19
      replace q19 := eq_true q19
      go_wp2
      go_ret
      exact ⟨by first | rfl | (simp; done) | (simp only [← hji12] <;> (first | rfl | simp)) | (simp [*]; done), by repeat (first | exact Drawn0.refl _ | apply Drawn0.step)⟩
     case b9_ =>
      rw [if_neg c14] at H
      exact absurd H (by simp)
     case b8_ =>
      rw [if_neg c13] at H
      exact absurd H (by simp)
     case b7_ =>
      rw [if_neg c11] at H
      have c11b0 : decide (0 < (x0_2.size : Int)) = false := decide_eq_false c11
      have c11b1 : decide (0 < x0_2.size) = false := decide_eq_false (by omega)
      clear c11
      obtain rfl := Option.some.inj H
      go_wp2
      go_ret
      exact ⟨by first | rfl | (simp; done) | (simp [*]; done), by repeat (first | exact Drawn0.refl _ | apply Drawn0.step)⟩
def gronx_expression.f (a0 : ByteArray) : Option (ByteArray × Bool) := if a0.toList = ([64, 121, 101, 97, 114, 108, 121] : List UInt8) then (some ((⟨#[48, 32, 48, 32, 49, 32, 49, 32, 42]⟩ : ByteArray), true)) else (if a0.toList = ([64, 97, 110, 110, 117, 97, 108, 108, 121] : List UInt8) then (some ((⟨#[48, 32, 48, 32, 49, 32, 49, 32, 42]⟩ : ByteArray), true)) else (if a0.toList = ([64, 109, 111, 110, 116, 104, 108, 121] : List UInt8) then (some ((⟨#[48, 32, 48, 32, 49, 32, 42, 32, 42]⟩ : ByteArray), true)) else (if a0.toList = ([64, 119, 101, 101, 107, 108, 121] : List UInt8) then (some ((⟨#[48, 32, 48, 32, 42, 32, 42, 32, 48]⟩ : ByteArray), true)) else (if a0.toList = ([64, 100, 97, 105, 108, 121] : List UInt8) then (some ((⟨#[48, 32, 48, 32, 42, 32, 42, 32, 42]⟩ : ByteArray), true)) else (if a0.toList = ([64, 104, 111, 117, 114, 108, 121] : List UInt8) then (some ((⟨#[48, 32, 42, 32, 42, 32, 42, 32, 42]⟩ : ByteArray), true)) else (if a0.toList = ([64, 97, 108, 119, 97, 121, 115] : List UInt8) then (some ((⟨#[42, 32, 42, 32, 42, 32, 42, 32, 42]⟩ : ByteArray), true)) else (if a0.toList = ([64, 53, 109, 105, 110, 117, 116, 101, 115] : List UInt8) then (some ((⟨#[42, 47, 53, 32, 42, 32, 42, 32, 42, 32, 42]⟩ : ByteArray), true)) else (if a0.toList = ([64, 49, 48, 109, 105, 110, 117, 116, 101, 115] : List UInt8) then (some ((⟨#[42, 47, 49, 48, 32, 42, 32, 42, 32, 42, 32, 42]⟩ : ByteArray), true)) else (if a0.toList = ([64, 49, 53, 109, 105, 110, 117, 116, 101, 115] : List UInt8) then (some ((⟨#[42, 47, 49, 53, 32, 42, 32, 42, 32, 42, 32, 42]⟩ : ByteArray), true)) else (if a0.toList = ([64, 51, 48, 109, 105, 110, 117, 116, 101, 115] : List UInt8) then (some ((⟨#[48, 44, 51, 48, 32, 42, 32, 42, 32, 42, 32, 42]⟩ : ByteArray), true)) else (if a0.toList = ([64, 101, 118, 101, 114, 121, 115, 101, 99, 111, 110, 100] : List UInt8) then (some ((⟨#[42, 32, 42, 32, 42, 32, 42, 32, 42, 32, 42]⟩ : ByteArray), true)) else (some ((⟨#[]⟩ : ByteArray), false)))))))))))))
set_option maxHeartbeats 8000000 in
set_option maxRecDepth 100000 in
theorem gronx_expression.calls (a0 : ByteArray) (r1 : ByteArray) (r2 : Bool) (w : World) (h : gronx_expression.f a0 = some (r1, r2)) :
    Calls Tryz.prog 86 #[.string a0] w fun e w' => e = .returned (.tuple #[.string r1, .bool r2]) ∧ Drawn0 w w' := by
 have H : (if a0.toList = ([64, 121, 101, 97, 114, 108, 121] : List UInt8) then (some ((⟨#[48, 32, 48, 32, 49, 32, 49, 32, 42]⟩ : ByteArray), true)) else (if a0.toList = ([64, 97, 110, 110, 117, 97, 108, 108, 121] : List UInt8) then (some ((⟨#[48, 32, 48, 32, 49, 32, 49, 32, 42]⟩ : ByteArray), true)) else (if a0.toList = ([64, 109, 111, 110, 116, 104, 108, 121] : List UInt8) then (some ((⟨#[48, 32, 48, 32, 49, 32, 42, 32, 42]⟩ : ByteArray), true)) else (if a0.toList = ([64, 119, 101, 101, 107, 108, 121] : List UInt8) then (some ((⟨#[48, 32, 48, 32, 42, 32, 42, 32, 48]⟩ : ByteArray), true)) else (if a0.toList = ([64, 100, 97, 105, 108, 121] : List UInt8) then (some ((⟨#[48, 32, 48, 32, 42, 32, 42, 32, 42]⟩ : ByteArray), true)) else (if a0.toList = ([64, 104, 111, 117, 114, 108, 121] : List UInt8) then (some ((⟨#[48, 32, 42, 32, 42, 32, 42, 32, 42]⟩ : ByteArray), true)) else (if a0.toList = ([64, 97, 108, 119, 97, 121, 115] : List UInt8) then (some ((⟨#[42, 32, 42, 32, 42, 32, 42, 32, 42]⟩ : ByteArray), true)) else (if a0.toList = ([64, 53, 109, 105, 110, 117, 116, 101, 115] : List UInt8) then (some ((⟨#[42, 47, 53, 32, 42, 32, 42, 32, 42, 32, 42]⟩ : ByteArray), true)) else (if a0.toList = ([64, 49, 48, 109, 105, 110, 117, 116, 101, 115] : List UInt8) then (some ((⟨#[42, 47, 49, 48, 32, 42, 32, 42, 32, 42, 32, 42]⟩ : ByteArray), true)) else (if a0.toList = ([64, 49, 53, 109, 105, 110, 117, 116, 101, 115] : List UInt8) then (some ((⟨#[42, 47, 49, 53, 32, 42, 32, 42, 32, 42, 32, 42]⟩ : ByteArray), true)) else (if a0.toList = ([64, 51, 48, 109, 105, 110, 117, 116, 101, 115] : List UInt8) then (some ((⟨#[48, 44, 51, 48, 32, 42, 32, 42, 32, 42, 32, 42]⟩ : ByteArray), true)) else (if a0.toList = ([64, 101, 118, 101, 114, 121, 115, 101, 99, 111, 110, 100] : List UInt8) then (some ((⟨#[42, 32, 42, 32, 42, 32, 42, 32, 42, 32, 42]⟩ : ByteArray), true)) else (some ((⟨#[]⟩ : ByteArray), false)))))))))))))) = some (r1, r2) := h
 clear h
 refine (Classical.em (a0.toList = ([64, 121, 101, 97, 114, 108, 121] : List UInt8))).elim (fun c2 => ?a1_) (fun c2 => ?b1_)
 case' a1_ =>
  rw [if_pos c2] at H
  have c2b0 : (a0.toList == ([64, 121, 101, 97, 114, 108, 121] : List UInt8)) = true := beq_iff_eq.mpr c2
  have c2b1 : (a0.toList != ([64, 121, 101, 97, 114, 108, 121] : List UInt8)) = false := bne_eq_false_iff_eq.mpr c2
  clear c2
  simp only [Option.some.injEq, Prod.mk.injEq] at H
  obtain ⟨rfl, rfl⟩ := H
 case' b1_ =>
  rw [if_neg c2] at H
  have c2b0 : (a0.toList == ([64, 121, 101, 97, 114, 108, 121] : List UInt8)) = false := beq_eq_false_iff_ne.mpr c2
  have c2b1 : (a0.toList != ([64, 121, 101, 97, 114, 108, 121] : List UInt8)) = true := bne_iff_ne.mpr c2
  refine (Classical.em (a0.toList = ([64, 97, 110, 110, 117, 97, 108, 108, 121] : List UInt8))).elim (fun c3 => ?a2_) (fun c3 => ?b2_)
 case' a2_ =>
  rw [if_pos c3] at H
  have c3b0 : (a0.toList == ([64, 97, 110, 110, 117, 97, 108, 108, 121] : List UInt8)) = true := beq_iff_eq.mpr c3
  have c3b1 : (a0.toList != ([64, 97, 110, 110, 117, 97, 108, 108, 121] : List UInt8)) = false := bne_eq_false_iff_eq.mpr c3
  clear c3
  simp only [Option.some.injEq, Prod.mk.injEq] at H
  obtain ⟨rfl, rfl⟩ := H
 case' b2_ =>
  rw [if_neg c3] at H
  have c3b0 : (a0.toList == ([64, 97, 110, 110, 117, 97, 108, 108, 121] : List UInt8)) = false := beq_eq_false_iff_ne.mpr c3
  have c3b1 : (a0.toList != ([64, 97, 110, 110, 117, 97, 108, 108, 121] : List UInt8)) = true := bne_iff_ne.mpr c3
  refine (Classical.em (a0.toList = ([64, 109, 111, 110, 116, 104, 108, 121] : List UInt8))).elim (fun c4 => ?a3_) (fun c4 => ?b3_)
 case' a3_ =>
  rw [if_pos c4] at H
  have c4b0 : (a0.toList == ([64, 109, 111, 110, 116, 104, 108, 121] : List UInt8)) = true := beq_iff_eq.mpr c4
  have c4b1 : (a0.toList != ([64, 109, 111, 110, 116, 104, 108, 121] : List UInt8)) = false := bne_eq_false_iff_eq.mpr c4
  clear c4
  simp only [Option.some.injEq, Prod.mk.injEq] at H
  obtain ⟨rfl, rfl⟩ := H
 case' b3_ =>
  rw [if_neg c4] at H
  have c4b0 : (a0.toList == ([64, 109, 111, 110, 116, 104, 108, 121] : List UInt8)) = false := beq_eq_false_iff_ne.mpr c4
  have c4b1 : (a0.toList != ([64, 109, 111, 110, 116, 104, 108, 121] : List UInt8)) = true := bne_iff_ne.mpr c4
  refine (Classical.em (a0.toList = ([64, 119, 101, 101, 107, 108, 121] : List UInt8))).elim (fun c5 => ?a4_) (fun c5 => ?b4_)
 case' a4_ =>
  rw [if_pos c5] at H
  have c5b0 : (a0.toList == ([64, 119, 101, 101, 107, 108, 121] : List UInt8)) = true := beq_iff_eq.mpr c5
  have c5b1 : (a0.toList != ([64, 119, 101, 101, 107, 108, 121] : List UInt8)) = false := bne_eq_false_iff_eq.mpr c5
  clear c5
  simp only [Option.some.injEq, Prod.mk.injEq] at H
  obtain ⟨rfl, rfl⟩ := H
 case' b4_ =>
  rw [if_neg c5] at H
  have c5b0 : (a0.toList == ([64, 119, 101, 101, 107, 108, 121] : List UInt8)) = false := beq_eq_false_iff_ne.mpr c5
  have c5b1 : (a0.toList != ([64, 119, 101, 101, 107, 108, 121] : List UInt8)) = true := bne_iff_ne.mpr c5
  refine (Classical.em (a0.toList = ([64, 100, 97, 105, 108, 121] : List UInt8))).elim (fun c6 => ?a5_) (fun c6 => ?b5_)
 case' a5_ =>
  rw [if_pos c6] at H
  have c6b0 : (a0.toList == ([64, 100, 97, 105, 108, 121] : List UInt8)) = true := beq_iff_eq.mpr c6
  have c6b1 : (a0.toList != ([64, 100, 97, 105, 108, 121] : List UInt8)) = false := bne_eq_false_iff_eq.mpr c6
  clear c6
  simp only [Option.some.injEq, Prod.mk.injEq] at H
  obtain ⟨rfl, rfl⟩ := H
 case' b5_ =>
  rw [if_neg c6] at H
  have c6b0 : (a0.toList == ([64, 100, 97, 105, 108, 121] : List UInt8)) = false := beq_eq_false_iff_ne.mpr c6
  have c6b1 : (a0.toList != ([64, 100, 97, 105, 108, 121] : List UInt8)) = true := bne_iff_ne.mpr c6
  refine (Classical.em (a0.toList = ([64, 104, 111, 117, 114, 108, 121] : List UInt8))).elim (fun c7 => ?a6_) (fun c7 => ?b6_)
 case' a6_ =>
  rw [if_pos c7] at H
  have c7b0 : (a0.toList == ([64, 104, 111, 117, 114, 108, 121] : List UInt8)) = true := beq_iff_eq.mpr c7
  have c7b1 : (a0.toList != ([64, 104, 111, 117, 114, 108, 121] : List UInt8)) = false := bne_eq_false_iff_eq.mpr c7
  clear c7
  simp only [Option.some.injEq, Prod.mk.injEq] at H
  obtain ⟨rfl, rfl⟩ := H
 case' b6_ =>
  rw [if_neg c7] at H
  have c7b0 : (a0.toList == ([64, 104, 111, 117, 114, 108, 121] : List UInt8)) = false := beq_eq_false_iff_ne.mpr c7
  have c7b1 : (a0.toList != ([64, 104, 111, 117, 114, 108, 121] : List UInt8)) = true := bne_iff_ne.mpr c7
  refine (Classical.em (a0.toList = ([64, 97, 108, 119, 97, 121, 115] : List UInt8))).elim (fun c8 => ?a7_) (fun c8 => ?b7_)
 case' a7_ =>
  rw [if_pos c8] at H
  have c8b0 : (a0.toList == ([64, 97, 108, 119, 97, 121, 115] : List UInt8)) = true := beq_iff_eq.mpr c8
  have c8b1 : (a0.toList != ([64, 97, 108, 119, 97, 121, 115] : List UInt8)) = false := bne_eq_false_iff_eq.mpr c8
  clear c8
  simp only [Option.some.injEq, Prod.mk.injEq] at H
  obtain ⟨rfl, rfl⟩ := H
 case' b7_ =>
  rw [if_neg c8] at H
  have c8b0 : (a0.toList == ([64, 97, 108, 119, 97, 121, 115] : List UInt8)) = false := beq_eq_false_iff_ne.mpr c8
  have c8b1 : (a0.toList != ([64, 97, 108, 119, 97, 121, 115] : List UInt8)) = true := bne_iff_ne.mpr c8
  refine (Classical.em (a0.toList = ([64, 53, 109, 105, 110, 117, 116, 101, 115] : List UInt8))).elim (fun c9 => ?a8_) (fun c9 => ?b8_)
 case' a8_ =>
  rw [if_pos c9] at H
  have c9b0 : (a0.toList == ([64, 53, 109, 105, 110, 117, 116, 101, 115] : List UInt8)) = true := beq_iff_eq.mpr c9
  have c9b1 : (a0.toList != ([64, 53, 109, 105, 110, 117, 116, 101, 115] : List UInt8)) = false := bne_eq_false_iff_eq.mpr c9
  clear c9
  simp only [Option.some.injEq, Prod.mk.injEq] at H
  obtain ⟨rfl, rfl⟩ := H
 case' b8_ =>
  rw [if_neg c9] at H
  have c9b0 : (a0.toList == ([64, 53, 109, 105, 110, 117, 116, 101, 115] : List UInt8)) = false := beq_eq_false_iff_ne.mpr c9
  have c9b1 : (a0.toList != ([64, 53, 109, 105, 110, 117, 116, 101, 115] : List UInt8)) = true := bne_iff_ne.mpr c9
  refine (Classical.em (a0.toList = ([64, 49, 48, 109, 105, 110, 117, 116, 101, 115] : List UInt8))).elim (fun c10 => ?a9_) (fun c10 => ?b9_)
 case' a9_ =>
  rw [if_pos c10] at H
  have c10b0 : (a0.toList == ([64, 49, 48, 109, 105, 110, 117, 116, 101, 115] : List UInt8)) = true := beq_iff_eq.mpr c10
  have c10b1 : (a0.toList != ([64, 49, 48, 109, 105, 110, 117, 116, 101, 115] : List UInt8)) = false := bne_eq_false_iff_eq.mpr c10
  clear c10
  simp only [Option.some.injEq, Prod.mk.injEq] at H
  obtain ⟨rfl, rfl⟩ := H
 case' b9_ =>
  rw [if_neg c10] at H
  have c10b0 : (a0.toList == ([64, 49, 48, 109, 105, 110, 117, 116, 101, 115] : List UInt8)) = false := beq_eq_false_iff_ne.mpr c10
  have c10b1 : (a0.toList != ([64, 49, 48, 109, 105, 110, 117, 116, 101, 115] : List UInt8)) = true := bne_iff_ne.mpr c10
  refine (Classical.em (a0.toList = ([64, 49, 53, 109, 105, 110, 117, 116, 101, 115] : List UInt8))).elim (fun c11 => ?a10_) (fun c11 => ?b10_)
 case' a10_ =>
  rw [if_pos c11] at H
  have c11b0 : (a0.toList == ([64, 49, 53, 109, 105, 110, 117, 116, 101, 115] : List UInt8)) = true := beq_iff_eq.mpr c11
  have c11b1 : (a0.toList != ([64, 49, 53, 109, 105, 110, 117, 116, 101, 115] : List UInt8)) = false := bne_eq_false_iff_eq.mpr c11
  clear c11
  simp only [Option.some.injEq, Prod.mk.injEq] at H
  obtain ⟨rfl, rfl⟩ := H
 case' b10_ =>
  rw [if_neg c11] at H
  have c11b0 : (a0.toList == ([64, 49, 53, 109, 105, 110, 117, 116, 101, 115] : List UInt8)) = false := beq_eq_false_iff_ne.mpr c11
  have c11b1 : (a0.toList != ([64, 49, 53, 109, 105, 110, 117, 116, 101, 115] : List UInt8)) = true := bne_iff_ne.mpr c11
  refine (Classical.em (a0.toList = ([64, 51, 48, 109, 105, 110, 117, 116, 101, 115] : List UInt8))).elim (fun c12 => ?a11_) (fun c12 => ?b11_)
 case' a11_ =>
  rw [if_pos c12] at H
  have c12b0 : (a0.toList == ([64, 51, 48, 109, 105, 110, 117, 116, 101, 115] : List UInt8)) = true := beq_iff_eq.mpr c12
  have c12b1 : (a0.toList != ([64, 51, 48, 109, 105, 110, 117, 116, 101, 115] : List UInt8)) = false := bne_eq_false_iff_eq.mpr c12
  clear c12
  simp only [Option.some.injEq, Prod.mk.injEq] at H
  obtain ⟨rfl, rfl⟩ := H
 case' b11_ =>
  rw [if_neg c12] at H
  have c12b0 : (a0.toList == ([64, 51, 48, 109, 105, 110, 117, 116, 101, 115] : List UInt8)) = false := beq_eq_false_iff_ne.mpr c12
  have c12b1 : (a0.toList != ([64, 51, 48, 109, 105, 110, 117, 116, 101, 115] : List UInt8)) = true := bne_iff_ne.mpr c12
  refine (Classical.em (a0.toList = ([64, 101, 118, 101, 114, 121, 115, 101, 99, 111, 110, 100] : List UInt8))).elim (fun c13 => ?a12_) (fun c13 => ?b12_)
 case' a12_ =>
  rw [if_pos c13] at H
  have c13b0 : (a0.toList == ([64, 101, 118, 101, 114, 121, 115, 101, 99, 111, 110, 100] : List UInt8)) = true := beq_iff_eq.mpr c13
  have c13b1 : (a0.toList != ([64, 101, 118, 101, 114, 121, 115, 101, 99, 111, 110, 100] : List UInt8)) = false := bne_eq_false_iff_eq.mpr c13
  clear c13
  simp only [Option.some.injEq, Prod.mk.injEq] at H
  obtain ⟨rfl, rfl⟩ := H
 case' b12_ =>
  rw [if_neg c13] at H
  have c13b0 : (a0.toList == ([64, 101, 118, 101, 114, 121, 115, 101, 99, 111, 110, 100] : List UInt8)) = false := beq_eq_false_iff_ne.mpr c13
  have c13b1 : (a0.toList != ([64, 101, 118, 101, 114, 121, 115, 101, 99, 111, 110, 100] : List UInt8)) = true := bne_iff_ne.mpr c13
  simp only [Option.some.injEq, Prod.mk.injEq] at H
  obtain ⟨rfl, rfl⟩ := H
 case a1_ | a2_ | a3_ | a4_ | a5_ | a6_ | a7_ | a8_ | a9_ | a10_ | a11_ | a12_ | b12_ =>
  go_enter Tryz.func86, Tryz.ntmps86
  go_wp2
  go_ret2
  exact ⟨by first | rfl | (simp; done) | (simp [*]; done), by repeat (first | exact Drawn0.refl _ | apply Drawn0.step)⟩
def lowOnly (s : ByteArray) : Bool := s.data.toList.all fun b => decide (b.toNat < 65)
theorem lowOnly_at (s : ByteArray) (h : lowOnly s = true) (k : Nat) (hk : k < s.size) : 0 ≤ bt s (k : Int) ∧ bt s (k : Int) < 65 := by
  unfold lowOnly at h
  rw [List.all_eq_true] at h
  have hk' : k < s.data.toList.length := by rw [data_length]; exact hk
  have h1 := h _ (List.getElem_mem hk')
  have h2 : bt s (k : Int) = ((s.data.toList[k]).toNat : Int) := by
    rw [← rd_bytesOf]
    unfold rd bytesOf
    simp [List.getD_eq_getElem?_getD, List.getElem?_eq_getElem hk']
  rw [h2]
  have h3 := of_decide_eq_true h1
  omega
def strings_ToLower.f (a0 : ByteArray) : Option ByteArray := if lowOnly a0 = true ∧ a0.size ≤ 100000 then some a0 else none
set_option maxRecDepth 100000 in
set_option maxHeartbeats 2000000 in
theorem strings_ToLower.calls (a0 : ByteArray) (r : ByteArray) (w : World) (h : strings_ToLower.f a0 = some r) :
    Calls Tryz.prog 87 #[.string a0] w fun e w' => e = .returned (.string r) ∧ Drawn0 w w' := by
  unfold strings_ToLower.f at h
  split at h
  · rename_i hl
    obtain rfl := Option.some.inj h
    have HL := Aside0.mk (lowOnly_at a0 hl.1)
    have hsz : a0.size ≤ 100000 := hl.2
    clear h hl
    go_enter Tryz.func87, Tryz.ntmps87
    go_wp2
    go_loop [3, 4, 5] (fun v3 v4 v5 => ∃ k : Nat, k ≤ a0.size ∧ v3 = .bool true ∧ v4 = .bool false ∧ v5 = .int .i64 k) (fun _ _ v5 => a0.size - (intOf v5).toNat)
    case atStart => exact ⟨0, Nat.zero_le _, rfl, rfl, rfl⟩
    case round =>
      obtain ⟨k, hk, rfl, rfl, rfl⟩ := hrel
      by_cases hlt : k < a0.size
      · obtain ⟨hc0, hc1⟩ := HL.out k hlt
        have hb : ∀ h : k < a0.size, ((a0[k]'h).toNat : Int) = bt a0 (k : Int) := fun h => bt_at a0 (k : Int) h
        generalize bt a0 (k : Int) = c at hb hc0 hc1
        have hlt' : (k : Int) < (a0.size : Int) := by omega
        go_wp2
        go_round
        case rel => exact ⟨k + 1, by omega, rfl, rfl, by go_num⟩
        case measure => simp [intOf]; omega
      · go_wp2
        go_ret
        exact ⟨rfl, Drawn0.refl _⟩
  · cases h
mutual
def gronx_zzSpaces.l0 : Nat → ByteArray → List Int → Bool → Int → Option (ByteArray)
  | 0, _, _, _, _ => none
  | k + 1, x0, x3, x4, x5 => if x5 < (x0.size : Int) then (if 0 ≤ x5 then (if (bt x0 x5) = 32 then (gronx_zzSpaces.j1 k x0 x3 x4 x5 ((bt x0 x5) == 32)) else (if (bt x0 x5) = 9 then (gronx_zzSpaces.j1 k x0 x3 x4 x5 ((bt x0 x5) == 9)) else (if (bt x0 x5) = 10 then (gronx_zzSpaces.j1 k x0 x3 x4 x5 ((bt x0 x5) == 10)) else (if (bt x0 x5) = 12 then (gronx_zzSpaces.j1 k x0 x3 x4 x5 ((bt x0 x5) == 12)) else (gronx_zzSpaces.j1 k x0 x3 x4 x5 ((bt x0 x5) == 13)))))) else (none)) else (some (strOfNums x3))
def gronx_zzSpaces.j1 : Nat → ByteArray → List Int → Bool → Int → Bool → Option (ByteArray)
  | 0, _, _, _, _, _ => none
  | k + 1, x0, x3, x4, x5, x21 => if x21 = true then (if x4 = true then (gronx_zzSpaces.l0 k x0 x3 true (wrap64 (x5 + 1))) else (if x3.length < 140737488355328 then (gronx_zzSpaces.l0 k x0 (x3 ++ [32]) true (wrap64 (x5 + 1))) else (none))) else (if 0 ≤ x5 then (if x5 < (x0.size : Int) then (if x3.length < 140737488355328 then (gronx_zzSpaces.l0 k x0 (x3 ++ [bt x0 x5]) false (wrap64 (x5 + 1))) else (none)) else (none)) else (none))
end
def gronx_zzSpaces.f (k : Nat) (a0 : ByteArray) : Option (ByteArray) := gronx_zzSpaces.l0 k a0 ([] : List Int) false 0
set_option maxHeartbeats 8000000 in
set_option maxRecDepth 100000 in
theorem gronx_zzSpaces.calls (k : Nat) (a0 : ByteArray) (r : ByteArray) (w : World) (h : gronx_zzSpaces.f k a0 = some r) :
    Calls Tryz.prog 88 #[.string a0] w fun e w' => e = .returned (.string r) ∧ Below w.heap.size w w' := by
 have HB := Aside0.mk (Below.refl w.heap.size w)
 have H : (gronx_zzSpaces.l0 k a0 ([] : List Int) false 0) = some r := h
 clear h
 have H' := Aside0.mk H
 clear H
 go_enter Tryz.func88, Tryz.ntmps88
 go_wp2
 go_loopg [3, 4, 5] k (fun kq v3 v4 v5 w' => ∃ (x3_1 : List Int) (x4_1 : Bool) (x5_1 : Int), v4 = .bool x4_1 ∧ v5 = .int .i64 x5_1 ∧ Aside0 (gronx_zzSpaces.l0 kq a0 x3_1 x4_1 x5_1 = some r) ∧ Aside0 (kq ≤ k) ∧ Aside0 (Kd.R (Kd.int .u8) 5 w' w.heap.size (fun _ => True) v3 x3_1) ∧ Aside0 (Below w.heap.size w w'))
 case atStart => exact ⟨(([] : List Int)), (false), (0), (by first | rfl | (simp; done) | (simp [*]; done)), (by first | rfl | (simp; done) | (simp [*]; done)), H', ⟨Nat.le_refl _⟩, ⟨by first | exact Kd.R_nil _ _ _ _ _ | exact Kd.N_nil _ _ _ _ _ | exact Kd.V_nil _ _ _ _ _ | exact Kd.Q_nil _ _ _ _ _ | exact Kd.S_nil _ _ _ _ _⟩, ⟨by repeat (with_reducible first | exact HB.out | apply below_alloc | apply pw_below_drewN | apply below_drew1)⟩⟩
 case round =>
  clear H'
  obtain ⟨x3_1, x4_1, x5_1, rfl, rfl, HA, HK1, HO_3, HB⟩ := hrel
  cases gk with
  | zero => exact absurd HA.out (by simp [gronx_zzSpaces.l0])
  | succ k1 =>
   have H := HA.out
   clear HA
   simp only [gronx_zzSpaces.l0] at H
   refine (Classical.em (x5_1 < (a0.size : Int))).elim (fun c2 => ?a1_) (fun c2 => ?b1_)
   case' a1_ =>
    rw [if_pos c2] at H
    have c2b0 : decide (x5_1 < (a0.size : Int)) = true := decide_eq_true c2
    clear c2
    refine (Classical.em (0 ≤ x5_1)).elim (fun c3 => ?a2_) (fun c3 => ?b2_)
   case a2_ =>
    rw [if_pos c3] at H
    have c3b0 : decide (0 ≤ x5_1) = true := decide_eq_true c3
    clear c3
    have HC5 := Aside0.mk H
    clear H
    have p4 : 0 ≤ (x5_1 : Int) := of_decide_eq_true (by first | (with_reducible assumption) | assumption)
    have q4 : x5_1 < (a0.size : Int) := of_decide_eq_true (by first | (with_reducible assumption) | assumption)
    have hx4 := bt_at a0 x5_1
    replace p4 := eq_true p4
    replace q4 := eq_true q4
    go_upto_if 21 with (fail)
    go_cut [21] (fun v21 wc => ∃ (kq : Nat) (x21_4 : Bool), v21 = .bool x21_4 ∧ Aside0 (gronx_zzSpaces.j1 kq a0 x3_1 x4_1 x5_1 x21_4 = some r) ∧ Aside0 (kq ≤ k1) ∧ Aside0 (Kd.R (Kd.int .u8) 5 wc w.heap.size (fun _ => True) u3 x3_1) ∧ Aside0 (Below w.heap.size w wc))
    case first =>
     have H := HC5.out
     clear HC5
     refine (Classical.em ((bt a0 x5_1) = 32)).elim (fun c6 => ?a3_) (fun c6 => ?b3_)
     case a3_ =>
      rw [if_pos c6] at H
      have c6b0 : ((bt a0 x5_1) == 32) = true := beq_iff_eq.mpr c6
      have c6b1 : ((bt a0 x5_1) != 32) = false := bne_eq_false_iff_eq.mpr c6
      clear c6
      (first | rw [c6b0] | (simp only [i64_w, i32_w]; rw [c6b0]) | skip)
      have H' := Aside0.mk H
      clear H
      go_wp2
      go_meet
      case rel => exact ⟨_, (((bt a0 x5_1) == 32)), (by first | rfl | (simp; done) | (simp [*]; done)), H', ⟨by have := HK1.out; first | omega | exact Nat.le_refl _⟩, ⟨by (with_reducible repeat (first | apply Kd.R_alloc | apply Kd.R_drewN | apply Kd.R_drew)); exact HO_3.out⟩, ⟨by repeat (with_reducible first | exact HB.out | apply below_alloc | apply pw_below_drewN | apply below_drew1)⟩⟩
     case' b3_ =>
      rw [if_neg c6] at H
      have c6b0 : ((bt a0 x5_1) == 32) = false := beq_eq_false_iff_ne.mpr c6
      have c6b1 : ((bt a0 x5_1) != 32) = true := bne_iff_ne.mpr c6
      (first | rw [c6b0] | (simp only [i64_w, i32_w]; rw [c6b0]) | skip)
      refine (Classical.em ((bt a0 x5_1) = 9)).elim (fun c7 => ?a4_) (fun c7 => ?b4_)
     case a4_ =>
      rw [if_pos c7] at H
      have c7b0 : ((bt a0 x5_1) == 9) = true := beq_iff_eq.mpr c7
      have c7b1 : ((bt a0 x5_1) != 9) = false := bne_eq_false_iff_eq.mpr c7
      clear c7
      have H' := Aside0.mk H
      clear H
      go_wp2
      go_meet
      case rel => exact ⟨_, (((bt a0 x5_1) == 9)), (by first | rfl | (simp; done) | (simp [*]; done)), H', ⟨by have := HK1.out; first | omega | exact Nat.le_refl _⟩, ⟨by (with_reducible repeat (first | apply Kd.R_alloc | apply Kd.R_drewN | apply Kd.R_drew)); exact HO_3.out⟩, ⟨by repeat (with_reducible first | exact HB.out | apply below_alloc | apply pw_below_drewN | apply below_drew1)⟩⟩
     case' b4_ =>
      rw [if_neg c7] at H
      have c7b0 : ((bt a0 x5_1) == 9) = false := beq_eq_false_iff_ne.mpr c7
      have c7b1 : ((bt a0 x5_1) != 9) = true := bne_iff_ne.mpr c7
      refine (Classical.em ((bt a0 x5_1) = 10)).elim (fun c8 => ?a5_) (fun c8 => ?b5_)
     case a5_ =>
      rw [if_pos c8] at H
      have c8b0 : ((bt a0 x5_1) == 10) = true := beq_iff_eq.mpr c8
      have c8b1 : ((bt a0 x5_1) != 10) = false := bne_eq_false_iff_eq.mpr c8
      clear c8
      have H' := Aside0.mk H
      clear H
      go_wp2
      go_meet
      case rel => exact ⟨_, (((bt a0 x5_1) == 10)), (by first | rfl | (simp; done) | (simp [*]; done)), H', ⟨by have := HK1.out; first | omega | exact Nat.le_refl _⟩, ⟨by (with_reducible repeat (first | apply Kd.R_alloc | apply Kd.R_drewN | apply Kd.R_drew)); exact HO_3.out⟩, ⟨by repeat (with_reducible first | exact HB.out | apply below_alloc | apply pw_below_drewN | apply below_drew1)⟩⟩
     case' b5_ =>
      rw [if_neg c8] at H
      have c8b0 : ((bt a0 x5_1) == 10) = false := beq_eq_false_iff_ne.mpr c8
      have c8b1 : ((bt a0 x5_1) != 10) = true := bne_iff_ne.mpr c8
      refine (Classical.em ((bt a0 x5_1) = 12)).elim (fun c9 => ?a6_) (fun c9 => ?b6_)
     case a6_ =>
      rw [if_pos c9] at H
      have c9b0 : ((bt a0 x5_1) == 12) = true := beq_iff_eq.mpr c9
      have c9b1 : ((bt a0 x5_1) != 12) = false := bne_eq_false_iff_eq.mpr c9
      clear c9
      have H' := Aside0.mk H
      clear H
      go_wp2
      go_meet
      case rel => exact ⟨_, (((bt a0 x5_1) == 12)), (by first | rfl | (simp; done) | (simp [*]; done)), H', ⟨by have := HK1.out; first | omega | exact Nat.le_refl _⟩, ⟨by (with_reducible repeat (first | apply Kd.R_alloc | apply Kd.R_drewN | apply Kd.R_drew)); exact HO_3.out⟩, ⟨by repeat (with_reducible first | exact HB.out | apply below_alloc | apply pw_below_drewN | apply below_drew1)⟩⟩
     case b6_ =>
      rw [if_neg c9] at H
      have c9b0 : ((bt a0 x5_1) == 12) = false := beq_eq_false_iff_ne.mpr c9
      have c9b1 : ((bt a0 x5_1) != 12) = true := bne_iff_ne.mpr c9
      have H' := Aside0.mk H
      clear H
      go_wp2
      go_meet
      case rel => exact ⟨_, (((bt a0 x5_1) == 13)), (by first | rfl | (simp; done) | (simp [*]; done)), H', ⟨by have := HK1.out; first | omega | exact Nat.le_refl _⟩, ⟨by (with_reducible repeat (first | apply Kd.R_alloc | apply Kd.R_drewN | apply Kd.R_drew)); exact HO_3.out⟩, ⟨by repeat (with_reducible first | exact HB.out | apply below_alloc | apply pw_below_drewN | apply below_drew1)⟩⟩
    case rest =>
     clear HC5
     try clear c2
     try clear c2b0
     try clear c3
     try clear c3b0
     try clear p4
     try clear q4
     try clear hx4
     try clear c6
     try clear c6b0
     try clear c6b1
     try clear c7
     try clear c7b0
     try clear c7b1
     try clear c8
     try clear c8b0
     try clear c8b1
     try clear c9
     try clear c9b0
     try clear c9b1
     try clear p4
     try clear q4
     obtain ⟨kq, x21_4, rfl, HA, HJ4, HO_3, HB⟩ := hcut
     cases kq with
     | zero => exact absurd HA.out (by simp [gronx_zzSpaces.j1])
     | succ kj4 =>
      have H := HA.out
      clear HA
      simp only [gronx_zzSpaces.j1] at H
      refine (Classical.em (x21_4 = true)).elim (fun c10 => ?a7_) (fun c10 => ?b7_)
      case' a7_ =>
       subst c10
       rw [if_pos rfl] at H
       refine (Classical.em (x4_1 = true)).elim (fun c11 => ?a8_) (fun c11 => ?b8_)
      case a8_ =>
       subst c11
       rw [if_pos rfl] at H
       have H' := Aside0.mk H
       clear H
       go_wp2
       go_roundg kj4
       case measure => have := HK1.out; have := HJ4.out; omega
       case rel => exact ⟨(x3_1), (true), (wrap64 (x5_1 + 1)), (by first | rfl | (simp; done) | (simp [*]; done)), (by first | rfl | (simp; done) | (simp [*]; done)), H', ⟨by have := HK1.out; have := HJ4.out; omega⟩, ⟨by (with_reducible repeat (first | apply Kd.R_alloc | apply Kd.R_drewN | apply Kd.R_drew)); exact HO_3.out⟩, ⟨by repeat (with_reducible first | exact HB.out | apply below_alloc | apply pw_below_drewN | apply below_drew1)⟩⟩
      case' b8_ =>
       replace c11 := Bool.eq_false_iff.mpr c11
       subst c11
       rw [if_neg (show ¬ (false = true) by decide)] at H
       refine (Classical.em (x3_1.length < 140737488355328)).elim (fun c12 => ?a9_) (fun c12 => ?b9_)
      case a9_ =>
       rw [if_pos c12] at H
       have LMc12 := Aside0.mk c12
       clear c12
       obtain ⟨y546, hy546⟩ : ∃ y_ : List Int, y_ = (x3_1 ++ [32]) := ⟨_, rfl⟩
       replace H : (gronx_zzSpaces.l0 kj4 a0 y546 true (wrap64 (x5_1 + 1))) = some r := by first | (rw [hy546]; with_reducible exact H) | (have H2_ := (Option.bind_some _ _).symm.trans H; rw [hy546]; with_reducible exact H2_) | (have H2_ := (Option.bind_some _ _).symm.trans H; with_reducible exact H2_) | with_reducible exact H | (rw [hy546]; exact H) | exact H
       have Ny546 := Aside0.mk hy546
       clear hy546
       have H' := Aside0.mk H
       clear H
       go_wp2_with (first | ((with_reducible refine gate_builtin (b := .append) (xs := #[.tmp 29, .tmp 30]) rfl ?_); at_builtin; refine Kd.R_append (Kd.int .u8) (w0 := w) w.heap.size rfl (.tmp 29) (.tmp 30) 163 5 (.int .u8 0) 1 rfl Tryz.underlying163 info5 rfl (by decide) (by omega) u3 x3_1 32 [.int .u8 32] (fun _ => True) (fun _ => False) rfl rfl ?aP (fun _ hk => hk.elim) ?aF ?aO ?aB ?aS ?aL ?_; (case aP => exact rfl); (case aB => exact (by repeat (with_reducible first | exact HB.out | apply below_alloc | apply pw_below_drewN | apply below_drew1))); (case aF => exact (fun _ _ => trivial)); (case aO => exact (by (with_reducible repeat (first | apply Kd.R_alloc | apply Kd.R_drewN | apply Kd.R_drew)); exact HO_3.out)); (case aS => exact (below_size (by repeat (with_reducible first | exact HB.out | apply below_alloc | apply pw_below_drewN | apply below_drew1)))); (case aL => have := LMc12.out; omega); intro v547 w13 ho hb hg hat; rw [← Ny546.out] at ho; have n0_ := Aside0.mk (hb); have n1_ := Aside0.mk (ho); clear HB; clear HO_3; have HB := n0_; have HO548 := n1_; clear n0_ n1_; clear ho hb hg hat))
       go_roundg kj4
       case measure => have := HK1.out; have := HJ4.out; omega
       case rel => exact ⟨(y546), (true), (wrap64 (x5_1 + 1)), (by first | rfl | (simp; done) | (simp [*]; done)), (by first | rfl | (simp; done) | (simp [*]; done)), H', ⟨by have := HK1.out; have := HJ4.out; omega⟩, ⟨by (with_reducible repeat (first | apply Kd.R_alloc | apply Kd.R_drewN | apply Kd.R_drew)); exact HO548.out⟩, ⟨by repeat (with_reducible first | exact HB.out | apply below_alloc | apply pw_below_drewN | apply below_drew1)⟩⟩
      case b9_ =>
       rw [if_neg c12] at H
       exact absurd H (by simp)
      case' b7_ =>
       replace c10 := Bool.eq_false_iff.mpr c10
       subst c10
       rw [if_neg (show ¬ (false = true) by decide)] at H
       refine (Classical.em (0 ≤ x5_1)).elim (fun c14 => ?a10_) (fun c14 => ?b10_)
      case' a10_ =>
       rw [if_pos c14] at H
       have c14b0 : decide (0 ≤ x5_1) = true := decide_eq_true c14
       clear c14
       refine (Classical.em (x5_1 < (a0.size : Int))).elim (fun c15 => ?a11_) (fun c15 => ?b11_)
      case' a11_ =>
       rw [if_pos c15] at H
       have c15b0 : decide (x5_1 < (a0.size : Int)) = true := decide_eq_true c15
       clear c15
       refine (Classical.em (x3_1.length < 140737488355328)).elim (fun c17 => ?a12_) (fun c17 => ?b12_)
      case a12_ =>
       rw [if_pos c17] at H
       have LMc17 := Aside0.mk c17
       clear c17
       obtain ⟨y549, hy549⟩ : ∃ y_ : List Int, y_ = (x3_1 ++ [bt a0 x5_1]) := ⟨_, rfl⟩
       replace H : (gronx_zzSpaces.l0 kj4 a0 y549 false (wrap64 (x5_1 + 1))) = some r := by first | (rw [hy549]; with_reducible exact H) | (have H2_ := (Option.bind_some _ _).symm.trans H; rw [hy549]; with_reducible exact H2_) | (have H2_ := (Option.bind_some _ _).symm.trans H; with_reducible exact H2_) | with_reducible exact H | (rw [hy549]; exact H) | exact H
       have Ny549 := Aside0.mk hy549
       clear hy549
       have H' := Aside0.mk H
       clear H
       have p16 : 0 ≤ (x5_1 : Int) := of_decide_eq_true (by first | (with_reducible assumption) | assumption)
       have q16 : x5_1 < (a0.size : Int) := of_decide_eq_true (by first | (with_reducible assumption) | assumption)
       have hx16 := bt_at a0 x5_1
       replace p16 := eq_true p16
       replace q16 := eq_true q16
       go_wp2_with (first | ((with_reducible refine gate_builtin (b := .append) (xs := #[.tmp 15, .tmp 19]) rfl ?_); at_builtin; refine Kd.R_append (Kd.int .u8) (w0 := w) w.heap.size rfl (.tmp 15) (.tmp 19) 163 5 (.int .u8 0) 1 rfl Tryz.underlying163 info5 rfl (by decide) (by omega) u3 x3_1 (bt a0 x5_1) [.int .u8 (bt a0 x5_1)] (fun _ => True) (fun _ => False) rfl rfl ?aP (fun _ hk => hk.elim) ?aF ?aO ?aB ?aS ?aL ?_; (case aP => exact rfl); (case aB => exact (by repeat (with_reducible first | exact HB.out | apply below_alloc | apply pw_below_drewN | apply below_drew1))); (case aF => exact (fun _ _ => trivial)); (case aO => exact (by (with_reducible repeat (first | apply Kd.R_alloc | apply Kd.R_drewN | apply Kd.R_drew)); exact HO_3.out)); (case aS => exact (below_size (by repeat (with_reducible first | exact HB.out | apply below_alloc | apply pw_below_drewN | apply below_drew1)))); (case aL => have := LMc17.out; omega); intro v550 w18 ho hb hg hat; rw [← Ny549.out] at ho; have n0_ := Aside0.mk (hb); have n1_ := Aside0.mk (ho); clear HB; clear HO_3; have HB := n0_; have HO551 := n1_; clear n0_ n1_; clear ho hb hg hat))
       go_roundg kj4
       case measure => have := HK1.out; have := HJ4.out; omega
       case rel => exact ⟨(y549), (false), (wrap64 (x5_1 + 1)), (by first | rfl | (simp; done) | (simp [*]; done)), (by first | rfl | (simp; done) | (simp [*]; done)), H', ⟨by have := HK1.out; have := HJ4.out; omega⟩, ⟨by (with_reducible repeat (first | apply Kd.R_alloc | apply Kd.R_drewN | apply Kd.R_drew)); exact HO551.out⟩, ⟨by repeat (with_reducible first | exact HB.out | apply below_alloc | apply pw_below_drewN | apply below_drew1)⟩⟩
      case b12_ =>
       rw [if_neg c17] at H
       exact absurd H (by simp)
      case b11_ =>
       rw [if_neg c15] at H
       exact absurd H (by simp)
      case b10_ =>
       rw [if_neg c14] at H
       exact absurd H (by simp)
   case b2_ =>
    rw [if_neg c3] at H
    exact absurd H (by simp)
   case b1_ =>
    rw [if_neg c2] at H
    have c2b0 : decide (x5_1 < (a0.size : Int)) = false := decide_eq_false c2
    clear c2
    obtain rfl := Option.some.inj H
    have hcv19 := own_string (P := Tryz.prog) Tryz.underlying163 Tryz.underlying5 Tryz.underlying9 (Kd.own_of_R HO_3.out)
    go_wp2
    go_ret
    exact ⟨by first | rfl | (simp [errW_none, errW_some] <;> rfl) | (simp [*, errW_none, errW_some] <;> rfl), by repeat (with_reducible first | exact HB.out | apply below_alloc | apply pw_below_drewN | apply below_drew1)⟩
end Go.Proofs.YtjpcdkhapeejjaaGreatDoor.A
