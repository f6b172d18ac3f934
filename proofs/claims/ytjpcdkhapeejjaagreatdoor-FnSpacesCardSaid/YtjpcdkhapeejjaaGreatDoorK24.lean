/- Steps of the proof of the law: contracts of functions of the given program, and plain lemmas about what they compute.
Conditions: none beyond those that each theorem names. -/
import Derived.Test.YtjpcdkhapeejjaaGreatDoorK07
import Derived.Test.YtjpcdkhapeejjaaGreatDoorK23
set_option linter.unusedVariables false
set_option linter.unusedSimpArgs false
open Go.RowKit Go.Proofs.YtjpcdkhapeejjaaGreatDoorW.PrintWords Go.Proofs.YtjpcdkhapeejjaaGreatDoorW.PrintLast Go.Proofs.YtjpcdkhapeejjaaGreatDoorW.PrintMore
namespace Go.Proofs.YtjpcdkhapeejjaaGreatDoor.A
def gronx_literal.f (a0 : ByteArray) : Option (ByteArray) := if a0.toList = ([83, 85, 78] : List UInt8) then (some (⟨#[48]⟩ : ByteArray)) else (if a0.toList = ([77, 79, 78] : List UInt8) then (some (⟨#[49]⟩ : ByteArray)) else (if a0.toList = ([84, 85, 69] : List UInt8) then (some (⟨#[50]⟩ : ByteArray)) else (if a0.toList = ([87, 69, 68] : List UInt8) then (some (⟨#[51]⟩ : ByteArray)) else (if a0.toList = ([84, 72, 85] : List UInt8) then (some (⟨#[52]⟩ : ByteArray)) else (if a0.toList = ([70, 82, 73] : List UInt8) then (some (⟨#[53]⟩ : ByteArray)) else (if a0.toList = ([83, 65, 84] : List UInt8) then (some (⟨#[54]⟩ : ByteArray)) else (if a0.toList = ([74, 65, 78] : List UInt8) then (some (⟨#[49]⟩ : ByteArray)) else (if a0.toList = ([70, 69, 66] : List UInt8) then (some (⟨#[50]⟩ : ByteArray)) else (if a0.toList = ([77, 65, 82] : List UInt8) then (some (⟨#[51]⟩ : ByteArray)) else (if a0.toList = ([65, 80, 82] : List UInt8) then (some (⟨#[52]⟩ : ByteArray)) else (if a0.toList = ([77, 65, 89] : List UInt8) then (some (⟨#[53]⟩ : ByteArray)) else (if a0.toList = ([74, 85, 78] : List UInt8) then (some (⟨#[54]⟩ : ByteArray)) else (if a0.toList = ([74, 85, 76] : List UInt8) then (some (⟨#[55]⟩ : ByteArray)) else (if a0.toList = ([65, 85, 71] : List UInt8) then (some (⟨#[56]⟩ : ByteArray)) else (if a0.toList = ([83, 69, 80] : List UInt8) then (some (⟨#[57]⟩ : ByteArray)) else (if a0.toList = ([79, 67, 84] : List UInt8) then (some (⟨#[49, 48]⟩ : ByteArray)) else (if a0.toList = ([78, 79, 86] : List UInt8) then (some (⟨#[49, 49]⟩ : ByteArray)) else (if a0.toList = ([68, 69, 67] : List UInt8) then (some (⟨#[49, 50]⟩ : ByteArray)) else (some (⟨#[]⟩ : ByteArray))))))))))))))))))))
set_option maxHeartbeats 8000000 in
set_option maxRecDepth 100000 in
theorem gronx_literal.calls (a0 : ByteArray) (r : ByteArray) (w : World) (h : gronx_literal.f a0 = some r) :
    Calls Tryz.prog 112 #[.string a0] w fun e w' => e = .returned (.string r) ∧ Drawn0 w w' := by
 have H : (if a0.toList = ([83, 85, 78] : List UInt8) then (some (⟨#[48]⟩ : ByteArray)) else (if a0.toList = ([77, 79, 78] : List UInt8) then (some (⟨#[49]⟩ : ByteArray)) else (if a0.toList = ([84, 85, 69] : List UInt8) then (some (⟨#[50]⟩ : ByteArray)) else (if a0.toList = ([87, 69, 68] : List UInt8) then (some (⟨#[51]⟩ : ByteArray)) else (if a0.toList = ([84, 72, 85] : List UInt8) then (some (⟨#[52]⟩ : ByteArray)) else (if a0.toList = ([70, 82, 73] : List UInt8) then (some (⟨#[53]⟩ : ByteArray)) else (if a0.toList = ([83, 65, 84] : List UInt8) then (some (⟨#[54]⟩ : ByteArray)) else (if a0.toList = ([74, 65, 78] : List UInt8) then (some (⟨#[49]⟩ : ByteArray)) else (if a0.toList = ([70, 69, 66] : List UInt8) then (some (⟨#[50]⟩ : ByteArray)) else (if a0.toList = ([77, 65, 82] : List UInt8) then (some (⟨#[51]⟩ : ByteArray)) else (if a0.toList = ([65, 80, 82] : List UInt8) then (some (⟨#[52]⟩ : ByteArray)) else (if a0.toList = ([77, 65, 89] : List UInt8) then (some (⟨#[53]⟩ : ByteArray)) else (if a0.toList = ([74, 85, 78] : List UInt8) then (some (⟨#[54]⟩ : ByteArray)) else (if a0.toList = ([74, 85, 76] : List UInt8) then (some (⟨#[55]⟩ : ByteArray)) else (if a0.toList = ([65, 85, 71] : List UInt8) then (some (⟨#[56]⟩ : ByteArray)) else (if a0.toList = ([83, 69, 80] : List UInt8) then (some (⟨#[57]⟩ : ByteArray)) else (if a0.toList = ([79, 67, 84] : List UInt8) then (some (⟨#[49, 48]⟩ : ByteArray)) else (if a0.toList = ([78, 79, 86] : List UInt8) then (some (⟨#[49, 49]⟩ : ByteArray)) else (if a0.toList = ([68, 69, 67] : List UInt8) then (some (⟨#[49, 50]⟩ : ByteArray)) else (some (⟨#[]⟩ : ByteArray))))))))))))))))))))) = some r := h
 clear h
 refine (Classical.em (a0.toList = ([83, 85, 78] : List UInt8))).elim (fun c2 => ?a1_) (fun c2 => ?b1_)
 case' a1_ =>
  rw [if_pos c2] at H
  have c2b0 : (a0.toList == ([83, 85, 78] : List UInt8)) = true := beq_iff_eq.mpr c2
  have c2b1 : (a0.toList != ([83, 85, 78] : List UInt8)) = false := bne_eq_false_iff_eq.mpr c2
  clear c2
  obtain rfl := Option.some.inj H
 case' b1_ =>
  rw [if_neg c2] at H
  have c2b0 : (a0.toList == ([83, 85, 78] : List UInt8)) = false := beq_eq_false_iff_ne.mpr c2
  have c2b1 : (a0.toList != ([83, 85, 78] : List UInt8)) = true := bne_iff_ne.mpr c2
  refine (Classical.em (a0.toList = ([77, 79, 78] : List UInt8))).elim (fun c3 => ?a2_) (fun c3 => ?b2_)
 case' a2_ =>
  rw [if_pos c3] at H
  have c3b0 : (a0.toList == ([77, 79, 78] : List UInt8)) = true := beq_iff_eq.mpr c3
  have c3b1 : (a0.toList != ([77, 79, 78] : List UInt8)) = false := bne_eq_false_iff_eq.mpr c3
  clear c3
  obtain rfl := Option.some.inj H
 case' b2_ =>
  rw [if_neg c3] at H
  have c3b0 : (a0.toList == ([77, 79, 78] : List UInt8)) = false := beq_eq_false_iff_ne.mpr c3
  have c3b1 : (a0.toList != ([77, 79, 78] : List UInt8)) = true := bne_iff_ne.mpr c3
  refine (Classical.em (a0.toList = ([84, 85, 69] : List UInt8))).elim (fun c4 => ?a3_) (fun c4 => ?b3_)
 case' a3_ =>
  rw [if_pos c4] at H
  have c4b0 : (a0.toList == ([84, 85, 69] : List UInt8)) = true := beq_iff_eq.mpr c4
  have c4b1 : (a0.toList != ([84, 85, 69] : List UInt8)) = false := bne_eq_false_iff_eq.mpr c4
  clear c4
  obtain rfl := Option.some.inj H
 case' b3_ =>
  rw [if_neg c4] at H
  have c4b0 : (a0.toList == ([84, 85, 69] : List UInt8)) = false := beq_eq_false_iff_ne.mpr c4
  have c4b1 : (a0.toList != ([84, 85, 69] : List UInt8)) = true := bne_iff_ne.mpr c4
  refine (Classical.em (a0.toList = ([87, 69, 68] : List UInt8))).elim (fun c5 => ?a4_) (fun c5 => ?b4_)
 case' a4_ =>
  rw [if_pos c5] at H
  have c5b0 : (a0.toList == ([87, 69, 68] : List UInt8)) = true := beq_iff_eq.mpr c5
  have c5b1 : (a0.toList != ([87, 69, 68] : List UInt8)) = false := bne_eq_false_iff_eq.mpr c5
  clear c5
  obtain rfl := Option.some.inj H
 case' b4_ =>
  rw [if_neg c5] at H
  have c5b0 : (a0.toList == ([87, 69, 68] : List UInt8)) = false := beq_eq_false_iff_ne.mpr c5
  have c5b1 : (a0.toList != ([87, 69, 68] : List UInt8)) = true := bne_iff_ne.mpr c5
  refine (Classical.em (a0.toList = ([84, 72, 85] : List UInt8))).elim (fun c6 => ?a5_) (fun c6 => ?b5_)
 case' a5_ =>
  rw [if_pos c6] at H
  have c6b0 : (a0.toList == ([84, 72, 85] : List UInt8)) = true := beq_iff_eq.mpr c6
  have c6b1 : (a0.toList != ([84, 72, 85] : List UInt8)) = false := bne_eq_false_iff_eq.mpr c6
  clear c6
  obtain rfl := Option.some.inj H
 case' b5_ =>
  rw [if_neg c6] at H
  have c6b0 : (a0.toList == ([84, 72, 85] : List UInt8)) = false := beq_eq_false_iff_ne.mpr c6
  have c6b1 : (a0.toList != ([84, 72, 85] : List UInt8)) = true := bne_iff_ne.mpr c6
  refine (Classical.em (a0.toList = ([70, 82, 73] : List UInt8))).elim (fun c7 => ?a6_) (fun c7 => ?b6_)
 case' a6_ =>
  rw [if_pos c7] at H
  have c7b0 : (a0.toList == ([70, 82, 73] : List UInt8)) = true := beq_iff_eq.mpr c7
  have c7b1 : (a0.toList != ([70, 82, 73] : List UInt8)) = false := bne_eq_false_iff_eq.mpr c7
  clear c7
  obtain rfl := Option.some.inj H
 case' b6_ =>
  rw [if_neg c7] at H
  have c7b0 : (a0.toList == ([70, 82, 73] : List UInt8)) = false := beq_eq_false_iff_ne.mpr c7
  have c7b1 : (a0.toList != ([70, 82, 73] : List UInt8)) = true := bne_iff_ne.mpr c7
  refine (Classical.em (a0.toList = ([83, 65, 84] : List UInt8))).elim (fun c8 => ?a7_) (fun c8 => ?b7_)
 case' a7_ =>
  rw [if_pos c8] at H
  have c8b0 : (a0.toList == ([83, 65, 84] : List UInt8)) = true := beq_iff_eq.mpr c8
  have c8b1 : (a0.toList != ([83, 65, 84] : List UInt8)) = false := bne_eq_false_iff_eq.mpr c8
  clear c8
  obtain rfl := Option.some.inj H
 case' b7_ =>
  rw [if_neg c8] at H
  have c8b0 : (a0.toList == ([83, 65, 84] : List UInt8)) = false := beq_eq_false_iff_ne.mpr c8
  have c8b1 : (a0.toList != ([83, 65, 84] : List UInt8)) = true := bne_iff_ne.mpr c8
  refine (Classical.em (a0.toList = ([74, 65, 78] : List UInt8))).elim (fun c9 => ?a8_) (fun c9 => ?b8_)
 case' a8_ =>
  rw [if_pos c9] at H
  have c9b0 : (a0.toList == ([74, 65, 78] : List UInt8)) = true := beq_iff_eq.mpr c9
  have c9b1 : (a0.toList != ([74, 65, 78] : List UInt8)) = false := bne_eq_false_iff_eq.mpr c9
  clear c9
  obtain rfl := Option.some.inj H
 case' b8_ =>
  rw [if_neg c9] at H
  have c9b0 : (a0.toList == ([74, 65, 78] : List UInt8)) = false := beq_eq_false_iff_ne.mpr c9
  have c9b1 : (a0.toList != ([74, 65, 78] : List UInt8)) = true := bne_iff_ne.mpr c9
  refine (Classical.em (a0.toList = ([70, 69, 66] : List UInt8))).elim (fun c10 => ?a9_) (fun c10 => ?b9_)
 case' a9_ =>
  rw [if_pos c10] at H
  have c10b0 : (a0.toList == ([70, 69, 66] : List UInt8)) = true := beq_iff_eq.mpr c10
  have c10b1 : (a0.toList != ([70, 69, 66] : List UInt8)) = false := bne_eq_false_iff_eq.mpr c10
  clear c10
  obtain rfl := Option.some.inj H
 case' b9_ =>
  rw [if_neg c10] at H
  have c10b0 : (a0.toList == ([70, 69, 66] : List UInt8)) = false := beq_eq_false_iff_ne.mpr c10
  have c10b1 : (a0.toList != ([70, 69, 66] : List UInt8)) = true := bne_iff_ne.mpr c10
  refine (Classical.em (a0.toList = ([77, 65, 82] : List UInt8))).elim (fun c11 => ?a10_) (fun c11 => ?b10_)
 case' a10_ =>
  rw [if_pos c11] at H
  have c11b0 : (a0.toList == ([77, 65, 82] : List UInt8)) = true := beq_iff_eq.mpr c11
  have c11b1 : (a0.toList != ([77, 65, 82] : List UInt8)) = false := bne_eq_false_iff_eq.mpr c11
  clear c11
  obtain rfl := Option.some.inj H
 case' b10_ =>
  rw [if_neg c11] at H
  have c11b0 : (a0.toList == ([77, 65, 82] : List UInt8)) = false := beq_eq_false_iff_ne.mpr c11
  have c11b1 : (a0.toList != ([77, 65, 82] : List UInt8)) = true := bne_iff_ne.mpr c11
  refine (Classical.em (a0.toList = ([65, 80, 82] : List UInt8))).elim (fun c12 => ?a11_) (fun c12 => ?b11_)
 case' a11_ =>
  rw [if_pos c12] at H
  have c12b0 : (a0.toList == ([65, 80, 82] : List UInt8)) = true := beq_iff_eq.mpr c12
  have c12b1 : (a0.toList != ([65, 80, 82] : List UInt8)) = false := bne_eq_false_iff_eq.mpr c12
  clear c12
  obtain rfl := Option.some.inj H
 case' b11_ =>
  rw [if_neg c12] at H
  have c12b0 : (a0.toList == ([65, 80, 82] : List UInt8)) = false := beq_eq_false_iff_ne.mpr c12
  have c12b1 : (a0.toList != ([65, 80, 82] : List UInt8)) = true := bne_iff_ne.mpr c12
  refine (Classical.em (a0.toList = ([77, 65, 89] : List UInt8))).elim (fun c13 => ?a12_) (fun c13 => ?b12_)
 case' a12_ =>
  rw [if_pos c13] at H
  have c13b0 : (a0.toList == ([77, 65, 89] : List UInt8)) = true := beq_iff_eq.mpr c13
  have c13b1 : (a0.toList != ([77, 65, 89] : List UInt8)) = false := bne_eq_false_iff_eq.mpr c13
  clear c13
  obtain rfl := Option.some.inj H
 case' b12_ =>
  rw [if_neg c13] at H
  have c13b0 : (a0.toList == ([77, 65, 89] : List UInt8)) = false := beq_eq_false_iff_ne.mpr c13
  have c13b1 : (a0.toList != ([77, 65, 89] : List UInt8)) = true := bne_iff_ne.mpr c13
  refine (Classical.em (a0.toList = ([74, 85, 78] : List UInt8))).elim (fun c14 => ?a13_) (fun c14 => ?b13_)
 case' a13_ =>
  rw [if_pos c14] at H
  have c14b0 : (a0.toList == ([74, 85, 78] : List UInt8)) = true := beq_iff_eq.mpr c14
  have c14b1 : (a0.toList != ([74, 85, 78] : List UInt8)) = false := bne_eq_false_iff_eq.mpr c14
  clear c14
  obtain rfl := Option.some.inj H
 case' b13_ =>
  rw [if_neg c14] at H
  have c14b0 : (a0.toList == ([74, 85, 78] : List UInt8)) = false := beq_eq_false_iff_ne.mpr c14
  have c14b1 : (a0.toList != ([74, 85, 78] : List UInt8)) = true := bne_iff_ne.mpr c14
  refine (Classical.em (a0.toList = ([74, 85, 76] : List UInt8))).elim (fun c15 => ?a14_) (fun c15 => ?b14_)
 case' a14_ =>
  rw [if_pos c15] at H
  have c15b0 : (a0.toList == ([74, 85, 76] : List UInt8)) = true := beq_iff_eq.mpr c15
  have c15b1 : (a0.toList != ([74, 85, 76] : List UInt8)) = false := bne_eq_false_iff_eq.mpr c15
  clear c15
  obtain rfl := Option.some.inj H
 case' b14_ =>
  rw [if_neg c15] at H
  have c15b0 : (a0.toList == ([74, 85, 76] : List UInt8)) = false := beq_eq_false_iff_ne.mpr c15
  have c15b1 : (a0.toList != ([74, 85, 76] : List UInt8)) = true := bne_iff_ne.mpr c15
  refine (Classical.em (a0.toList = ([65, 85, 71] : List UInt8))).elim (fun c16 => ?a15_) (fun c16 => ?b15_)
 case' a15_ =>
  rw [if_pos c16] at H
  have c16b0 : (a0.toList == ([65, 85, 71] : List UInt8)) = true := beq_iff_eq.mpr c16
  have c16b1 : (a0.toList != ([65, 85, 71] : List UInt8)) = false := bne_eq_false_iff_eq.mpr c16
  clear c16
  obtain rfl := Option.some.inj H
 case' b15_ =>
  rw [if_neg c16] at H
  have c16b0 : (a0.toList == ([65, 85, 71] : List UInt8)) = false := beq_eq_false_iff_ne.mpr c16
  have c16b1 : (a0.toList != ([65, 85, 71] : List UInt8)) = true := bne_iff_ne.mpr c16
  refine (Classical.em (a0.toList = ([83, 69, 80] : List UInt8))).elim (fun c17 => ?a16_) (fun c17 => ?b16_)
 case' a16_ =>
  rw [if_pos c17] at H
  have c17b0 : (a0.toList == ([83, 69, 80] : List UInt8)) = true := beq_iff_eq.mpr c17
  have c17b1 : (a0.toList != ([83, 69, 80] : List UInt8)) = false := bne_eq_false_iff_eq.mpr c17
  clear c17
  obtain rfl := Option.some.inj H
 case' b16_ =>
  rw [if_neg c17] at H
  have c17b0 : (a0.toList == ([83, 69, 80] : List UInt8)) = false := beq_eq_false_iff_ne.mpr c17
  have c17b1 : (a0.toList != ([83, 69, 80] : List UInt8)) = true := bne_iff_ne.mpr c17
  refine (Classical.em (a0.toList = ([79, 67, 84] : List UInt8))).elim (fun c18 => ?a17_) (fun c18 => ?b17_)
 case' a17_ =>
  rw [if_pos c18] at H
  have c18b0 : (a0.toList == ([79, 67, 84] : List UInt8)) = true := beq_iff_eq.mpr c18
  have c18b1 : (a0.toList != ([79, 67, 84] : List UInt8)) = false := bne_eq_false_iff_eq.mpr c18
  clear c18
  obtain rfl := Option.some.inj H
 case' b17_ =>
  rw [if_neg c18] at H
  have c18b0 : (a0.toList == ([79, 67, 84] : List UInt8)) = false := beq_eq_false_iff_ne.mpr c18
  have c18b1 : (a0.toList != ([79, 67, 84] : List UInt8)) = true := bne_iff_ne.mpr c18
  refine (Classical.em (a0.toList = ([78, 79, 86] : List UInt8))).elim (fun c19 => ?a18_) (fun c19 => ?b18_)
 case' a18_ =>
  rw [if_pos c19] at H
  have c19b0 : (a0.toList == ([78, 79, 86] : List UInt8)) = true := beq_iff_eq.mpr c19
  have c19b1 : (a0.toList != ([78, 79, 86] : List UInt8)) = false := bne_eq_false_iff_eq.mpr c19
  clear c19
  obtain rfl := Option.some.inj H
 case' b18_ =>
  rw [if_neg c19] at H
  have c19b0 : (a0.toList == ([78, 79, 86] : List UInt8)) = false := beq_eq_false_iff_ne.mpr c19
  have c19b1 : (a0.toList != ([78, 79, 86] : List UInt8)) = true := bne_iff_ne.mpr c19
  refine (Classical.em (a0.toList = ([68, 69, 67] : List UInt8))).elim (fun c20 => ?a19_) (fun c20 => ?b19_)
 case' a19_ =>
  rw [if_pos c20] at H
  have c20b0 : (a0.toList == ([68, 69, 67] : List UInt8)) = true := beq_iff_eq.mpr c20
  have c20b1 : (a0.toList != ([68, 69, 67] : List UInt8)) = false := bne_eq_false_iff_eq.mpr c20
  clear c20
  obtain rfl := Option.some.inj H
 case' b19_ =>
  rw [if_neg c20] at H
  have c20b0 : (a0.toList == ([68, 69, 67] : List UInt8)) = false := beq_eq_false_iff_ne.mpr c20
  have c20b1 : (a0.toList != ([68, 69, 67] : List UInt8)) = true := bne_iff_ne.mpr c20
  obtain rfl := Option.some.inj H
 case a1_ | a2_ | a3_ | a4_ | a5_ | a6_ | a7_ | a8_ | a9_ | a10_ | a11_ | a12_ | a13_ | a14_ | a15_ | a16_ | a17_ | a18_ | a19_ | b19_ =>
  go_enter Tryz.func112, Tryz.ntmps112
  go_wp2
  go_ret
  exact ⟨by first | rfl | (simp; done) | (simp [*]; done), by repeat (first | exact Drawn0.refl _ | apply Drawn0.step)⟩
def gronx_zzLiterals.l0 : Nat → ByteArray → List Int → Int → Option (ByteArray)
  | 0, _, _, _ => none
  | k + 1, x0, x3, x4 => if x4 < (x0.size : Int) then (if (wrap64 (x4 + 3)) ≤ (x0.size : Int) then (if 0 ≤ x4 then (if x4 ≤ (wrap64 (x4 + 3)) then ((gronx_literal.f (x0.extract (x4 : Int).toNat ((wrap64 (x4 + 3)) : Int).toNat)).bind fun t552 => (if t552.toList = ([] : List UInt8) then (if x3.length < 140737488355328 then (gronx_zzLiterals.l0 k x0 (x3 ++ [bt x0 x4]) (wrap64 (x4 + 1))) else (none)) else (if x3.length + t552.size < 140737488355328 then (gronx_zzLiterals.l0 k x0 (x3 ++ bytesOf t552) (wrap64 (x4 + 3))) else (none)))) else (none)) else (none)) else (if 0 ≤ x4 then (if x3.length < 140737488355328 then (gronx_zzLiterals.l0 k x0 (x3 ++ [bt x0 x4]) (wrap64 (x4 + 1))) else (none)) else (none))) else (some (strOfNums x3))
def gronx_zzLiterals.f (k : Nat) (a0 : ByteArray) : Option (ByteArray) := gronx_zzLiterals.l0 k a0 ([] : List Int) 0
set_option maxHeartbeats 8000000 in
set_option maxRecDepth 100000 in
theorem gronx_zzLiterals.calls (k : Nat) (a0 : ByteArray) (r : ByteArray) (w : World) (h : gronx_zzLiterals.f k a0 = some r) :
    Calls Tryz.prog 89 #[.string a0] w fun e w' => e = .returned (.string r) ∧ Below w.heap.size w w' := by
 have HB := Aside0.mk (Below.refl w.heap.size w)
 have H : (gronx_zzLiterals.l0 k a0 ([] : List Int) 0) = some r := h
 clear h
 have H' := Aside0.mk H
 clear H
 go_enter Tryz.func89, Tryz.ntmps89
 go_wp2
 go_loopg [3, 4] k (fun kq v3 v4 w' => ∃ (x3_1 : List Int) (x4_1 : Int), v4 = .int .i64 x4_1 ∧ Aside0 (gronx_zzLiterals.l0 kq a0 x3_1 x4_1 = some r) ∧ Aside0 (kq ≤ k) ∧ Aside0 (Kd.R (Kd.int .u8) 5 w' w.heap.size (fun _ => True) v3 x3_1) ∧ Aside0 (Below w.heap.size w w'))
 case atStart => exact ⟨(([] : List Int)), (0), (by first | rfl | (simp; done) | (simp [*]; done)), H', ⟨Nat.le_refl _⟩, ⟨by first | exact Kd.R_nil _ _ _ _ _ | exact Kd.N_nil _ _ _ _ _ | exact Kd.V_nil _ _ _ _ _ | exact Kd.Q_nil _ _ _ _ _ | exact Kd.S_nil _ _ _ _ _⟩, ⟨by repeat (with_reducible first | exact HB.out | apply below_alloc | apply pw_below_drewN | apply below_drew1)⟩⟩
 case round =>
  clear H'
  obtain ⟨x3_1, x4_1, rfl, HA, HK1, HO_3, HB⟩ := hrel
  cases gk with
  | zero => exact absurd HA.out (by simp [gronx_zzLiterals.l0])
  | succ k1 =>
   have H := HA.out
   clear HA
   simp only [gronx_zzLiterals.l0] at H
   refine (Classical.em (x4_1 < (a0.size : Int))).elim (fun c2 => ?a1_) (fun c2 => ?b1_)
   case' a1_ =>
    rw [if_pos c2] at H
    have c2b0 : decide (x4_1 < (a0.size : Int)) = true := decide_eq_true c2
    clear c2
    refine (Classical.em ((wrap64 (x4_1 + 3)) ≤ (a0.size : Int))).elim (fun c3 => ?a2_) (fun c3 => ?b2_)
   case' a2_ =>
    rw [if_pos c3] at H
    have c3b0 : decide ((wrap64 (x4_1 + 3)) ≤ (a0.size : Int)) = true := decide_eq_true c3
    clear c3
    refine (Classical.em (0 ≤ x4_1)).elim (fun c4 => ?a3_) (fun c4 => ?b3_)
   case' a3_ =>
    rw [if_pos c4] at H
    have c4b0 := eq_true c4
    have c4b1 : decide (0 ≤ x4_1) = true := decide_eq_true c4
    clear c4
    refine (Classical.em (x4_1 ≤ (wrap64 (x4_1 + 3)))).elim (fun c5 => ?a4_) (fun c5 => ?b4_)
   case' a4_ =>
    rw [if_pos c5] at H
    have c5b0 := eq_true c5
    have c5b1 : decide (x4_1 ≤ (wrap64 (x4_1 + 3))) = true := decide_eq_true c5
    have c6b0 := eq_true (of_decide_eq_true (by first | (with_reducible assumption) | assumption) : (wrap64 (x4_1 + 3)) ≤ (a0.size : Int))
    replace H := Option.bind_eq_some_iff.mp H
    obtain ⟨t552, A70, H⟩ := H
    try dsimp only at H
    have A7 := Aside0.mk A70
    clear A70
    refine (Classical.em (t552.toList = ([] : List UInt8))).elim (fun c8 => ?a5_) (fun c8 => ?b5_)
   case' a5_ =>
    rw [if_pos c8] at H
    have c8b0 : (t552.toList == ([] : List UInt8)) = true := beq_iff_eq.mpr c8
    have c8b1 : (t552.toList != ([] : List UInt8)) = false := bne_eq_false_iff_eq.mpr c8
    clear c8
    refine (Classical.em (x3_1.length < 140737488355328)).elim (fun c10 => ?a6_) (fun c10 => ?b6_)
   case a6_ =>
    rw [if_pos c10] at H
    have LMc10 := Aside0.mk c10
    clear c10
    obtain ⟨y553, hy553⟩ : ∃ y_ : List Int, y_ = (x3_1 ++ [bt a0 x4_1]) := ⟨_, rfl⟩
    replace H : (gronx_zzLiterals.l0 k1 a0 y553 (wrap64 (x4_1 + 1))) = some r := by first | (rw [hy553]; with_reducible exact H) | (have H2_ := (Option.bind_some _ _).symm.trans H; rw [hy553]; with_reducible exact H2_) | (have H2_ := (Option.bind_some _ _).symm.trans H; with_reducible exact H2_) | with_reducible exact H | (rw [hy553]; exact H) | exact H
    have Ny553 := Aside0.mk hy553
    clear hy553
    have H' := Aside0.mk H
    clear H
    go_wp2_with (first | ((with_reducible refine gate_callee (f := 112) rfl ?_); refine goesL_ (some 20) rfl rfl Tryz.func112 (by kernel_rfl) rfl #[.string (a0.extract (x4_1 : Int).toNat ((wrap64 (x4_1 + 3)) : Int).toNat)] rfl (by (try simp only [List.map_toArray, List.map_cons, List.map_nil]); first | done | rfl | (simp only [List.length_drop, List.length_take]; rfl)) ?_; (with_reducible refine (gronx_literal.calls (a0.extract (x4_1 : Int).toNat ((wrap64 (x4_1 + 3)) : Int).toNat) t552 _ A7.out).mono ?_); rintro e w' ⟨rfl, ⟨nd, rfl⟩⟩; refine ⟨_, rfl, ?_⟩; have p9 : 0 ≤ (x4_1 : Int) := of_decide_eq_true (by first | (with_reducible assumption) | assumption); have q9 : x4_1 < (a0.size : Int) := of_decide_eq_true (by first | (with_reducible assumption) | assumption); have hx9 := bt_at a0 x4_1; replace p9 := eq_true p9; replace q9 := eq_true q9) | ((with_reducible refine gate_builtin (b := .append) (xs := #[.tmp 28, .tmp 32]) rfl ?_); at_builtin; refine Kd.R_append (Kd.int .u8) (w0 := w) w.heap.size rfl (.tmp 28) (.tmp 32) 163 5 (.int .u8 0) 1 rfl Tryz.underlying163 info5 rfl (by decide) (by omega) u3 x3_1 (bt a0 x4_1) [.int .u8 (bt a0 x4_1)] (fun _ => True) (fun _ => False) rfl rfl ?aP (fun _ hk => hk.elim) ?aF ?aO ?aB ?aS ?aL ?_; (case aP => exact rfl); (case aB => exact (by repeat (with_reducible first | exact HB.out | apply below_alloc | apply pw_below_drewN | apply below_drew1))); (case aF => exact (fun _ _ => trivial)); (case aO => exact (by (with_reducible repeat (first | apply Kd.R_alloc | apply Kd.R_drewN | apply Kd.R_drew)); exact HO_3.out)); (case aS => exact (below_size (by repeat (with_reducible first | exact HB.out | apply below_alloc | apply pw_below_drewN | apply below_drew1)))); (case aL => have := LMc10.out; omega); intro v554 w11 ho hb hg hat; rw [← Ny553.out] at ho; have n0_ := Aside0.mk (hb); have n1_ := Aside0.mk (ho); clear HB; clear HO_3; have HB := n0_; have HO555 := n1_; clear n0_ n1_; clear ho hb hg hat))
    go_roundg k1
    case measure => have := HK1.out; omega
    case rel => exact ⟨(y553), (wrap64 (x4_1 + 1)), (by first | rfl | (simp; done) | (simp [*]; done)), H', ⟨by have := HK1.out; omega⟩, ⟨by (with_reducible repeat (first | apply Kd.R_alloc | apply Kd.R_drewN | apply Kd.R_drew)); exact HO555.out⟩, ⟨by repeat (with_reducible first | exact HB.out | apply below_alloc | apply pw_below_drewN | apply below_drew1)⟩⟩
   case b6_ =>
    rw [if_neg c10] at H
    exact absurd H (by simp)
   case' b5_ =>
    rw [if_neg c8] at H
    have c8b0 : (t552.toList == ([] : List UInt8)) = false := beq_eq_false_iff_ne.mpr c8
    have c8b1 : (t552.toList != ([] : List UInt8)) = true := bne_iff_ne.mpr c8
    refine (Classical.em (x3_1.length + t552.size < 140737488355328)).elim (fun c12 => ?a7_) (fun c12 => ?b7_)
   case a7_ =>
    rw [if_pos c12] at H
    have LMc12 := Aside0.mk c12
    clear c12
    obtain ⟨y556, hy556⟩ : ∃ y_ : List Int, y_ = (x3_1 ++ bytesOf t552) := ⟨_, rfl⟩
    replace H : (gronx_zzLiterals.l0 k1 a0 y556 (wrap64 (x4_1 + 3))) = some r := by first | (rw [hy556]; with_reducible exact H) | (have H2_ := (Option.bind_some _ _).symm.trans H; rw [hy556]; with_reducible exact H2_) | (have H2_ := (Option.bind_some _ _).symm.trans H; with_reducible exact H2_) | with_reducible exact H | (rw [hy556]; exact H) | exact H
    have Ny556 := Aside0.mk hy556
    clear hy556
    have H' := Aside0.mk H
    clear H
    go_wp2_with (first | ((with_reducible refine gate_callee (f := 112) rfl ?_); refine goesL_ (some 20) rfl rfl Tryz.func112 (by kernel_rfl) rfl #[.string (a0.extract (x4_1 : Int).toNat ((wrap64 (x4_1 + 3)) : Int).toNat)] rfl (by (try simp only [List.map_toArray, List.map_cons, List.map_nil]); first | done | rfl | (simp only [List.length_drop, List.length_take]; rfl)) ?_; (with_reducible refine (gronx_literal.calls (a0.extract (x4_1 : Int).toNat ((wrap64 (x4_1 + 3)) : Int).toNat) t552 _ A7.out).mono ?_); rintro e w' ⟨rfl, ⟨nd, rfl⟩⟩; refine ⟨_, rfl, ?_⟩) | (at_builtin; refine print_append_str (w0 := w) w.heap.size rfl (.tmp 23) _ 163 9 5 rfl Tryz.underlying163 Tryz.underlying9 info5 u3 x3_1 t552 rfl rfl ?aO ?aB ?aS ?aL ?_; (case aB => exact (by repeat (with_reducible first | exact HB.out | apply below_alloc | apply pw_below_drewN | apply below_drew1))); (case aO => exact (Kd.own_of_R (by (with_reducible repeat (first | apply Kd.R_alloc | apply Kd.R_drewN | apply Kd.R_drew)); exact HO_3.out))); (case aS => exact (below_size (by repeat (with_reducible first | exact HB.out | apply below_alloc | apply pw_below_drewN | apply below_drew1)))); (case aL => have := LMc12.out; omega); intro v557 w13 ho0 hb hg; have ho := Kd.R_of_own (h1 := fun _ => rfl) (ok := fun _ => True) ho0 (fun _ _ => trivial); clear ho0; have hat := True.intro; rw [← Ny556.out] at ho; change Kd.R (Kd.int .u8) 5 w13 w.heap.size (fun _ => True) v557 y556 at ho; have n0_ := Aside0.mk (hb); have n1_ := Aside0.mk (ho); clear HB; clear HO_3; have HB := n0_; have HO558 := n1_; clear n0_ n1_; clear ho hb hg hat))
    go_roundg k1
    case measure => have := HK1.out; omega
    case rel => exact ⟨(y556), (wrap64 (x4_1 + 3)), (by first | rfl | (simp; done) | (simp [*]; done)), H', ⟨by have := HK1.out; omega⟩, ⟨by (with_reducible repeat (first | apply Kd.R_alloc | apply Kd.R_drewN | apply Kd.R_drew)); exact HO558.out⟩, ⟨by repeat (with_reducible first | exact HB.out | apply below_alloc | apply pw_below_drewN | apply below_drew1)⟩⟩
   case b7_ =>
    rw [if_neg c12] at H
    exact absurd H (by simp)
   case b4_ =>
    rw [if_neg c5] at H
    exact absurd H (by simp)
   case b3_ =>
    rw [if_neg c4] at H
    exact absurd H (by simp)
   case' b2_ =>
    rw [if_neg c3] at H
    have c3b0 : decide ((wrap64 (x4_1 + 3)) ≤ (a0.size : Int)) = false := decide_eq_false c3
    clear c3
    refine (Classical.em (0 ≤ x4_1)).elim (fun c14 => ?a8_) (fun c14 => ?b8_)
   case' a8_ =>
    rw [if_pos c14] at H
    have c14b0 : decide (0 ≤ x4_1) = true := decide_eq_true c14
    clear c14
    refine (Classical.em (x3_1.length < 140737488355328)).elim (fun c16 => ?a9_) (fun c16 => ?b9_)
   case a9_ =>
    rw [if_pos c16] at H
    have LMc16 := Aside0.mk c16
    clear c16
    obtain ⟨y559, hy559⟩ : ∃ y_ : List Int, y_ = (x3_1 ++ [bt a0 x4_1]) := ⟨_, rfl⟩
    replace H : (gronx_zzLiterals.l0 k1 a0 y559 (wrap64 (x4_1 + 1))) = some r := by first | (rw [hy559]; with_reducible exact H) | (have H2_ := (Option.bind_some _ _).symm.trans H; rw [hy559]; with_reducible exact H2_) | (have H2_ := (Option.bind_some _ _).symm.trans H; with_reducible exact H2_) | with_reducible exact H | (rw [hy559]; exact H) | exact H
    have Ny559 := Aside0.mk hy559
    clear hy559
    have H' := Aside0.mk H
    clear H
    have p15 : 0 ≤ (x4_1 : Int) := of_decide_eq_true (by first | (with_reducible assumption) | assumption)
    have q15 : x4_1 < (a0.size : Int) := of_decide_eq_true (by first | (with_reducible assumption) | assumption)
    have hx15 := bt_at a0 x4_1
    replace p15 := eq_true p15
    replace q15 := eq_true q15
    go_wp2_with (first | ((with_reducible refine gate_builtin (b := .append) (xs := #[.tmp 28, .tmp 32]) rfl ?_); at_builtin; refine Kd.R_append (Kd.int .u8) (w0 := w) w.heap.size rfl (.tmp 28) (.tmp 32) 163 5 (.int .u8 0) 1 rfl Tryz.underlying163 info5 rfl (by decide) (by omega) u3 x3_1 (bt a0 x4_1) [.int .u8 (bt a0 x4_1)] (fun _ => True) (fun _ => False) rfl rfl ?aP (fun _ hk => hk.elim) ?aF ?aO ?aB ?aS ?aL ?_; (case aP => exact rfl); (case aB => exact (by repeat (with_reducible first | exact HB.out | apply below_alloc | apply pw_below_drewN | apply below_drew1))); (case aF => exact (fun _ _ => trivial)); (case aO => exact (by (with_reducible repeat (first | apply Kd.R_alloc | apply Kd.R_drewN | apply Kd.R_drew)); exact HO_3.out)); (case aS => exact (below_size (by repeat (with_reducible first | exact HB.out | apply below_alloc | apply pw_below_drewN | apply below_drew1)))); (case aL => have := LMc16.out; omega); intro v560 w17 ho hb hg hat; rw [← Ny559.out] at ho; have n0_ := Aside0.mk (hb); have n1_ := Aside0.mk (ho); clear HB; clear HO_3; have HB := n0_; have HO561 := n1_; clear n0_ n1_; clear ho hb hg hat))
    go_roundg k1
    case measure => have := HK1.out; omega
    case rel => exact ⟨(y559), (wrap64 (x4_1 + 1)), (by first | rfl | (simp; done) | (simp [*]; done)), H', ⟨by have := HK1.out; omega⟩, ⟨by (with_reducible repeat (first | apply Kd.R_alloc | apply Kd.R_drewN | apply Kd.R_drew)); exact HO561.out⟩, ⟨by repeat (with_reducible first | exact HB.out | apply below_alloc | apply pw_below_drewN | apply below_drew1)⟩⟩
   case b9_ =>
    rw [if_neg c16] at H
    exact absurd H (by simp)
   case b8_ =>
    rw [if_neg c14] at H
    exact absurd H (by simp)
   case b1_ =>
    rw [if_neg c2] at H
    have c2b0 : decide (x4_1 < (a0.size : Int)) = false := decide_eq_false c2
    clear c2
    obtain rfl := Option.some.inj H
    have hcv18 := own_string (P := Tryz.prog) Tryz.underlying163 Tryz.underlying5 Tryz.underlying9 (Kd.own_of_R HO_3.out)
    go_wp2
    go_ret
    exact ⟨by first | rfl | (simp [errW_none, errW_some] <;> rfl) | (simp [*, errW_none, errW_some] <;> rfl), by repeat (with_reducible first | exact HB.out | apply below_alloc | apply pw_below_drewN | apply below_drew1)⟩
def strings_ToUpper.f (a0 : ByteArray) : Option ByteArray := if lowOnly a0 = true ∧ a0.size ≤ 100000 then some a0 else none
set_option maxRecDepth 100000 in
set_option maxHeartbeats 2000000 in
theorem strings_ToUpper.calls (a0 : ByteArray) (r : ByteArray) (w : World) (h : strings_ToUpper.f a0 = some r) :
    Calls Tryz.prog 90 #[.string a0] w fun e w' => e = .returned (.string r) ∧ Drawn0 w w' := by
  unfold strings_ToUpper.f at h
  split at h
  · rename_i hl
    obtain rfl := Option.some.inj h
    have HL := Aside0.mk (lowOnly_at a0 hl.1)
    have hsz : a0.size ≤ 100000 := hl.2
    clear h hl
    go_enter Tryz.func90, Tryz.ntmps90
    go_wp2
    go_loop [3, 4, 5] (fun v3 v4 v5 => ∃ k : Nat, k ≤ a0.size ∧ v3 = .bool true ∧ v4 = .bool false ∧ v5 = .int .i64 k) (fun _ _ v5 => a0.size - (intOf v5).toNat)
    case atStart => exact ⟨0, Nat.zero_le _, rfl, rfl, rfl⟩
    case round =>
      obtain ⟨k, hk, rfl, rfl, rfl⟩ := hrel
      by_cases hlt : k < a0.size
      · obtain ⟨hc0, hc1⟩ := HL.out k hlt
        have hb : ∀ h : k < a0.size, ((a0[k]'h).toNat : Int) = bt a0 (k : Int) := fun h => bt_at a0 (k : Int) h
        generalize bt a0 (k : Int) = c at hb hc0 hc1
        have hlt' : (k : Int) < (a0.size : Int) := by omega
        go_wp2
        go_round
        case rel => exact ⟨k + 1, by omega, rfl, rfl, by go_num⟩
        case measure => simp [intOf]; omega
      · go_wp2
        go_ret
        exact ⟨rfl, Drawn0.refl _⟩
  · cases h
def gronx_zzReplaceAll.l0 : Nat → ByteArray → ByteArray → ByteArray → List Int → Option (ByteArray)
  | 0, _, _, _, _ => none
  | k + 1, x0, x1, x2, x7 => (gronx_zzIndex.f k x0 x1).bind fun t562 => (if t562 < 0 then (if x7.length + x0.size < 140737488355328 then (some (strOfNums (x7 ++ bytesOf x0))) else (none)) else (if 0 ≤ t562 then (if t562 ≤ (x0.size : Int) then (if x7.length + (x0.extract 0 (t562 : Int).toNat).size < 140737488355328 then ((some (x7 ++ bytesOf (x0.extract 0 (t562 : Int).toNat) : List Int)).bind fun y566 => (if y566.length + x2.size < 140737488355328 then (if 0 ≤ (wrap64 (t562 + (x1.size : Int))) then (if (wrap64 (t562 + (x1.size : Int))) ≤ (x0.size : Int) then (gronx_zzReplaceAll.l0 k (x0.extract ((wrap64 (t562 + (x1.size : Int))) : Int).toNat x0.size) x1 x2 (y566 ++ bytesOf x2)) else (none)) else (none)) else (none))) else (none)) else (none)) else (none)))
def gronx_zzReplaceAll.f (k : Nat) (a0 : ByteArray) (a1 : ByteArray) (a2 : ByteArray) : Option (ByteArray) := gronx_zzReplaceAll.l0 k a0 a1 a2 ([] : List Int)
set_option maxHeartbeats 8000000 in
set_option maxRecDepth 100000 in
theorem gronx_zzReplaceAll.calls (k : Nat) (a0 : ByteArray) (a1 : ByteArray) (a2 : ByteArray) (r : ByteArray) (w : World) (h : gronx_zzReplaceAll.f k a0 a1 a2 = some r) :
    Calls Tryz.prog 91 #[.string a0, .string a1, .string a2] w fun e w' => e = .returned (.string r) ∧ Below w.heap.size w w' := by
 have HB := Aside0.mk (Below.refl w.heap.size w)
 have H : (gronx_zzReplaceAll.l0 k a0 a1 a2 ([] : List Int)) = some r := h
 clear h
 have H' := Aside0.mk H
 clear H
 go_enter Tryz.func91, Tryz.ntmps91
 go_wp2
 go_loopg [0, 7] k (fun kq v0 v7 w' => ∃ (x0_1 : ByteArray) (x7_1 : List Int), v0 = .string x0_1 ∧ Aside0 (gronx_zzReplaceAll.l0 kq x0_1 a1 a2 x7_1 = some r) ∧ Aside0 (kq ≤ k) ∧ Aside0 (Kd.R (Kd.int .u8) 5 w' w.heap.size (fun _ => True) v7 x7_1) ∧ Aside0 (Below w.heap.size w w'))
 case atStart => exact ⟨(a0), (([] : List Int)), (by first | rfl | (simp; done) | (simp [*]; done)), H', ⟨Nat.le_refl _⟩, ⟨by first | exact Kd.R_nil _ _ _ _ _ | exact Kd.N_nil _ _ _ _ _ | exact Kd.V_nil _ _ _ _ _ | exact Kd.Q_nil _ _ _ _ _ | exact Kd.S_nil _ _ _ _ _⟩, ⟨by repeat (with_reducible first | exact HB.out | apply below_alloc | apply pw_below_drewN | apply below_drew1)⟩⟩
 case round =>
  clear H'
  obtain ⟨x0_1, x7_1, rfl, HA, HK1, HO_7, HB⟩ := hrel
  cases gk with
  | zero => exact absurd HA.out (by simp [gronx_zzReplaceAll.l0])
  | succ k1 =>
   have H := HA.out
   clear HA
   simp only [gronx_zzReplaceAll.l0] at H
   replace H := Option.bind_eq_some_iff.mp H
   obtain ⟨t562, A40, H⟩ := H
   try dsimp only at H
   have A4 := Aside0.mk A40
   clear A40
   refine (Classical.em (t562 < 0)).elim (fun c5 => ?a1_) (fun c5 => ?b1_)
   case' a1_ =>
    rw [if_pos c5] at H
    have c5b0 : decide (t562 < 0) = true := decide_eq_true c5
    clear c5
    refine (Classical.em (x7_1.length + x0_1.size < 140737488355328)).elim (fun c6 => ?a2_) (fun c6 => ?b2_)
   case a2_ =>
    rw [if_pos c6] at H
    have LMc6 := Aside0.mk c6
    clear c6
    obtain ⟨y563, hy563⟩ : ∃ y_ : List Int, y_ = (x7_1 ++ bytesOf x0_1) := ⟨_, rfl⟩
    replace H : (some (strOfNums y563)) = some r := by first | (rw [hy563]; with_reducible exact H) | (have H2_ := (Option.bind_some _ _).symm.trans H; rw [hy563]; with_reducible exact H2_) | (have H2_ := (Option.bind_some _ _).symm.trans H; with_reducible exact H2_) | with_reducible exact H | (rw [hy563]; exact H) | exact H
    have Ny563 := Aside0.mk hy563
    clear hy563
    obtain rfl := Option.some.inj H
    go_wp2_with (first | ((with_reducible refine gate_callee (f := 65) rfl ?_); refine goesL_ (some 11) rfl rfl Tryz.func65 (by kernel_rfl) rfl #[.string x0_1, .string a1] rfl (by (try simp only [List.map_toArray, List.map_cons, List.map_nil]); first | done | rfl | (simp only [List.length_drop, List.length_take]; rfl)) ?_; (with_reducible refine (gronx_zzIndex.calls k1 x0_1 a1 t562 _ A4.out).mono ?_); rintro e w' ⟨rfl, ⟨nd, rfl⟩⟩; refine ⟨_, rfl, ?_⟩) | (at_builtin; refine print_append_str (w0 := w) w.heap.size rfl (.tmp 14) _ 163 9 5 rfl Tryz.underlying163 Tryz.underlying9 info5 u7 x7_1 x0_1 rfl rfl ?aO ?aB ?aS ?aL ?_; (case aB => exact (by repeat (with_reducible first | exact HB.out | apply below_alloc | apply pw_below_drewN | apply below_drew1))); (case aO => exact (Kd.own_of_R (by (with_reducible repeat (first | apply Kd.R_alloc | apply Kd.R_drewN | apply Kd.R_drew)); exact HO_7.out))); (case aS => exact (below_size (by repeat (with_reducible first | exact HB.out | apply below_alloc | apply pw_below_drewN | apply below_drew1)))); (case aL => have := LMc6.out; omega); intro v564 w7 ho0 hb hg; have ho := Kd.R_of_own (h1 := fun _ => rfl) (ok := fun _ => True) ho0 (fun _ _ => trivial); clear ho0; have hat := True.intro; rw [← Ny563.out] at ho; change Kd.R (Kd.int .u8) 5 w7 w.heap.size (fun _ => True) v564 y563 at ho; have n0_ := Aside0.mk (hb); have n1_ := Aside0.mk (ho); clear HB; clear HO_7; have HB := n0_; have HO565 := n1_; clear n0_ n1_; clear ho hb hg hat; have hcv8 := own_string (P := Tryz.prog) Tryz.underlying163 Tryz.underlying5 Tryz.underlying9 (Kd.own_of_R HO565.out)))
    go_ret
    exact ⟨by first | rfl | (simp [errW_none, errW_some] <;> rfl) | (simp [*, errW_none, errW_some] <;> rfl), by repeat (with_reducible first | exact HB.out | apply below_alloc | apply pw_below_drewN | apply below_drew1)⟩
   case b2_ =>
    rw [if_neg c6] at H
    exact absurd H (by simp)
   case' b1_ =>
    rw [if_neg c5] at H
    have c5b0 : decide (t562 < 0) = false := decide_eq_false c5
    clear c5
    refine (Classical.em (0 ≤ t562)).elim (fun c9 => ?a3_) (fun c9 => ?b3_)
   case' a3_ =>
    rw [if_pos c9] at H
    have c9b0 := eq_true c9
    have c9b1 : decide (0 ≤ t562) = true := decide_eq_true c9
    clear c9
    refine (Classical.em (t562 ≤ (x0_1.size : Int))).elim (fun c10 => ?a4_) (fun c10 => ?b4_)
   case' a4_ =>
    rw [if_pos c10] at H
    have c10b0 := eq_true c10
    have c10b1 : decide (t562 ≤ (x0_1.size : Int)) = true := decide_eq_true c10
    clear c10
    refine (Classical.em (x7_1.length + (x0_1.extract 0 (t562 : Int).toNat).size < 140737488355328)).elim (fun c11 => ?a5_) (fun c11 => ?b5_)
   case' a5_ =>
    rw [if_pos c11] at H
    have LMc11 := Aside0.mk c11
    clear c11
    obtain ⟨y566, hy566⟩ : ∃ y_ : List Int, y_ = (x7_1 ++ bytesOf (x0_1.extract 0 (t562 : Int).toNat)) := ⟨_, rfl⟩
    replace H : (if y566.length + a2.size < 140737488355328 then (if 0 ≤ (wrap64 (t562 + (a1.size : Int))) then (if (wrap64 (t562 + (a1.size : Int))) ≤ (x0_1.size : Int) then (gronx_zzReplaceAll.l0 k1 (x0_1.extract ((wrap64 (t562 + (a1.size : Int))) : Int).toNat x0_1.size) a1 a2 (y566 ++ bytesOf a2)) else (none)) else (none)) else (none)) = some r := by first | (rw [hy566]; with_reducible exact H) | (have H2_ := (Option.bind_some _ _).symm.trans H; rw [hy566]; with_reducible exact H2_) | (have H2_ := (Option.bind_some _ _).symm.trans H; with_reducible exact H2_) | with_reducible exact H | (rw [hy566]; exact H) | exact H
    have Ny566 := Aside0.mk hy566
    clear hy566
    refine (Classical.em (y566.length + a2.size < 140737488355328)).elim (fun c12 => ?a6_) (fun c12 => ?b6_)
   case' a6_ =>
    rw [if_pos c12] at H
    have LMc12 := Aside0.mk c12
    clear c12
    obtain ⟨y569, hy569⟩ : ∃ y_ : List Int, y_ = (y566 ++ bytesOf a2) := ⟨_, rfl⟩
    replace H : (if 0 ≤ (wrap64 (t562 + (a1.size : Int))) then (if (wrap64 (t562 + (a1.size : Int))) ≤ (x0_1.size : Int) then (gronx_zzReplaceAll.l0 k1 (x0_1.extract ((wrap64 (t562 + (a1.size : Int))) : Int).toNat x0_1.size) a1 a2 y569) else (none)) else (none)) = some r := by first | (rw [hy569]; with_reducible exact H) | (have H2_ := (Option.bind_some _ _).symm.trans H; rw [hy569]; with_reducible exact H2_) | (have H2_ := (Option.bind_some _ _).symm.trans H; with_reducible exact H2_) | with_reducible exact H | (rw [hy569]; exact H) | exact H
    have Ny569 := Aside0.mk hy569
    clear hy569
    obtain ⟨ji13, hji13⟩ : ∃ j_ : Int, (wrap64 (t562 + (a1.size : Int))) = j_ := ⟨_, rfl⟩
    replace H : (if 0 ≤ (ji13) then (if (ji13) ≤ (x0_1.size : Int) then (gronx_zzReplaceAll.l0 k1 (x0_1.extract ((ji13) : Int).toNat x0_1.size) a1 a2 y569) else (none)) else (none)) = some r := by first | (rw [hji13] at H; exact H) | (simp only [hji13] at H ⊢; exact H)
    (try rw [hji13] at A4)
    have hji13w : (IntKind.i64.wrap (t562 + (a1.size : Int))) = ji13 := (i64_w _).trans hji13
    refine (Classical.em (0 ≤ (ji13))).elim (fun c14 => ?a7_) (fun c14 => ?b7_)
   case' a7_ =>
    rw [if_pos c14] at H
    have c14b0 := eq_true c14
    have c14b1 : decide (0 ≤ (ji13)) = true := decide_eq_true c14
    clear c14
    refine (Classical.em ((ji13) ≤ (x0_1.size : Int))).elim (fun c15 => ?a8_) (fun c15 => ?b8_)
   case a8_ =>
    rw [if_pos c15] at H
    have c15b0 := eq_true c15
    have c15b1 : decide ((ji13) ≤ (x0_1.size : Int)) = true := decide_eq_true c15
    clear c15
    have H' := Aside0.mk H
    clear H
    go_wp2_with (first | ((with_reducible refine gate_callee (f := 65) rfl ?_); refine goesL_ (some 11) rfl rfl Tryz.func65 (by kernel_rfl) rfl #[.string x0_1, .string a1] rfl (by (try simp only [List.map_toArray, List.map_cons, List.map_nil]); first | done | rfl | (simp only [List.length_drop, List.length_take]; rfl)) ?_; (with_reducible refine (gronx_zzIndex.calls k1 x0_1 a1 t562 _ A4.out).mono ?_); rintro e w' ⟨rfl, ⟨nd, rfl⟩⟩; refine ⟨_, rfl, ?_⟩) | (at_builtin; refine print_append_str (w0 := w) w.heap.size rfl (.tmp 18) _ 163 9 5 rfl Tryz.underlying163 Tryz.underlying9 info5 u7 x7_1 (x0_1.extract 0 (t562 : Int).toNat) rfl rfl ?aO ?aB ?aS ?aL ?_; (case aB => exact (by repeat (with_reducible first | exact HB.out | apply below_alloc | apply pw_below_drewN | apply below_drew1))); (case aO => exact (Kd.own_of_R (by (with_reducible repeat (first | apply Kd.R_alloc | apply Kd.R_drewN | apply Kd.R_drew)); exact HO_7.out))); (case aS => exact (below_size (by repeat (with_reducible first | exact HB.out | apply below_alloc | apply pw_below_drewN | apply below_drew1)))); (case aL => have := LMc11.out; omega); intro v567 w16 ho0 hb hg; have ho := Kd.R_of_own (h1 := fun _ => rfl) (ok := fun _ => True) ho0 (fun _ _ => trivial); clear ho0; have hat := True.intro; rw [← Ny566.out] at ho; change Kd.R (Kd.int .u8) 5 w16 w.heap.size (fun _ => True) v567 y566 at ho; have n0_ := Aside0.mk (hb); have n1_ := Aside0.mk (ho); clear HB; clear HO_7; have HB := n0_; have HO568 := n1_; clear n0_ n1_; clear ho hb hg hat) | (at_builtin; refine print_append_str (w0 := w) w.heap.size rfl (.tmp 22) _ 163 9 5 rfl Tryz.underlying163 Tryz.underlying9 info5 v567 y566 a2 rfl rfl ?aO ?aB ?aS ?aL ?_; (case aB => exact (by repeat (with_reducible first | exact HB.out | apply below_alloc | apply pw_below_drewN | apply below_drew1))); (case aO => exact (Kd.own_of_R (by (with_reducible repeat (first | apply Kd.R_alloc | apply Kd.R_drewN | apply Kd.R_drew)); exact HO568.out))); (case aS => exact (below_size (by repeat (with_reducible first | exact HB.out | apply below_alloc | apply pw_below_drewN | apply below_drew1)))); (case aL => have := LMc12.out; omega); intro v570 w17 ho0 hb hg; have ho := Kd.R_of_own (h1 := fun _ => rfl) (ok := fun _ => True) ho0 (fun _ _ => trivial); clear ho0; have hat := True.intro; rw [← Ny569.out] at ho; change Kd.R (Kd.int .u8) 5 w17 w.heap.size (fun _ => True) v570 y569 at ho; have n0_ := Aside0.mk (hb); have n1_ := Aside0.mk (ho); clear HB; clear HO568; have HB := n0_; have HO571 := n1_; clear n0_ n1_; clear ho hb hg hat))
    go_roundg k1
    case measure => have := HK1.out; omega
    case rel => exact ⟨(x0_1.extract ((ji13) : Int).toNat x0_1.size), (y569), (by first | rfl | (simp; done) | (simp only [← hji13] <;> (first | rfl | simp)) | (simp [*]; done)), H', ⟨by have := HK1.out; omega⟩, ⟨by (with_reducible repeat (first | apply Kd.R_alloc | apply Kd.R_drewN | apply Kd.R_drew)); exact HO571.out⟩, ⟨by repeat (with_reducible first | exact HB.out | apply below_alloc | apply pw_below_drewN | apply below_drew1)⟩⟩
   case b8_ =>
    rw [if_neg c15] at H
    exact absurd H (by simp)
   case b7_ =>
    rw [if_neg c14] at H
    exact absurd H (by simp)
   case b6_ =>
    rw [if_neg c12] at H
    exact absurd H (by simp)
   case b5_ =>
    rw [if_neg c11] at H
    exact absurd H (by simp)
   case b4_ =>
    rw [if_neg c10] at H
    exact absurd H (by simp)
   case b3_ =>
    rw [if_neg c9] at H
    exact absurd H (by simp)
def gronx_normalize.j0 : Nat → ByteArray → Option (List ByteArray)
  | 0, _ => none
  | k + 1, x0 => (gronx_zzSpaces.f k x0).bind fun t576 => ((strings_ToUpper.f t576).bind fun t577 => ((gronx_zzLiterals.f k t577).bind fun t578 => ((gronx_zzReplaceAll.f k t578 (⟨#[32, 32]⟩ : ByteArray) (⟨#[32]⟩ : ByteArray)).bind fun t579 => ((gronx_zzSplit.f k t579 (⟨#[32]⟩ : ByteArray)).bind fun t580 => (some t580)))))
def gronx_normalize.f (k : Nat) (a0 : ByteArray) : Option (List ByteArray) := (gronx_zzTrim.f k a0).bind fun t572 => ((strings_ToLower.f t572).bind fun t573 => ((gronx_expression.f t573).bind fun bt574 => (if bt574.2 = true then (gronx_normalize.j0 k bt574.1) else (gronx_normalize.j0 k t572))))
set_option maxHeartbeats 8000000 in
set_option maxRecDepth 100000 in
theorem gronx_normalize.calls (k : Nat) (a0 : ByteArray) (r : List ByteArray) (w : World) (h : gronx_normalize.f k a0 = some r) :
    Calls Tryz.prog 61 #[.string a0] w fun e w' => ∃ v0_ : Value, e = .returned (v0_) ∧ Kd.R Kd.string 9 w' w.heap.size (fun _ => True) v0_ r ∧ Below w.heap.size w w' := by
 have HB := Aside0.mk (Below.refl w.heap.size w)
 have H : ((gronx_zzTrim.f k a0).bind fun t572 => ((strings_ToLower.f t572).bind fun t573 => ((gronx_expression.f t573).bind fun bt574 => (if bt574.2 = true then (gronx_normalize.j0 k bt574.1) else (gronx_normalize.j0 k t572))))) = some r := h
 clear h
 replace H := Option.bind_eq_some_iff.mp H
 obtain ⟨t572, A20, H⟩ := H
 try dsimp only at H
 have A2 := Aside0.mk A20
 clear A20
 replace H := Option.bind_eq_some_iff.mp H
 obtain ⟨t573, A30, H⟩ := H
 try dsimp only at H
 have A3 := Aside0.mk A30
 clear A30
 replace H := Option.bind_eq_some_iff.mp H
 obtain ⟨⟨t574, t575⟩, A40, H⟩ := H
 try dsimp only at H
 have A4 := Aside0.mk A40
 clear A40
 have HC5 := Aside0.mk H
 clear H
 go_enter Tryz.func61, Tryz.ntmps61
 go_upto_if 13 with (first | ((with_reducible refine gate_callee (f := 85) rfl ?_); refine goesL_ (some 6) rfl rfl Tryz.func85 (by kernel_rfl) rfl #[.string a0] rfl (by (try simp only [List.map_toArray, List.map_cons, List.map_nil]); first | done | rfl | (simp only [List.length_drop, List.length_take]; rfl)) ?_; (with_reducible refine (gronx_zzTrim.calls k a0 t572 _ A2.out).mono ?_); rintro e w' ⟨rfl, ⟨nd, rfl⟩⟩; refine ⟨_, rfl, ?_⟩) | ((with_reducible refine gate_callee (f := 87) rfl ?_); refine goesL_ (some 9) rfl rfl Tryz.func87 (by kernel_rfl) rfl #[.string t572] rfl (by (try simp only [List.map_toArray, List.map_cons, List.map_nil]); first | done | rfl | (simp only [List.length_drop, List.length_take]; rfl)) ?_; (with_reducible refine (strings_ToLower.calls t572 t573 _ A3.out).mono ?_); rintro e w' ⟨rfl, ⟨nd, rfl⟩⟩; refine ⟨_, rfl, ?_⟩) | ((with_reducible refine gate_callee (f := 86) rfl ?_); refine goesL_ (some 10) rfl rfl Tryz.func86 (by kernel_rfl) rfl #[.string t573] rfl (by (try simp only [List.map_toArray, List.map_cons, List.map_nil]); first | done | rfl | (simp only [List.length_drop, List.length_take]; rfl)) ?_; (with_reducible refine (gronx_expression.calls t573 t574 t575 _ A4.out).mono ?_); rintro e w' ⟨rfl, ⟨nd, rfl⟩⟩; refine ⟨_, rfl, ?_⟩))
 (try simp only [Act.put, List.setIfInBounds_toArray, List.set_cons_zero, List.set_cons_succ])
 go_cut [0] (fun v0 wc => ∃ (kq : Nat) (x0_4 : ByteArray), v0 = .string x0_4 ∧ Aside0 (gronx_normalize.j0 kq x0_4 = some r) ∧ Aside0 (kq ≤ k) ∧ Aside0 (Below w.heap.size w wc))
 case first =>
  have H := HC5.out
  clear HC5
  refine (Classical.em (t575 = true)).elim (fun c6 => ?a1_) (fun c6 => ?b1_)
  case a1_ =>
   subst c6
   rw [if_pos rfl] at H
   have H' := Aside0.mk H
   clear H
   go_wp2
   go_meet
   case rel => exact ⟨_, (t574), (by first | rfl | (simp; done) | (simp [*]; done)), H', ⟨by first | omega | exact Nat.le_refl _⟩, ⟨by repeat (with_reducible first | exact HB.out | apply below_alloc | apply pw_below_drewN | apply below_drew1)⟩⟩
  case b1_ =>
   replace c6 := Bool.eq_false_iff.mpr c6
   subst c6
   rw [if_neg (show ¬ (false = true) by decide)] at H
   have H' := Aside0.mk H
   clear H
   go_wp2
   go_meet
   case rel => exact ⟨_, (t572), (by first | rfl | (simp; done) | (simp [*]; done)), H', ⟨by first | omega | exact Nat.le_refl _⟩, ⟨by repeat (with_reducible first | exact HB.out | apply below_alloc | apply pw_below_drewN | apply below_drew1)⟩⟩
 case rest =>
  clear HC5
  try clear c6
  obtain ⟨kq, x0_4, rfl, HA, HJ4, HB⟩ := hcut
  cases kq with
  | zero => exact absurd HA.out (by simp [gronx_normalize.j0])
  | succ kj4 =>
   have H := HA.out
   clear HA
   simp only [gronx_normalize.j0] at H
   replace H := Option.bind_eq_some_iff.mp H
   obtain ⟨t576, A70, H⟩ := H
   try dsimp only at H
   have A7 := Aside0.mk A70
   clear A70
   replace H := Option.bind_eq_some_iff.mp H
   obtain ⟨t577, A80, H⟩ := H
   try dsimp only at H
   have A8 := Aside0.mk A80
   clear A80
   replace H := Option.bind_eq_some_iff.mp H
   obtain ⟨t578, A90, H⟩ := H
   try dsimp only at H
   have A9 := Aside0.mk A90
   clear A90
   replace H := Option.bind_eq_some_iff.mp H
   obtain ⟨t579, A100, H⟩ := H
   try dsimp only at H
   have A10 := Aside0.mk A100
   clear A100
   replace H := Option.bind_eq_some_iff.mp H
   obtain ⟨t580, A110, H⟩ := H
   try dsimp only at H
   have A11 := Aside0.mk A110
   clear A110
   obtain rfl := Option.some.inj H
   go_wp2_with (first | ((with_reducible refine gate_callee (f := 88) rfl ?_); refine goesL_ (some 16) rfl rfl Tryz.func88 (by kernel_rfl) rfl #[.string x0_4] rfl (by (try simp only [List.map_toArray, List.map_cons, List.map_nil]); first | done | rfl | (simp only [List.length_drop, List.length_take]; rfl)) ?_; (with_reducible refine (gronx_zzSpaces.calls kj4 x0_4 t576 _ A7.out).mono ?_); rintro e w12 ⟨rfl, hb⟩; refine ⟨_, rfl, ?_⟩; have n0_ := Aside0.mk (below_step (by repeat (with_reducible first | exact HB.out | apply below_alloc | apply pw_below_drewN | apply below_drew1)) hb); clear HB; have HB := n0_; clear n0_; (try clear hb); (try clear hb2); (try clear hk); (try clear hi)) | ((with_reducible refine gate_callee (f := 90) rfl ?_); refine goesL_ (some 18) rfl rfl Tryz.func90 (by kernel_rfl) rfl #[.string t576] rfl (by (try simp only [List.map_toArray, List.map_cons, List.map_nil]); first | done | rfl | (simp only [List.length_drop, List.length_take]; rfl)) ?_; (with_reducible refine (strings_ToUpper.calls t576 t577 _ A8.out).mono ?_); rintro e w' ⟨rfl, ⟨nd, rfl⟩⟩; refine ⟨_, rfl, ?_⟩) | ((with_reducible refine gate_callee (f := 89) rfl ?_); refine goesL_ (some 19) rfl rfl Tryz.func89 (by kernel_rfl) rfl #[.string t577] rfl (by (try simp only [List.map_toArray, List.map_cons, List.map_nil]); first | done | rfl | (simp only [List.length_drop, List.length_take]; rfl)) ?_; (with_reducible refine (gronx_zzLiterals.calls kj4 t577 t578 _ A9.out).mono ?_); rintro e w13 ⟨rfl, hb⟩; refine ⟨_, rfl, ?_⟩; have n0_ := Aside0.mk (below_step (by repeat (with_reducible first | exact HB.out | apply below_alloc | apply pw_below_drewN | apply below_drew1)) hb); clear HB; have HB := n0_; clear n0_; (try clear hb); (try clear hb2); (try clear hk); (try clear hi)) | ((with_reducible refine gate_callee (f := 91) rfl ?_); refine goesL_ (some 21) rfl rfl Tryz.func91 (by kernel_rfl) rfl #[.string t578, .string (⟨#[32, 32]⟩ : ByteArray), .string (⟨#[32]⟩ : ByteArray)] rfl (by (try simp only [List.map_toArray, List.map_cons, List.map_nil]); first | done | rfl | (simp only [List.length_drop, List.length_take]; rfl)) ?_; (with_reducible refine (gronx_zzReplaceAll.calls kj4 t578 (⟨#[32, 32]⟩ : ByteArray) (⟨#[32]⟩ : ByteArray) t579 _ A10.out).mono ?_); rintro e w14 ⟨rfl, hb⟩; refine ⟨_, rfl, ?_⟩; have n0_ := Aside0.mk (below_step (by repeat (with_reducible first | exact HB.out | apply below_alloc | apply pw_below_drewN | apply below_drew1)) hb); clear HB; have HB := n0_; clear n0_; (try clear hb); (try clear hb2); (try clear hk); (try clear hi)) | ((with_reducible refine gate_callee (f := 64) rfl ?_); refine goesL_ (some 22) rfl rfl Tryz.func64 (by kernel_rfl) rfl #[.string t579, .string (⟨#[32]⟩ : ByteArray)] rfl (by (try simp only [List.map_toArray, List.map_cons, List.map_nil]); first | done | rfl | (simp only [List.length_drop, List.length_take]; rfl)) ?_; (with_reducible refine (gronx_zzSplit.calls kj4 t579 (⟨#[32]⟩ : ByteArray) t580 _ A11.out).mono ?_); rintro e w15 ⟨v581, rfl, ho0, hb⟩; refine ⟨_, rfl, ?_⟩; have n0_ := Aside0.mk (Kd.R_lower ho0 (below_size (by repeat (with_reducible first | exact HB.out | apply below_alloc | apply pw_below_drewN | apply below_drew1)))); have n1_ := Aside0.mk (below_step (by repeat (with_reducible first | exact HB.out | apply below_alloc | apply pw_below_drewN | apply below_drew1)) hb); clear HB; have HO582 := n0_; have HB := n1_; clear n0_ n1_; (try clear hb); (try clear hb2); (try clear hk); (try clear hi); (try clear ho0)))
   go_ret
   exact ⟨_, by first | rfl | (simp [errW_none, errW_some] <;> rfl) | (simp [*, errW_none, errW_some] <;> rfl), by (with_reducible repeat (first | apply Kd.R_alloc | apply Kd.R_drewN | apply Kd.R_drew)); exact HO582.out, by repeat (with_reducible first | exact HB.out | apply below_alloc | apply pw_below_drewN | apply below_drew1)⟩
end Go.Proofs.YtjpcdkhapeejjaaGreatDoor.A
