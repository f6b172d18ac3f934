/- Steps of the proof of the law: contracts of functions of the given program, and plain lemmas about what they compute.
Conditions: none beyond those that each theorem names. -/
import Derived.Test.YtjpcdkhapeejjaaGreatDoorK22
import Derived.Test.YtjpcdkhapeejjaaGreatDoorK29
set_option linter.unusedVariables false
set_option linter.unusedSimpArgs false
open Go.RowKit Go.Proofs.YtjpcdkhapeejjaaGreatDoorW.PrintWords Go.Proofs.YtjpcdkhapeejjaaGreatDoorW.PrintLast Go.Proofs.YtjpcdkhapeejjaaGreatDoorW.PrintMore
namespace Go.Proofs.YtjpcdkhapeejjaaGreatDoor.A
mutual
def spec_Text.l0 : Nat → ByteArray → List (List (S54)) → Int → Int → List (List (S54)) → Bool → Option (ByteArray)
  | 0, _, _, _, _, _, _ => none
  | k + 1, x3, x7, x8, x9, x205000, x205001 => if x9 < x8 then (if 0 ≤ x9 then (if x9 < (x7.length : Int) then (if x9 = 0 then (spec_Text.j1 k x3 (rd_L5 x7 x9) x7 x8 x9 (!x205001) x205000 x205001) else (spec_Text.j1 k x3 (rd_L5 x7 x9) x7 x8 x9 false x205000 x205001)) else (none)) else (none)) else (some x3)
def spec_Text.j1 : Nat → ByteArray → List (S54) → List (List (S54)) → Int → Int → Bool → List (List (S54)) → Bool → Option (ByteArray)
  | 0, _, _, _, _, _, _, _, _ => none
  | k + 1, x3, x5, x7, x8, x9, x20, x205000, x205001 => if x20 = true then (spec_Text.l0 k x3 x7 x8 (wrap64 (x9 + 1)) x205000 x205001) else (if x3.toList = ([] : List UInt8) then ((spec_FieldText.f k x5).bind fun t206 => (if x3.size + t206.size ≤ 9223372036854775807 then (spec_Text.l0 k (x3 ++ t206) x7 x8 (wrap64 (x9 + 1)) x205000 x205001) else (none))) else (if x3.size + 1 ≤ 9223372036854775807 then ((spec_FieldText.f k x5).bind fun t207 => (if (x3 ++ (⟨#[32]⟩ : ByteArray)).size + t207.size ≤ 9223372036854775807 then (spec_Text.l0 k ((x3 ++ (⟨#[32]⟩ : ByteArray)) ++ t207) x7 x8 (wrap64 (x9 + 1)) x205000 x205001) else (none))) else (none)))
end
def spec_Text.f (k : Nat) (l0_0 : List (List (S54))) (a0_1 : Bool) : Option (ByteArray) := spec_Text.l0 k (⟨#[]⟩ : ByteArray) l0_0 (l0_0.length : Int) 0 l0_0 a0_1
set_option maxHeartbeats 8000000 in
set_option maxRecDepth 100000 in
theorem spec_Text.calls (k : Nat) (A0_0 : Option Addr) (c0_0 : Nat) (l0_0 : List (List (S54))) (a0_1 : Bool) (r : ByteArray) (w : World) (hr0_0 : Kd.C (Kd.slice 54 k54) w A0_0 l0_0.length l0_0) (hc0_0 : l0_0.length ≤ c0_0) (h : spec_Text.f k l0_0 a0_1 = some r) :
    Calls Tryz.prog 16 #[.agg #[.slice A0_0 l0_0.length c0_0, .bool a0_1]] w fun e w' => e = .returned (.string r) ∧ Below w.heap.size w w' := by
 have hu30 := Tryz.underlying30
 have HR0_0 := Aside0.mk hr0_0
 have HC0_0 := Aside0.mk hc0_0
 clear hr0_0 hc0_0
 have HB := Aside0.mk (Below.refl w.heap.size w)
 have H : (spec_Text.l0 k (⟨#[]⟩ : ByteArray) l0_0 (l0_0.length : Int) 0 l0_0 a0_1) = some r := h
 clear h
 have H' := Aside0.mk H
 clear H
 go_enter Tryz.func16, Tryz.ntmps16
 go_wp2_with (first | ((with_reducible refine gate_dst (N := 1) rfl ?_); refine box_event ?hg (N := 1) ?hd (cs := #[.slice A0_0 l0_0.length c0_0, .bool a0_1]) (t := 30) ?hr ?_; (case hd => rfl); (case hg => rfl); (case hr => first | (go_simp; done) | (go_simp; rfl)); intro gb204 hg w2 hbox hb; have n0_ := Aside0.mk (below_step (by repeat (with_reducible first | exact HB.out | apply below_alloc | apply pw_below_drewN | apply below_drew1)) hb); have n1_ := Aside0.mk (hbox); have n2_ := Aside0.mk ((by rw [hg]; exact (below_size (by repeat (with_reducible first | exact HB.out | apply below_alloc | apply pw_below_drewN | apply below_drew1))) : w.heap.size ≤ gb204)); have n3_ := Aside0.mk ((by rw [hg]; exact (below_size (by repeat (with_reducible first | exact HB.out | apply below_alloc | apply pw_below_drewN | apply below_drew1))) : w.heap.size ≤ gb204)); clear HB; have HB := n0_; have BK204 := n1_; have GW204 := n2_; have GE204 := n3_; clear n0_ n1_ n2_ n3_; clear hb hbox hg; have hcz3_0 : w2.cell? ⟨gb204, 0, none⟩ = some (.slice A0_0 l0_0.length c0_0) := (blk_cell BK204.out 0).trans rfl; have hcz3_1 : w2.cell? ⟨gb204, 1, none⟩ = some (.bool a0_1) := (blk_cell BK204.out 1).trans rfl; have hfz3_0 := blk_frozen BK204.out 0; have hfz3_1 := blk_frozen BK204.out 1))
 go_loopg [3, 9] k (fun kq v3 v9 w' => ∃ (x3_1 : ByteArray) (x9_1 : Int), v3 = .string x3_1 ∧ v9 = .int .i64 x9_1 ∧ Aside0 (spec_Text.l0 kq x3_1 l0_0 (l0_0.length : Int) x9_1 l0_0 a0_1 = some r) ∧ Aside0 (kq ≤ k) ∧ Aside0 (w'.heap[gb204]? = some (.cells #[(.slice A0_0 l0_0.length c0_0), .bool a0_1] 30 (0, 0))) ∧ Aside0 (Below w.heap.size w w'))
 case atStart => exact ⟨((⟨#[]⟩ : ByteArray)), (0), (by first | rfl | (simp; done) | (simp [*]; done)), (by first | rfl | (simp; done) | (simp [*]; done)), H', ⟨Nat.le_refl _⟩, ⟨by (with_reducible repeat (first | refine blk_drewN ?_ _ | refine blk_drew ?_ | refine blk_alloc ?_ _)); exact BK204.out⟩, ⟨by repeat (with_reducible first | exact HB.out | apply below_alloc | apply pw_below_drewN | apply below_drew1 | refine below_set ?_ GE204.out)⟩⟩
 case round =>
  clear H'
  try clear hcz3_0
  try clear hcz3_1
  try clear hfz3_0
  try clear hfz3_1
  obtain ⟨x3_1, x9_1, rfl, rfl, HA, HK1, BK204, HB⟩ := hrel
  cases gk with
  | zero => exact absurd HA.out (by simp [spec_Text.l0])
  | succ k1 =>
   have H := HA.out
   clear HA
   simp only [spec_Text.l0] at H
   refine (Classical.em (x9_1 < (l0_0.length : Int))).elim (fun c4 => ?a1_) (fun c4 => ?b1_)
   case' a1_ =>
    rw [if_pos c4] at H
    have c4b0 : decide (x9_1 < (l0_0.length : Int)) = true := decide_eq_true c4
    clear c4
    refine (Classical.em (0 ≤ x9_1)).elim (fun c5 => ?a2_) (fun c5 => ?b2_)
   case' a2_ =>
    rw [if_pos c5] at H
    have c5b0 : decide (0 ≤ x9_1) = true := decide_eq_true c5
    clear c5
    refine (Classical.em (x9_1 < (l0_0.length : Int))).elim (fun c6 => ?a3_) (fun c6 => ?b3_)
   case a3_ =>
    rw [if_pos c6] at H
    have c6b0 : decide (x9_1 < (l0_0.length : Int)) = true := decide_eq_true c6
    clear c6
    have HC7 := Aside0.mk H
    clear H
    have p205 : 0 ≤ (x9_1 : Int) := of_decide_eq_true (by first | (with_reducible assumption) | assumption)
    have q205 : x9_1 < (l0_0.length : Int) := of_decide_eq_true (by first | (with_reducible assumption) | assumption)
    obtain ⟨ad205, A205_0, c205_0, e205, hx205_0, hl205_0, hi205_0⟩ := at_L5 HR0_0.out x9_1 p205 q205
    cases e205
    replace hx205_0 := (HB.out.cell (World.block_lt_of_cell? w _ hx205_0)).trans hx205_0
    have HR205_0 := Aside0.mk hi205_0
    have HC205_0 := Aside0.mk hl205_0
    clear hi205_0 hl205_0
    replace p205 := eq_true p205
    replace q205 := eq_true q205
    go_upto_region 5 with (fail)
    go_cut [20] (fun v20 wc => ∃ (kq : Nat) (x20_6 : Bool), v20 = .bool x20_6 ∧ Aside0 (spec_Text.j1 kq x3_1 (rd_L5 l0_0 x9_1) l0_0 (l0_0.length : Int) x9_1 x20_6 l0_0 a0_1 = some r) ∧ Aside0 (kq ≤ k1) ∧ Aside0 (wc.heap[gb204]? = some (.cells #[(.slice (some ad205) l0_0.length c0_0), .bool a0_1] 30 (0, 0))) ∧ Aside0 (Below w.heap.size w wc))
    case first =>
     have H := HC7.out
     clear HC7
     refine (Classical.em (x9_1 = 0)).elim (fun c8 => ?a4_) (fun c8 => ?b4_)
     case a4_ =>
      rw [if_pos c8] at H
      have c8b0 : (x9_1 == 0) = true := beq_iff_eq.mpr c8
      have c8b1 : (x9_1 != 0) = false := bne_eq_false_iff_eq.mpr c8
      clear c8
      (first | rw [c8b0] | (simp only [i64_w, i32_w]; rw [c8b0]) | skip)
      have H' := Aside0.mk H
      clear H
      have hcz9_0 : wr.cell? ⟨gb204, 0, none⟩ = some (.slice (some ad205) l0_0.length c0_0) := (blk_cell BK204.out 0).trans rfl
      have hcz9_1 : wr.cell? ⟨gb204, 1, none⟩ = some (.bool a0_1) := (blk_cell BK204.out 1).trans rfl
      have hfz9_0 := blk_frozen BK204.out 0
      have hfz9_1 := blk_frozen BK204.out 1
      go_wp2
      go_meet
      case rel => exact ⟨_, (!a0_1), (by first | rfl | (simp; done) | (simp [*]; done)), H', ⟨by have := HK1.out; first | omega | exact Nat.le_refl _⟩, ⟨by (with_reducible repeat (first | refine blk_drewN ?_ _ | refine blk_drew ?_ | refine blk_alloc ?_ _)); exact BK204.out⟩, ⟨by repeat (with_reducible first | exact HB.out | apply below_alloc | apply pw_below_drewN | apply below_drew1 | refine below_set ?_ GE204.out)⟩⟩
     case b4_ =>
      rw [if_neg c8] at H
      have c8b0 : (x9_1 == 0) = false := beq_eq_false_iff_ne.mpr c8
      have c8b1 : (x9_1 != 0) = true := bne_iff_ne.mpr c8
      (first | rw [c8b0] | (simp only [i64_w, i32_w]; rw [c8b0]) | skip)
      have H' := Aside0.mk H
      clear H
      go_wp2
      go_meet
      case rel => exact ⟨_, (false), (by first | rfl | (simp; done) | (simp [*]; done)), H', ⟨by have := HK1.out; first | omega | exact Nat.le_refl _⟩, ⟨by (with_reducible repeat (first | refine blk_drewN ?_ _ | refine blk_drew ?_ | refine blk_alloc ?_ _)); exact BK204.out⟩, ⟨by repeat (with_reducible first | exact HB.out | apply below_alloc | apply pw_below_drewN | apply below_drew1 | refine below_set ?_ GE204.out)⟩⟩
    case rest =>
     clear HC7
     try clear c4
     try clear c4b0
     try clear c5
     try clear c5b0
     try clear c6
     try clear c6b0
     try clear c8
     try clear c8b0
     try clear c8b1
     try clear hcz3_0
     try clear hcz3_1
     try clear hcz9_0
     try clear hcz9_1
     try clear hfz3_0
     try clear hfz3_1
     try clear hfz9_0
     try clear hfz9_1
     try clear hx205_0
     try clear p205
     try clear q205
     obtain ⟨kq, x20_6, rfl, HA, HJ6, BK204, HB⟩ := hcut
     cases kq with
     | zero => exact absurd HA.out (by simp [spec_Text.j1])
     | succ kj6 =>
      have H := HA.out
      clear HA
      simp only [spec_Text.j1] at H
      refine (Classical.em (x20_6 = true)).elim (fun c10 => ?a5_) (fun c10 => ?b5_)
      case a5_ =>
       subst c10
       rw [if_pos rfl] at H
       have H' := Aside0.mk H
       clear H
       go_wp2
       go_roundg kj6
       case measure => have := HK1.out; have := HJ6.out; omega
       case rel => exact ⟨(x3_1), (wrap64 (x9_1 + 1)), (by first | rfl | (simp; done) | (simp [*]; done)), (by first | rfl | (simp; done) | (simp [*]; done)), H', ⟨by have := HK1.out; have := HJ6.out; omega⟩, ⟨by (with_reducible repeat (first | refine blk_drewN ?_ _ | refine blk_drew ?_ | refine blk_alloc ?_ _)); exact BK204.out⟩, ⟨by repeat (with_reducible first | exact HB.out | apply below_alloc | apply pw_below_drewN | apply below_drew1 | refine below_set ?_ GE204.out)⟩⟩
      case' b5_ =>
       replace c10 := Bool.eq_false_iff.mpr c10
       subst c10
       rw [if_neg (show ¬ (false = true) by decide)] at H
       refine (Classical.em (x3_1.toList = ([] : List UInt8))).elim (fun c11 => ?a6_) (fun c11 => ?b6_)
      case' a6_ =>
       rw [if_pos c11] at H
       have c11b0 : (x3_1.toList == ([] : List UInt8)) = true := beq_iff_eq.mpr c11
       have c11b1 : (x3_1.toList != ([] : List UInt8)) = false := bne_eq_false_iff_eq.mpr c11
       clear c11
       replace H := Option.bind_eq_some_iff.mp H
       obtain ⟨t206, A120, H⟩ := H
       try dsimp only at H
       have A12 := Aside0.mk A120
       clear A120
       refine (Classical.em (x3_1.size + t206.size ≤ 9223372036854775807)).elim (fun c13 => ?a7_) (fun c13 => ?b7_)
      case a7_ =>
       rw [if_pos c13] at H
       have c13b0 := eq_true c13
       have c13b1 : decide (x3_1.size + t206.size ≤ 9223372036854775807) = true := decide_eq_true c13
       try have c13b2 : (9223372036854775807 < x3_1.size + t206.size) = False := eq_false (Nat.not_lt.2 c13)
       have H' := Aside0.mk H
       clear H
       go_wp2_with (first | ((with_reducible refine gate_callee (f := 33) rfl ?_); refine goesL_ (some 27) rfl rfl Tryz.func33 (by kernel_rfl) rfl #[.slice A205_0 (rd_L5 l0_0 x9_1).length c205_0] rfl (by (try simp only [List.map_toArray, List.map_cons, List.map_nil]); first | done | rfl | (simp only [List.length_drop, List.length_take]; rfl)) ?_; (with_reducible refine (spec_FieldText.calls kj6 _ _ (rd_L5 l0_0 x9_1) t206 _ ?side1 ?side2 A12.out).mono ?_); (case side1 => repeat (first | exact (Kd.C_below HR205_0.out HB.out) | (with_reducible refine Kd.C_alloc ?_ _) | (with_reducible refine Kd.C_drewN ?_ _) | (with_reducible refine Kd.C_drew ?_))); (case side2 => exact HC205_0.out); rintro e w14 ⟨rfl, hb⟩; refine ⟨_, rfl, ?_⟩; have n0_ := Aside0.mk (blk_below (g := gb204) (o := .cells #[.slice (some ad205) l0_0.length c0_0, .bool a0_1] 30 (0, 0)) (by (with_reducible repeat (first | refine blk_drewN ?_ _ | refine blk_drew ?_ | refine blk_alloc ?_ _)); exact BK204.out) hb); have n1_ := Aside0.mk (below_step (by repeat (with_reducible first | exact HB.out | apply below_alloc | apply pw_below_drewN | apply below_drew1 | refine below_set ?_ GE204.out)) hb); clear BK204; clear HB; have BK204 := n0_; have HB := n1_; clear n0_ n1_; (try clear hb); (try clear hb2); (try clear hk); (try clear hi)))
       go_roundg kj6
       case measure => have := HK1.out; have := HJ6.out; omega
       case rel => exact ⟨(x3_1 ++ t206), (wrap64 (x9_1 + 1)), (by first | rfl | (simp; done) | (simp [*]; done)), (by first | rfl | (simp; done) | (simp [*]; done)), H', ⟨by have := HK1.out; have := HJ6.out; omega⟩, ⟨by (with_reducible repeat (first | refine blk_drewN ?_ _ | refine blk_drew ?_ | refine blk_alloc ?_ _)); exact BK204.out⟩, ⟨by repeat (with_reducible first | exact HB.out | apply below_alloc | apply pw_below_drewN | apply below_drew1 | refine below_set ?_ GE204.out)⟩⟩
      case b7_ =>
       rw [if_neg c13] at H
       exact absurd H (by simp)
      case' b6_ =>
       rw [if_neg c11] at H
       have c11b0 : (x3_1.toList == ([] : List UInt8)) = false := beq_eq_false_iff_ne.mpr c11
       have c11b1 : (x3_1.toList != ([] : List UInt8)) = true := bne_iff_ne.mpr c11
       refine (Classical.em (x3_1.size + 1 ≤ 9223372036854775807)).elim (fun c15 => ?a8_) (fun c15 => ?b8_)
      case' a8_ =>
       rw [if_pos c15] at H
       have c15b0 := eq_true c15
       have c15b1 : decide (x3_1.size + 1 ≤ 9223372036854775807) = true := decide_eq_true c15
       try have c15b2 : (9223372036854775807 < x3_1.size + 1) = False := eq_false (Nat.not_lt.2 c15)
       replace H := Option.bind_eq_some_iff.mp H
       obtain ⟨t207, A160, H⟩ := H
       try dsimp only at H
       have A16 := Aside0.mk A160
       clear A160
       refine (Classical.em ((x3_1 ++ (⟨#[32]⟩ : ByteArray)).size + t207.size ≤ 9223372036854775807)).elim (fun c17 => ?a9_) (fun c17 => ?b9_)
      case a9_ =>
       rw [if_pos c17] at H
       have c17b0 := eq_true c17
       have c17b1 : decide ((x3_1 ++ (⟨#[32]⟩ : ByteArray)).size + t207.size ≤ 9223372036854775807) = true := decide_eq_true c17
       try have c17b2 : (9223372036854775807 < (x3_1 ++ (⟨#[32]⟩ : ByteArray)).size + t207.size) = False := eq_false (Nat.not_lt.2 c17)
       have c17b3 : (9223372036854775807 < x3_1.size + 1 + t207.size) = False := by have h_ := c17; rw [ByteArray.size_append] at h_; exact eq_false (Nat.not_lt.2 h_)
       have H' := Aside0.mk H
       clear H
       go_wp2_with (first | ((with_reducible refine gate_callee (f := 33) rfl ?_); refine goesL_ (some 27) rfl rfl Tryz.func33 (by kernel_rfl) rfl #[.slice A205_0 (rd_L5 l0_0 x9_1).length c205_0] rfl (by (try simp only [List.map_toArray, List.map_cons, List.map_nil]); first | done | rfl | (simp only [List.length_drop, List.length_take]; rfl)) ?_; (with_reducible refine (spec_FieldText.calls kj6 _ _ (rd_L5 l0_0 x9_1) t207 _ ?side1 ?side2 A16.out).mono ?_); (case side1 => repeat (first | exact (Kd.C_below HR205_0.out HB.out) | (with_reducible refine Kd.C_alloc ?_ _) | (with_reducible refine Kd.C_drewN ?_ _) | (with_reducible refine Kd.C_drew ?_))); (case side2 => exact HC205_0.out); rintro e w18 ⟨rfl, hb⟩; refine ⟨_, rfl, ?_⟩; have n0_ := Aside0.mk (blk_below (g := gb204) (o := .cells #[.slice (some ad205) l0_0.length c0_0, .bool a0_1] 30 (0, 0)) (by (with_reducible repeat (first | refine blk_drewN ?_ _ | refine blk_drew ?_ | refine blk_alloc ?_ _)); exact BK204.out) hb); have n1_ := Aside0.mk (below_step (by repeat (with_reducible first | exact HB.out | apply below_alloc | apply pw_below_drewN | apply below_drew1 | refine below_set ?_ GE204.out)) hb); clear BK204; clear HB; have BK204 := n0_; have HB := n1_; clear n0_ n1_; (try clear hb); (try clear hb2); (try clear hk); (try clear hi)))
       go_roundg kj6
       case measure => have := HK1.out; have := HJ6.out; omega
       case rel => exact ⟨((x3_1 ++ (⟨#[32]⟩ : ByteArray)) ++ t207), (wrap64 (x9_1 + 1)), (by first | rfl | (simp; done) | (simp [*]; done)), (by first | rfl | (simp; done) | (simp [*]; done)), H', ⟨by have := HK1.out; have := HJ6.out; omega⟩, ⟨by (with_reducible repeat (first | refine blk_drewN ?_ _ | refine blk_drew ?_ | refine blk_alloc ?_ _)); exact BK204.out⟩, ⟨by repeat (with_reducible first | exact HB.out | apply below_alloc | apply pw_below_drewN | apply below_drew1 | refine below_set ?_ GE204.out)⟩⟩
      case b9_ =>
       rw [if_neg c17] at H
       exact absurd H (by simp)
      case b8_ =>
       rw [if_neg c15] at H
       exact absurd H (by simp)
   case b3_ =>
    rw [if_neg c6] at H
    exact absurd H (by simp)
   case b2_ =>
    rw [if_neg c5] at H
    exact absurd H (by simp)
   case b1_ =>
    rw [if_neg c4] at H
    have c4b0 : decide (x9_1 < (l0_0.length : Int)) = false := decide_eq_false c4
    clear c4
    obtain rfl := Option.some.inj H
    go_wp2
    go_ret
    exact ⟨by first | rfl | (simp [errW_none, errW_some] <;> rfl) | (simp [*, errW_none, errW_some] <;> rfl), by repeat (with_reducible first | exact HB.out | apply below_alloc | apply pw_below_drewN | apply below_drew1 | refine below_set ?_ GE204.out)⟩
end Go.Proofs.YtjpcdkhapeejjaaGreatDoor.A
namespace Go.Proofs.YtjpcdkhapeejjaaGreatDoor.A
open Cal
theorem cany (xs : List Int) (bx : by8 xs) (hl : xs.length ≤ 100000) (h : ∀ c ∈ xs, c = 42 ∨ c = 45 ∨ c = 47 ∨ (48 ≤ c ∧ c ≤ 57)) : ∀ (m i k : Nat), i + m = xs.length → 5 * m + 2 < k → gronx_zzContainsAny.l0 k (strOfNums xs) (strOfNums [76, 87, 35]) (i : Int) = some false
  | 0, i, 0, _, hk => by omega
  | m + 1, i, 0, _, hk => by omega
  | 0, i, k + 1, hi, hk => by rw [gronx_zzContainsAny.l0, strOfNums_size, if_neg (by omega)]
  | m + 1, i, k + 1, hi, hk => by
    obtain ⟨k, rfl⟩ : ∃ k', k = k' + 4 := ⟨k - 4, by omega⟩
    have hb3 : by8 [76, 87, 35] := fun y hy => by simp at hy; omega
    have hc := h _ (List.getElem_mem (show i < xs.length by omega))
    rw [← rd_at xs i (by omega)] at hc
    have e0 : rd [76, 87, 35] 0 = 76 := rfl
    have e1 : rd [76, 87, 35] 1 = 87 := rfl
    have e2 : rd [76, 87, 35] 2 = 35 := rfl
    have ih := cany xs bx hl h m (i + 1) k (by omega) (by omega)
    rw [show ((i + 1 : Nat) : Int) = (i : Int) + 1 by omega] at ih
    rw [gronx_zzContainsAny.l0, strOfNums_size, if_pos (by omega)]
    rw [show k + 4 = k + 3 + 1 from rfl, gronx_zzContainsAny.l1, strOfNums_size, strOfNums_size, if_pos (by decide), if_pos (by omega), if_pos (by omega), if_pos (by omega), s_bt xs bx, s_bt _ hb3, e0, if_neg (by omega), show wrap64 (0 + 1) = 1 from by unfold wrap64; omega]
    rw [show k + 3 = k + 2 + 1 from rfl, gronx_zzContainsAny.l1, strOfNums_size, strOfNums_size, if_pos (by decide), if_pos (by omega), if_pos (by omega), if_pos (by omega), s_bt xs bx, s_bt _ hb3, e1, if_neg (by omega), show wrap64 (1 + 1) = 2 from by unfold wrap64; omega]
    rw [show k + 2 = k + 1 + 1 from rfl, gronx_zzContainsAny.l1, strOfNums_size, strOfNums_size, if_pos (by decide), if_pos (by omega), if_pos (by omega), if_pos (by omega), s_bt xs bx, s_bt _ hb3, e2, if_neg (by omega), show wrap64 (2 + 1) = 3 from by unfold wrap64; omega]
    rw [gronx_zzContainsAny.l1, strOfNums_size, if_neg (by decide), w64' _ (by omega) (by omega)]
    exact ih
/-- A field as the reference takes it. -/
structure GoodF (j : Int) (l : List S54) : Prop where
  ne : l ≠ []
  len : l.length ≤ 6
  it : ∀ x ∈ l, GoodI j x
def fieldL (l : List S54) : List Int := joinC 44 (l.map itemL)
def hasF (j : Int) (l : List S54) (v : Int) : Bool := l.any fun x => hasI j x v
theorem chkL_due (k : Nat) (j : Int) (v : Int) (h0 : 0 ≤ j) (h1 : j ≤ 5) (v0 : low j ≤ v) (v1 : v ≤ high j) (hk : 1000 ≤ k) : ∀ (l : List S54), (∀ x ∈ l, GoodI j x) → chkL k v j (l.map fun x => strOfNums (itemL x)) = some (hasF j l v)
  | [], _ => rfl
  | x :: l, h => by
    have hx := h x List.mem_cons_self
    have hm : modOf k (strOfNums (itemL x)) j = some false := by
      unfold modOf
      split
      · exact cany _ (item_by8 j x hx) (by have := item_len x; omega) (item_mem j x hx) (itemL x).length 0 k (by omega) (by have := item_len x; omega)
      · rfl
    rw [List.map_cons, chkL, hm, Option.bind_some, if_neg (by decide), off_due k j x v hx h0 h1 v0 v1 hk, Option.bind_some]
    unfold hasF
    rw [List.any_cons]
    cases hasI j x v with
    | true => rw [if_pos rfl, Bool.true_or]
    | false =>
      rw [if_neg (by decide), Bool.false_or]
      exact chkL_due k j v h0 h1 v0 v1 hk l fun y hy => h y (List.mem_cons_of_mem _ hy)
theorem join_len (c : Int) : ∀ (fs : List (List Int)), (∀ f ∈ fs, f.length ≤ 8) → (joinC c fs).length ≤ 9 * fs.length
  | [], _ => Nat.le_refl _
  | [f], h => by have := h f List.mem_cons_self; show f.length ≤ 9; omega
  | f :: g :: fs, h => by
    have a := h f List.mem_cons_self
    have b := join_len c (g :: fs) fun x hx => h x (List.mem_cons_of_mem _ hx)
    show (f ++ c :: joinC c (g :: fs)).length ≤ _
    rw [List.length_append, List.length_cons]
    simp only [List.length_cons] at b ⊢
    omega
theorem join_mem (c : Int) : ∀ (fs : List (List Int)) (x : Int), x ∈ joinC c fs → x = c ∨ ∃ f ∈ fs, x ∈ f
  | [], x, h => nomatch h
  | [f], x, h => .inr ⟨f, List.mem_cons_self, h⟩
  | f :: g :: fs, x, h => by
    have h : x ∈ f ++ c :: joinC c (g :: fs) := h
    simp only [List.mem_append, List.mem_cons] at h
    rcases h with h | h | h
    · exact .inr ⟨f, List.mem_cons_self, h⟩
    · exact .inl h
    · rcases join_mem c (g :: fs) x h with e | ⟨y, hy, hx⟩
      · exact .inl e
      · exact .inr ⟨y, List.mem_cons_of_mem _ hy, hx⟩
theorem field_mem (j : Int) (l : List S54) (h : ∀ x ∈ l, GoodI j x) : ∀ c ∈ fieldL l, c = 42 ∨ c = 44 ∨ c = 45 ∨ c = 47 ∨ (48 ≤ c ∧ c ≤ 57) := fun c hc => by
  rcases join_mem 44 _ c hc with e | ⟨f, hf, hx⟩
  · exact .inr (.inl e)
  · obtain ⟨x, hx2, rfl⟩ := List.mem_map.1 hf
    have := item_mem j x (h x hx2) c hx
    omega
theorem field_len (l : List S54) (h : l.length ≤ 6) : (fieldL l).length ≤ 54 := by
  have := join_len 44 (l.map itemL) fun f hf => by obtain ⟨x, _, rfl⟩ := List.mem_map.1 hf; exact (item_len x).2
  unfold fieldL
  rw [List.length_map] at this
  omega
theorem field_part (j : Int) (l : List S54) (h : GoodF j l) : Part (fieldL l) := by
  refine ⟨fun e => ?_, fun c hc => by have := field_mem j l h.it c hc; omega⟩
  cases hl : l with
  | nil => exact h.ne hl
  | cons x xs =>
    rw [hl] at e
    have h1 := (item_len x).1
    unfold fieldL at e
    cases xs with
    | nil => rw [show joinC 44 ([x].map itemL) = itemL x from rfl] at e; rw [e] at h1; exact absurd h1 (by decide)
    | cons y ys =>
      rw [show joinC 44 ((x :: y :: ys).map itemL) = itemL x ++ 44 :: joinC 44 ((y :: ys).map itemL) from rfl] at e
      have := congrArg List.length e
      rw [List.length_append] at this
      simp only [List.length_cons, List.length_nil] at this
      omega
theorem field_by8 (j : Int) (l : List S54) (h : ∀ x ∈ l, GoodI j x) : by8 (fieldL l) := fun c hc => by have := field_mem j l h c hc; omega
/-- The check of a whole field. -/
theorem chk_due (k : Nat) (j : Int) (l : List S54) (v : Int) (h : GoodF j l) (h0 : 0 ≤ j) (h1 : j ≤ 5) (v0 : low j ≤ v) (v1 : v ≤ high j) (hk : 1000 ≤ k) : chk k (strOfNums (fieldL l)) v j = some (hasF j l v) := by
  unfold chk
  cases hl : l with
  | nil => exact absurd hl h.ne
  | cons x xs =>
    have hg := h.it
    have hlen := h.len
    have hfl := field_len l hlen
    rw [hl] at hg hlen hfl
    have hb := field_by8 j (x :: xs) hg
    unfold fieldL at hb hfl ⊢
    rw [List.map_cons] at hb hfl ⊢
    rw [show (⟨#[44]⟩ : ByteArray) = strOfNums [44] from rfl, zsplit 44 (by omega) (xs.map itemL) (itemL x) hb (by omega) (fun g hgm hm => by
      rw [← List.map_cons (f := itemL)] at hgm
      obtain ⟨y, hy, rfl⟩ := List.mem_map.1 hgm
      have := item_mem j y (hg y hy) 44 hm
      omega) (by rw [List.length_map]; simp only [List.length_cons] at hlen; omega) k (by rw [List.length_map]; simp only [List.length_cons] at hlen; omega), Option.bind_some]
    rw [if_pos (by rw [List.length_map, List.length_cons, List.length_map]; simp only [List.length_cons] at hlen; omega)]
    have := chkL_due k j v h0 h1 v0 v1 hk (x :: xs) hg
    rw [← List.map_cons (f := itemL), List.map_map]
    exact this
theorem low_f (j : Int) : spec_Low.f j = some (low j) := by
  unfold spec_Low.f low
  split
  · rfl
  · split <;> rfl
theorem high_f (j : Int) (h0 : 0 ≤ j) (h1 : j ≤ 5) : spec_High.f j = some (high j) := by
  unfold spec_High.f; rw [if_pos h0, if_pos (by omega)]; rfl
theorem rdT (l : List S54) (i : Nat) (h : i < l.length) : rd_T54 l (i : Int) = l[i] := by
  unfold rd_T54; simp [List.getD_eq_getElem?_getD, List.getElem?_eq_getElem h]
theorem dropT (l : List S54) (i : Nat) (h : i < l.length) : l.drop i = rd_T54 l (i : Int) :: l.drop (i + 1) := by rw [rdT l i h, List.drop_eq_getElem_cons h]
theorem has_l (j v : Int) (l : List S54) (h : ∀ x ∈ l, GoodI j x) (hl : l.length ≤ 100) (h0 : 0 ≤ j) (h1 : j ≤ 5) (v0 : 0 ≤ v) (v1 : v ≤ 100) : ∀ (m i k : Nat), i + m = l.length → m < k → spec_Has.l0 k j v l (l.length : Int) (i : Int) = some (hasF j (l.drop i) v)
  | m, i, 0, _, hk => by omega
  | 0, i, k + 1, hi, hk => by rw [spec_Has.l0, if_neg (by omega), List.drop_eq_nil_of_le (by omega)]; rfl
  | m + 1, i, k + 1, hi, hk => by
    have hx : GoodI j (rd_T54 l (i : Int)) := by rw [rdT l i (by omega)]; exact h _ (List.getElem_mem _)
    have ih := has_l j v l h hl h0 h1 v0 v1 m (i + 1) k (by omega) (by omega)
    rw [show ((i + 1 : Nat) : Int) = (i : Int) + 1 by omega] at ih
    rw [dropT l i (by omega), spec_Has.l0, if_pos (by omega), if_pos (by omega), if_pos (by omega), w64' ((i : Int) + 1) (by omega) (by omega), ih]
    generalize rd_T54 l (i : Int) = x at hx ⊢
    have hlo := low_bd j
    have hhi := high_bd j
    have s0 := hx.s0
    unfold hasF
    rw [List.any_cons]
    unfold hasI
    cases hf : x.f0 with
    | true =>
      rw [if_pos rfl, low_f, Option.bind_some, high_f j h0 h1, Option.bind_some]
      simp only [if_true]
      by_cases a : low j ≤ v
      · rw [if_pos a]
        by_cases b : v ≤ high j
        · rw [if_pos b, if_neg (by omega), w64' _ (by omega) (by omega), tmod_eq _ _ (by omega)]
          by_cases c : (v - low j) % x.f3 = 0
          · rw [if_pos c, decide_eq_true ⟨a, b, c⟩, Bool.true_or]
          · rw [if_neg c, decide_eq_false (fun q => c q.2.2), Bool.false_or]
        · rw [if_neg b, decide_eq_false (fun q => b q.2.1), Bool.false_or]
      · rw [if_neg (by omega), decide_eq_false (fun q => a q.1), Bool.false_or]
    | false =>
      have hr := hx.r hf
      simp only [Bool.false_eq_true, if_false]
      by_cases a : x.f1 ≤ v
      · rw [if_pos (show v ≥ x.f1 from a)]
        by_cases b : v ≤ x.f2
        · rw [if_pos b, if_neg (by omega), w64' _ (by omega) (by omega), tmod_eq _ _ (by omega)]
          by_cases c : (v - x.f1) % x.f3 = 0
          · rw [if_pos c, decide_eq_true ⟨a, b, c⟩, Bool.true_or]
          · rw [if_neg c, decide_eq_false (fun q => c q.2.2), Bool.false_or]
        · rw [if_neg b, decide_eq_false (fun q => b q.2.1), Bool.false_or]
      · rw [if_neg (by omega), decide_eq_false (fun q => a q.1), Bool.false_or]
theorem has_f (j v : Int) (l : List S54) (h : GoodF j l) (h0 : 0 ≤ j) (h1 : j ≤ 5) (v0 : 0 ≤ v) (v1 : v ≤ 100) (k : Nat) (hk : 6 < k) : spec_Has.f k j l v = some (hasF j l v) := by
  have := has_l j v l h.it (by have := h.len; omega) h0 h1 v0 v1 l.length 0 k (by omega) (by have := h.len; omega)
  rw [List.drop_zero] at this
  exact this
theorem join_flat (c : Int) : ∀ (fs : List (List Int)) (f : List Int), joinC c (f :: fs) = f ++ fs.flatMap fun g => c :: g
  | [], f => by rw [List.flatMap_nil, List.append_nil]; rfl
  | g :: fs, f => by
    rw [show joinC c (f :: g :: fs) = f ++ c :: joinC c (g :: fs) from rfl, join_flat c fs g, List.flatMap_cons]; rfl
theorem ftext_l (j : Int) (l : List S54) (h : ∀ x ∈ l, GoodI j x) (hl : l.length ≤ 6) : ∀ (m i : Nat) (acc : List Int) (k : Nat), i + m = l.length → 1 ≤ i → acc.length ≤ 100 * i → m < k → spec_FieldText.l0 k (strOfNums acc) l (l.length : Int) (i : Int) = some (strOfNums (acc ++ (l.drop i).flatMap fun x => 44 :: itemL x))
  | m, i, acc, 0, _, _, _, hk => by omega
  | 0, i, acc, k + 1, hi, h1, ha, hk => by rw [spec_FieldText.l0, if_neg (by omega), List.drop_eq_nil_of_le (by omega), List.flatMap_nil, List.append_nil]
  | m + 1, i, acc, k + 1, hi, h1, ha, hk => by
    have hx : GoodI j (rd_T54 l (i : Int)) := by rw [rdT l i (by omega)]; exact h _ (List.getElem_mem _)
    have hlx := item_len (rd_T54 l (i : Int))
    have ih := ftext_l j l h hl m (i + 1) (acc ++ 44 :: itemL (rd_T54 l (i : Int))) k (by omega) (by omega) (by rw [List.length_append, List.length_cons]; omega) (by omega)
    rw [show ((i + 1 : Nat) : Int) = (i : Int) + 1 by omega] at ih
    rw [spec_FieldText.l0, if_pos (by omega), if_pos (by omega), if_pos (by omega), if_pos (by omega), strOfNums_size, if_pos (by omega), item_eq j _ hx, Option.bind_some, show (⟨#[44]⟩ : ByteArray) = strOfNums [44] from rfl, s_app, s_app, strOfNums_size, strOfNums_size, if_pos (by rw [List.length_append, List.length_singleton]; omega), w64' _ (by omega) (by omega), dropT l i (by omega), List.flatMap_cons]
    rw [List.append_assoc, List.singleton_append, ih, List.append_assoc]
theorem ftext (j : Int) (l : List S54) (h : GoodF j l) (k : Nat) (hk : 10 < k) : spec_FieldText.f k l = some (strOfNums (fieldL l)) := by
  cases hl : l with
  | nil => exact absurd hl h.ne
  | cons x xs =>
    have hg := h.it
    have hlen := h.len
    rw [hl] at hg hlen
    obtain ⟨k, rfl⟩ : ∃ k', k = k' + 1 := ⟨k - 1, by omega⟩
    have hlx := item_len x
    have hi : spec_ItemText.f (rd_T54 (x :: xs) 0).f0 (rd_T54 (x :: xs) 0).f1 (rd_T54 (x :: xs) 0).f2 (rd_T54 (x :: xs) 0).f3 = some (strOfNums (itemL x)) := item_eq j x (hg x List.mem_cons_self)
    have ih := ftext_l j (x :: xs) hg hlen xs.length 1 (itemL x) k (by simp only [List.length_cons]; omega) (by omega) (by omega) (by simp only [List.length_cons] at hlen; omega)
    unfold spec_FieldText.f fieldL
    rw [List.map_cons, join_flat, spec_FieldText.l0, if_pos (by simp only [List.length_cons]; omega), if_pos (by omega), if_pos (by simp only [List.length_cons]; omega), if_neg (by omega), hi, Option.bind_some, show (⟨#[]⟩ : ByteArray) = strOfNums [] from rfl, s_app, strOfNums_size, strOfNums_size, if_pos (by simp only [List.length_nil]; omega), List.nil_append, show wrap64 (0 + 1) = ((1 : Nat) : Int) from by unfold wrap64; omega, ih]
    rw [List.flatMap_map]; rfl
/-- A moment, told from the front or from the end. -/
def co (rev : Bool) (x : Int) : Int := if rev = true then -1 - x else x
theorem co_co (rev : Bool) (x : Int) : co rev (co rev x) = x := by unfold co; split <;> omega
def cor (rev : Bool) (r : Option (Int × Bool)) : Option (Int × Bool) := r.map fun q => (co rev q.1, q.2)
/-- Where the plain law's moments lie. -/
def loD (rev : Bool) : Int := if rev = true then -1 - hi0 else lo0
def hiD (rev : Bool) : Int := if rev = true then -1 - lo0 else hi0
theorem co_in {rev : Bool} {x : Int} (a : loD rev ≤ x) (b : x ≤ hiD rev) : lo0 ≤ co rev x ∧ co rev x ≤ hi0 := by
  unfold loD at a; unfold hiD at b; unfold co
  cases rev
  · simp only [Bool.false_eq_true, if_false] at a b ⊢; omega
  · simp only [if_true] at a b ⊢; omega
theorem pos_bd (s j : Int) (h0 : 0 ≤ j) (h1 : j ≤ 5) : low j ≤ posV s j ∧ posV s j ≤ high j := by
  have a := sec_bd s
  have b := min_bd s
  have c := hour_bd s
  have d := day_bd s
  have e := mon_bd s
  have f := wd_bd s
  have : j = 0 ∨ j = 1 ∨ j = 2 ∨ j = 3 ∨ j = 4 ∨ j = 5 := by omega
  rcases this with rfl | rfl | rfl | rfl | rfl | rfl
  · exact a
  · exact b
  · exact c
  · exact d
  · exact e
  · exact f
theorem due_f (k : Nat) (j : Int) (l : List S54) (s : Int) (h : GoodF j l) (h0 : 0 ≤ j) (h1 : j ≤ 5) (hI : InR s) (hk : 1000 ≤ k) : dueA k (strOfNums (fieldL l)) j s = some (hasF j l (posV s j)) := by
  unfold dueA
  rw [if_pos ⟨hI, h0, by omega⟩, chk_due k j l _ h h0 h1 (pos_bd s j h0 h1).1 (pos_bd s j h0 h1).2 hk]
/-- A field has a number. -/
theorem has_some (j : Int) (l : List S54) (h : GoodF j l) (h0 : 0 ≤ j) (h1 : j ≤ 5) : ∃ v, low j ≤ v ∧ v ≤ high j ∧ hasF j l v = true := by
  cases hl : l with
  | nil => exact absurd hl h.ne
  | cons x xs =>
    have hx := h.it x (by rw [hl]; exact List.mem_cons_self)
    have lh : low j ≤ high j := by
      have := pos_bd 0 j h0 h1
      omega
    refine ⟨if x.f0 = true then low j else x.f1, ?_, ?_, ?_⟩
    · split
      · exact Int.le_refl _
      · rename_i q; exact (hx.r (by simpa using q)).1
    · split
      · exact lh
      · rename_i q
        have := hx.r (by simpa using q)
        omega
    · unfold hasF
      rw [List.any_cons]
      have : hasI j x (if x.f0 = true then low j else x.f1) = true := by
        unfold hasI
        refine decide_eq_true ⟨Int.le_refl _, ?_, by rw [Int.sub_self]; exact Int.zero_emod _⟩
        split
        · exact lh
        · rename_i q; exact (hx.r (by simpa using q)).2.2
      rw [this, Bool.true_or]
/-- What a step along field j does at a moment x ahead of (or at) one that fits. -/
def Lev (rev : Bool) (j : Int) (l : List S54) (al : Int → Prop) (R : Int → Option (Int × Bool)) : Prop :=
  ∀ x t, loD rev ≤ x → x ≤ t → t ≤ hiD rev → hasF j l (posV (co rev t) j) = true →
    (hasF j l (posV (co rev x) j) = true → R x = some (x, false)) ∧
    (hasF j l (posV (co rev x) j) = false → ∃ y, R x = some (y, true) ∧ al y ∧ x < y ∧ y ≤ t ∧ hasF j l (posV (co rev y) j) = true ∧ ∀ z, x ≤ z → z < y → hasF j l (posV (co rev z) j) = false)
theorem lev_gen (rev : Bool) (k : Nat) (j : Int) (l : List S54) (hg : GoodF j l) (h0 : 0 ≤ j) (h1 : j ≤ 5) (hk : 1000 ≤ k) (N : Nat) (hN : gronx_limit.f j = some (N : Int)) (hN2 : N ≤ 1000)
    (blk : Int → Int) (al : Int → Prop) (G : Int → Bool) (hG : ∀ x, loD rev ≤ x → x ≤ hiD rev → G (blk x) = hasF j l (posV (co rev x) j))
    (U : ∀ t, t ≤ hiD rev → Units blk al (if rev = true then mirN (nxR j) else nxF j) (loD rev) t)
    (hK : ∀ x, loD rev ≤ x → x ≤ hiD rev → ∃ n : Nat, n < N ∧ G (blk x + n) = true) :
    Lev rev j l al fun x => cor rev (bumpU k rev (strOfNums (fieldL l)) j (co rev x)) := by
  intro x t hx hxt ht hT
  have Ut := U t ht
  have hI : ∀ z, loD rev ≤ z → z ≤ hiD rev → InR (co rev z) := fun z a b => by
    have := co_in a b
    exact inr_of (by omega) (by omega)
  have hD : ∀ z, loD rev ≤ z → z ≤ t → dueA k (strOfNums (fieldL l)) j (co rev z) = some (G (blk z)) := fun z a b => by
    rw [due_f k j l _ hg h0 h1 (hI z a (by omega)) hk, hG z a (by omega)]
  obtain ⟨n, hn, hGn⟩ := hK x hx (by omega)
  have key := bud_up (due := fun z => dueA k (strOfNums (fieldL l)) j (co rev z)) Ut hD (by rw [hG t (by omega) ht]; exact hT) N x false n hn hGn hx hxt
  have e : cor rev (bumpU k rev (strOfNums (fieldL l)) j (co rev x)) = bud (fun z => dueA k (strOfNums (fieldL l)) j (co rev z)) (if rev = true then mirN (nxR j) else nxF j) N x false := by
    unfold bumpU
    rw [hN, Option.bind_some, if_pos ⟨by omega, by omega⟩, show ((N : Int)).toNat = N by omega]
    cases rev with
    | true =>
      have := bud_mir (dueA k (strOfNums (fieldL l)) j) (nxR j) N x false
      simp only [if_true]
      unfold co
      simp only [if_true]
      rw [← this]
      unfold cor mir co
      simp only [if_true]
    | false =>
      simp only [Bool.false_eq_true, if_false]
      unfold co
      simp only [Bool.false_eq_true, if_false]
      unfold cor co
      simp only [Bool.false_eq_true, if_false]
      rw [show (fun q : Int × Bool => (q.1, q.2)) = id from rfl, Option.map_id]; rfl
  rw [← hG x hx (by omega)]
  refine ⟨fun h => e.trans (key.1 h), fun hf => ?_⟩
  obtain ⟨y, hy, ha, hxy, hyt, hGy, hz⟩ := key.2 hf
  refine ⟨y, e.trans hy, ha, hxy, hyt, by rw [← hG y (by omega) (by omega)]; exact hGy, fun z a b => by rw [← hG z (by omega) (by omega)]; exact hz z a b⟩
theorem cycle (G : Int → Bool) (n : Int) (hn : 0 < n) (hG : ∀ b, G (b + n) = G b) (v : Int) (h : G v = true) (b : Int) : ∃ m : Nat, (m : Int) < n ∧ G (b + m) = true := by
  have hup : ∀ (m : Nat) (b : Int), G (b + n * m) = G b := by
    intro m
    induction m with
    | zero => intro b; rw [show b + n * ((0 : Nat) : Int) = b by omega]
    | succ m ih => intro b; rw [show b + n * ((m + 1 : Nat) : Int) = (b + n * m) + n by rw [Int.natCast_add, Int.mul_add]; omega, hG, ih]
  refine ⟨((v - b) % n).toNat, ?_, ?_⟩
  · have := Int.emod_lt_of_pos (v - b) hn
    have := Int.emod_nonneg (v - b) (show n ≠ 0 by omega)
    omega
  · have h0 := Int.emod_nonneg (v - b) (show n ≠ 0 by omega)
    rw [Int.toNat_of_nonneg h0]
    have e := Int.mul_ediv_add_emod (v - b) n
    obtain ⟨q, hq⟩ : ∃ q, (v - b) / n = q := ⟨_, rfl⟩
    rw [hq] at e
    by_cases hs : 0 ≤ q
    · have := hup q.toNat (b + (v - b) % n)
      rw [Int.toNat_of_nonneg hs] at this
      rw [← this, show b + (v - b) % n + n * q = v by omega]; exact h
    · have := hup (-q).toNat v
      rw [Int.toNat_of_nonneg (by omega)] at this
      have e3 : n * -q = -(n * q) := Int.mul_neg n q
      rw [show b + (v - b) % n = v + n * -q by omega, this]; exact h
theorem co_t (x : Int) : co true x = -1 - x := rfl
theorem co_f (x : Int) : co false x = x := rfl
theorem loD_t : loD true = -1 - hi0 := rfl
theorem loD_f : loD false = lo0 := rfl
theorem hiD_t : hiD true = -1 - lo0 := rfl
theorem hiD_f : hiD false = hi0 := rfl
theorem posV0 (s : Int) : posV s 0 = s % 60 := rfl
theorem posV1 (s : Int) : posV s 1 = s % 3600 / 60 := rfl
theorem posV2 (s : Int) : posV s 2 = s % 86400 / 3600 := rfl
theorem posV3 (s : Int) : posV s 3 = dayE (s / 86400 + 306) := rfl
theorem posV4 (s : Int) : posV s 4 = monE (s / 86400 + 306) := rfl
theorem posV5 (s : Int) : posV s 5 = wdE (s / 86400 + 306) := rfl
theorem lev0 (rev : Bool) (k : Nat) (l : List S54) (hg : GoodF 0 l) (hk : 1000 ≤ k) : Lev rev 0 l (fun _ => True) fun x => cor rev (bumpU k rev (strOfNums (fieldL l)) 0 (co rev x)) := by
  obtain ⟨v, v0, v1, hv⟩ := has_some 0 l hg (by decide) (by decide)
  have v0 : 0 ≤ v := v0
  have v1 : v ≤ 59 := v1
  refine lev_gen rev k 0 l hg (by decide) (by decide) hk 60 rfl (by decide) (fun x => x) (fun _ => True) (fun b => hasF 0 l (co rev b % 60)) (fun x _ _ => rfl) (fun t ht => ?_) (fun x _ _ => ?_)
  · cases rev
    · exact units_0 t ht
    · exact unitsR_0 t ht
  · have := cycle (fun b => hasF 0 l (co rev b % 60)) 60 (by decide) (fun b => by
      cases rev
      · show hasF 0 l ((b + 60) % 60) = hasF 0 l (b % 60); rw [show (b + 60) % 60 = b % 60 by omega]
      · show hasF 0 l ((-1 - (b + 60)) % 60) = hasF 0 l ((-1 - b) % 60); rw [show (-1 - (b + 60)) % 60 = (-1 - b) % 60 by omega]) (co rev v) (by show hasF 0 l (co rev (co rev v) % 60) = true; rw [co_co, show v % 60 = v by omega]; exact hv) x
    obtain ⟨m, hm, hG⟩ := this
    exact ⟨m, by omega, hG⟩
theorem lev1 (rev : Bool) (k : Nat) (l : List S54) (hg : GoodF 1 l) (hk : 1000 ≤ k) : Lev rev 1 l (fun y => y % 60 = 0) fun x => cor rev (bumpU k rev (strOfNums (fieldL l)) 1 (co rev x)) := by
  obtain ⟨v, v0, v1, hv⟩ := has_some 1 l hg (by decide) (by decide)
  have v0 : 0 ≤ v := v0
  have v1 : v ≤ 59 := v1
  refine lev_gen rev k 1 l hg (by decide) (by decide) hk 60 rfl (by decide) (fun x => x / 60) (fun y => y % 60 = 0) (fun b => hasF 1 l (co rev b % 60)) (fun x _ _ => ?_) (fun t ht => ?_) (fun x _ _ => ?_)
  · show hasF 1 l (co rev (x / 60) % 60) = hasF 1 l (posV (co rev x) 1)
    rw [posV1]
    cases rev
    · rw [co_f, co_f, show x % 3600 / 60 = x / 60 % 60 by omega]
    · rw [co_t, co_t, show (-1 - x) % 3600 / 60 = (-1 - x / 60) % 60 by omega]
  · cases rev
    · exact units_1 t ht
    · exact unitsR_1 t ht
  · have := cycle (fun b => hasF 1 l (co rev b % 60)) 60 (by decide) (fun b => by
      cases rev
      · show hasF 1 l ((b + 60) % 60) = hasF 1 l (b % 60); rw [show (b + 60) % 60 = b % 60 by omega]
      · show hasF 1 l ((-1 - (b + 60)) % 60) = hasF 1 l ((-1 - b) % 60); rw [show (-1 - (b + 60)) % 60 = (-1 - b) % 60 by omega]) (co rev v) (by show hasF 1 l (co rev (co rev v) % 60) = true; rw [co_co, show v % 60 = v by omega]; exact hv) (x / 60)
    obtain ⟨m, hm, hG⟩ := this
    exact ⟨m, by omega, hG⟩
theorem lev2 (rev : Bool) (k : Nat) (l : List S54) (hg : GoodF 2 l) (hk : 1000 ≤ k) : Lev rev 2 l (fun y => y % 3600 = 0) fun x => cor rev (bumpU k rev (strOfNums (fieldL l)) 2 (co rev x)) := by
  obtain ⟨v, v0, v1, hv⟩ := has_some 2 l hg (by decide) (by decide)
  have v0 : 0 ≤ v := v0
  have v1 : v ≤ 23 := v1
  refine lev_gen rev k 2 l hg (by decide) (by decide) hk 24 rfl (by decide) (fun x => x / 3600) (fun y => y % 3600 = 0) (fun b => hasF 2 l (co rev b % 24)) (fun x _ _ => ?_) (fun t ht => ?_) (fun x _ _ => ?_)
  · show hasF 2 l (co rev (x / 3600) % 24) = hasF 2 l (posV (co rev x) 2)
    rw [posV2]
    cases rev
    · rw [co_f, co_f, show x % 86400 / 3600 = x / 3600 % 24 by omega]
    · rw [co_t, co_t, show (-1 - x) % 86400 / 3600 = (-1 - x / 3600) % 24 by omega]
  · cases rev
    · exact units_2 t ht
    · exact unitsR_2 t ht
  · have := cycle (fun b => hasF 2 l (co rev b % 24)) 24 (by decide) (fun b => by
      cases rev
      · show hasF 2 l ((b + 24) % 24) = hasF 2 l (b % 24); rw [show (b + 24) % 24 = b % 24 by omega]
      · show hasF 2 l ((-1 - (b + 24)) % 24) = hasF 2 l ((-1 - b) % 24); rw [show (-1 - (b + 24)) % 24 = (-1 - b) % 24 by omega]) (co rev v) (by show hasF 2 l (co rev (co rev v) % 24) = true; rw [co_co, show v % 24 = v by omega]; exact hv) (x / 3600)
    obtain ⟨m, hm, hG⟩ := this
    exact ⟨m, by omega, hG⟩
theorem day_bdD {rev : Bool} {x : Int} (a : loD rev ≤ x) (b : x ≤ hiD rev) : 700100 ≤ co rev (x / 86400) + 306 ∧ co rev (x / 86400) + 306 ≤ 799900 := by
  cases rev
  · rw [loD_f] at a; rw [hiD_f] at b; rw [co_f]; unfold lo0 at a; unfold hi0 at b; omega
  · rw [loD_t] at a; rw [hiD_t] at b; rw [co_t]; unfold hi0 at a; unfold lo0 at b; omega
theorem co_day (rev : Bool) (x : Int) : co rev x / 86400 = co rev (x / 86400) := by
  cases rev
  · rfl
  · rw [co_t, co_t]; omega
theorem lev3 (rev : Bool) (k : Nat) (l : List S54) (hg : GoodF 3 l) (hk : 1000 ≤ k) : Lev rev 3 l (fun y => y % 86400 = 0) fun x => cor rev (bumpU k rev (strOfNums (fieldL l)) 3 (co rev x)) := by
  obtain ⟨v, v0, v1, hv⟩ := has_some 3 l hg (by decide) (by decide)
  have v0 : 1 ≤ v := v0
  have v1 : v ≤ 31 := v1
  refine lev_gen rev k 3 l hg (by decide) (by decide) hk 62 rfl (by decide) (fun x => x / 86400) (fun y => y % 86400 = 0) (fun b => hasF 3 l (dayE (co rev b + 306))) (fun x _ _ => ?_) (fun t ht => ?_) (fun x hx0 hx1 => ?_)
  · show _ = hasF 3 l (posV (co rev x) 3)
    rw [posV3, co_day]
  · cases rev
    · exact units_3 3 t (.inl rfl) ht
    · exact unitsR_3 3 t (.inl rfl) ht
  · have hb := day_bdD hx0 hx1
    show ∃ n : Nat, n < 62 ∧ hasF 3 l (dayE (co rev (x / 86400 + n) + 306)) = true
    cases rev
    · obtain ⟨q, q0, q1, hq⟩ := day_up (co false (x / 86400) + 306) v (by omega) (by omega) v0 v1
      refine ⟨q.toNat, by omega, ?_⟩
      rw [co_f] at hq ⊢
      rw [show x / 86400 + (q.toNat : Int) + 306 = x / 86400 + 306 + q by omega, hq]; exact hv
    · obtain ⟨q, q0, q1, hq⟩ := day_down (co true (x / 86400) + 306) v (by omega) (by omega) v0 v1
      refine ⟨q.toNat, by omega, ?_⟩
      rw [co_t] at hq ⊢
      rw [show -1 - (x / 86400 + (q.toNat : Int)) + 306 = -1 - x / 86400 + 306 - q by omega, hq]; exact hv
theorem lev5 (rev : Bool) (k : Nat) (l : List S54) (hg : GoodF 5 l) (hk : 1000 ≤ k) : Lev rev 5 l (fun y => y % 86400 = 0) fun x => cor rev (bumpU k rev (strOfNums (fieldL l)) 5 (co rev x)) := by
  obtain ⟨v, v0, v1, hv⟩ := has_some 5 l hg (by decide) (by decide)
  have v0 : 0 ≤ v := v0
  have v1 : v ≤ 6 := v1
  refine lev_gen rev k 5 l hg (by decide) (by decide) hk 366 rfl (by decide) (fun x => x / 86400) (fun y => y % 86400 = 0) (fun b => hasF 5 l (wdE (co rev b + 306))) (fun x _ _ => ?_) (fun t ht => ?_) (fun x hx0 hx1 => ?_)
  · show _ = hasF 5 l (posV (co rev x) 5)
    rw [posV5, co_day]
  · cases rev
    · exact units_3 5 t (.inr rfl) ht
    · exact unitsR_3 5 t (.inr rfl) ht
  · have := cycle (fun b => hasF 5 l (wdE (co rev b + 306))) 7 (by decide) (fun b => by
      cases rev
      · show hasF 5 l (wdE (b + 7 + 306)) = hasF 5 l (wdE (b + 306)); rw [show wdE (b + 7 + 306) = wdE (b + 306) by unfold wdE; omega]
      · show hasF 5 l (wdE (-1 - (b + 7) + 306)) = hasF 5 l (wdE (-1 - b + 306)); rw [show wdE (-1 - (b + 7) + 306) = wdE (-1 - b + 306) by unfold wdE; omega]) (co rev (v - 309)) (by show hasF 5 l (wdE (co rev (co rev (v - 309)) + 306)) = true; rw [co_co, show wdE (v - 309 + 306) = v by unfold wdE; omega]; exact hv) (x / 86400)
    obtain ⟨m, hm, hG⟩ := this
    exact ⟨m, by omega, hG⟩
theorem mox_mon (x : Int) : mox x % 12 + 1 = monS x := by
  have := mon_bd x
  unfold mox
  omega
theorem lev4 (rev : Bool) (k : Nat) (l : List S54) (hg : GoodF 4 l) (hk : 1000 ≤ k) : Lev rev 4 l (fun y => y % 86400 = 0) fun x => cor rev (bumpU k rev (strOfNums (fieldL l)) 4 (co rev x)) := by
  obtain ⟨v, v0, v1, hv⟩ := has_some 4 l hg (by decide) (by decide)
  have v0 : 1 ≤ v := v0
  have v1 : v ≤ 12 := v1
  refine lev_gen rev k 4 l hg (by decide) (by decide) hk 12 rfl (by decide) (fun x => if rev = true then moxR x else mox x) (fun y => y % 86400 = 0) (fun b => hasF 4 l (co rev b % 12 + 1)) (fun x _ _ => ?_) (fun t ht => ?_) (fun x hx0 hx1 => ?_)
  · show hasF 4 l (co rev (if rev = true then moxR x else mox x) % 12 + 1) = hasF 4 l (monS (co rev x))
    rw [← mox_mon (co rev x)]
    cases rev
    · rfl
    · rw [if_pos rfl, co_t, co_t]
      unfold moxR
      rw [show -1 - (-1 - mox (-1 - x)) = mox (-1 - x) by omega]
  · cases rev
    · exact units_4 t ht
    · exact unitsR_4 t ht
  · have := cycle (fun b => hasF 4 l (co rev b % 12 + 1)) 12 (by decide) (fun b => by
      cases rev
      · show hasF 4 l ((b + 12) % 12 + 1) = hasF 4 l (b % 12 + 1); rw [show (b + 12) % 12 = b % 12 by omega]
      · show hasF 4 l ((-1 - (b + 12)) % 12 + 1) = hasF 4 l ((-1 - b) % 12 + 1); rw [show (-1 - (b + 12)) % 12 = (-1 - b) % 12 by omega]) (co rev (v - 1)) (by show hasF 4 l (co rev (co rev (v - 1)) % 12 + 1) = true; rw [co_co, show (v - 1) % 12 + 1 = v by omega]; exact hv) (if rev = true then moxR x else mox x)
    obtain ⟨m, hm, hG⟩ := this
    exact ⟨m, by omega, hG⟩
end Go.Proofs.YtjpcdkhapeejjaaGreatDoor.A
