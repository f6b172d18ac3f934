/- Steps of the proof of the law: contracts of functions of the given program, and plain lemmas about what they compute.
Conditions: none beyond those that each theorem names. -/
import Derived.Test.YtjpcdkhapeejjaaGreatDoorK26
set_option linter.unusedVariables false
set_option linter.unusedSimpArgs false
open Go.RowKit Go.Proofs.YtjpcdkhapeejjaaGreatDoorW.PrintWords Go.Proofs.YtjpcdkhapeejjaaGreatDoorW.PrintLast Go.Proofs.YtjpcdkhapeejjaaGreatDoorW.PrintMore
namespace Go.Proofs.YtjpcdkhapeejjaaGreatDoor.A
def spec_FieldText.l0 : Nat → ByteArray → List (S54) → Int → Int → Option (ByteArray)
  | 0, _, _, _, _ => none
  | k + 1, x3, x6, x7, x8 => if x8 < x7 then (if 0 ≤ x8 then (if x8 < (x6.length : Int) then (if x8 > 0 then (if x3.size + 1 ≤ 9223372036854775807 then ((spec_ItemText.f ((rd_T54 x6 x8).f0) ((rd_T54 x6 x8).f1) ((rd_T54 x6 x8).f2) ((rd_T54 x6 x8).f3)).bind fun t202 => (if (x3 ++ (⟨#[44]⟩ : ByteArray)).size + t202.size ≤ 9223372036854775807 then (spec_FieldText.l0 k ((x3 ++ (⟨#[44]⟩ : ByteArray)) ++ t202) x6 x7 (wrap64 (x8 + 1))) else (none))) else (none)) else ((spec_ItemText.f ((rd_T54 x6 x8).f0) ((rd_T54 x6 x8).f1) ((rd_T54 x6 x8).f2) ((rd_T54 x6 x8).f3)).bind fun t203 => (if x3.size + t203.size ≤ 9223372036854775807 then (spec_FieldText.l0 k (x3 ++ t203) x6 x7 (wrap64 (x8 + 1))) else (none)))) else (none)) else (none)) else (some x3)
def spec_FieldText.f (k : Nat) (l0 : List (S54)) : Option (ByteArray) := spec_FieldText.l0 k (⟨#[]⟩ : ByteArray) l0 (l0.length : Int) 0
set_option maxHeartbeats 8000000 in
set_option maxRecDepth 100000 in
theorem spec_FieldText.calls (k : Nat) (A0 : Option Addr) (c0 : Nat) (l0 : List (S54)) (r : ByteArray) (w : World) (hr0 : Kd.C k54 w A0 l0.length l0) (hc0 : l0.length ≤ c0) (h : spec_FieldText.f k l0 = some r) :
    Calls Tryz.prog 33 #[.slice A0 l0.length c0] w fun e w' => e = .returned (.string r) ∧ Below w.heap.size w w' := by
 have hu54 := Tryz.underlying54
 have HR0 := Aside0.mk hr0
 have HC0 := Aside0.mk hc0
 clear hr0 hc0
 have HB := Aside0.mk (Below.refl w.heap.size w)
 have H : (spec_FieldText.l0 k (⟨#[]⟩ : ByteArray) l0 (l0.length : Int) 0) = some r := h
 clear h
 have H' := Aside0.mk H
 clear H
 go_enter Tryz.func33, Tryz.ntmps33
 go_wp2
 go_loopg [3, 8] k (fun kq v3 v8 w' => ∃ (x3_1 : ByteArray) (x8_1 : Int), v3 = .string x3_1 ∧ v8 = .int .i64 x8_1 ∧ Aside0 (spec_FieldText.l0 kq x3_1 l0 (l0.length : Int) x8_1 = some r) ∧ Aside0 (kq ≤ k) ∧ Aside0 (Below w.heap.size w w'))
 case atStart => exact ⟨((⟨#[]⟩ : ByteArray)), (0), (by first | rfl | (simp; done) | (simp [*]; done)), (by first | rfl | (simp; done) | (simp [*]; done)), H', ⟨Nat.le_refl _⟩, ⟨by repeat (with_reducible first | exact HB.out | apply below_alloc | apply pw_below_drewN | apply below_drew1)⟩⟩
 case round =>
  clear H'
  obtain ⟨x3_1, x8_1, rfl, rfl, HA, HK1, HB⟩ := hrel
  cases gk with
  | zero => exact absurd HA.out (by simp [spec_FieldText.l0])
  | succ k1 =>
   have H := HA.out
   clear HA
   simp only [spec_FieldText.l0] at H
   refine (Classical.em (x8_1 < (l0.length : Int))).elim (fun c2 => ?a1_) (fun c2 => ?b1_)
   case' a1_ =>
    rw [if_pos c2] at H
    have c2b0 : decide (x8_1 < (l0.length : Int)) = true := decide_eq_true c2
    clear c2
    refine (Classical.em (0 ≤ x8_1)).elim (fun c3 => ?a2_) (fun c3 => ?b2_)
   case' a2_ =>
    rw [if_pos c3] at H
    have c3b0 : decide (0 ≤ x8_1) = true := decide_eq_true c3
    clear c3
    refine (Classical.em (x8_1 < (l0.length : Int))).elim (fun c4 => ?a3_) (fun c4 => ?b3_)
   case' a3_ =>
    rw [if_pos c4] at H
    have c4b0 : decide (x8_1 < (l0.length : Int)) = true := decide_eq_true c4
    clear c4
    refine (Classical.em (x8_1 > 0)).elim (fun c5 => ?a4_) (fun c5 => ?b4_)
   case' a4_ =>
    rw [if_pos c5] at H
    have c5b0 : decide (0 < x8_1) = true := decide_eq_true c5
    clear c5
    refine (Classical.em (x3_1.size + 1 ≤ 9223372036854775807)).elim (fun c6 => ?a5_) (fun c6 => ?b5_)
   case' a5_ =>
    rw [if_pos c6] at H
    have c6b0 := eq_true c6
    have c6b1 : decide (x3_1.size + 1 ≤ 9223372036854775807) = true := decide_eq_true c6
    try have c6b2 : (9223372036854775807 < x3_1.size + 1) = False := eq_false (Nat.not_lt.2 c6)
    replace H := Option.bind_eq_some_iff.mp H
    obtain ⟨t202, A70, H⟩ := H
    try dsimp only at H
    have A7 := Aside0.mk A70
    clear A70
    refine (Classical.em ((x3_1 ++ (⟨#[44]⟩ : ByteArray)).size + t202.size ≤ 9223372036854775807)).elim (fun c8 => ?a6_) (fun c8 => ?b6_)
   case a6_ =>
    rw [if_pos c8] at H
    have c8b0 := eq_true c8
    have c8b1 : decide ((x3_1 ++ (⟨#[44]⟩ : ByteArray)).size + t202.size ≤ 9223372036854775807) = true := decide_eq_true c8
    try have c8b2 : (9223372036854775807 < (x3_1 ++ (⟨#[44]⟩ : ByteArray)).size + t202.size) = False := eq_false (Nat.not_lt.2 c8)
    have c8b3 : (9223372036854775807 < x3_1.size + 1 + t202.size) = False := by have h_ := c8; rw [ByteArray.size_append] at h_; exact eq_false (Nat.not_lt.2 h_)
    have H' := Aside0.mk H
    clear H
    have p200 : 0 ≤ (x8_1 : Int) := of_decide_eq_true (by first | (with_reducible assumption) | assumption)
    have q200 : x8_1 < (l0.length : Int) := of_decide_eq_true (by first | (with_reducible assumption) | assumption)
    obtain ⟨ad200, e200, hx200_0, hx200_1, hx200_2, hx200_3⟩ := at_T54 HR0.out x8_1 p200 q200
    cases e200
    replace hx200_0 := (HB.out.cell (World.block_lt_of_cell? w _ hx200_0)).trans hx200_0
    replace hx200_1 := (HB.out.cell (World.block_lt_of_cell? w _ hx200_1)).trans hx200_1
    replace hx200_2 := (HB.out.cell (World.block_lt_of_cell? w _ hx200_2)).trans hx200_2
    replace hx200_3 := (HB.out.cell (World.block_lt_of_cell? w _ hx200_3)).trans hx200_3
    replace p200 := eq_true p200
    replace q200 := eq_true q200
    go_wp2_with (first | ((with_reducible refine gate_dst (N := 5) rfl ?_); refine box_event ?hg (N := 5) ?hd (cs := #[.bool false, .int .i64 0, .int .i64 0, .int .i64 0]) (t := 54) ?hr ?_; (case hd => rfl); (case hg => rfl); (case hr => first | (go_simp; done) | (go_simp; rfl)); intro gb201 hg w9 hbox hb; have n0_ := Aside0.mk (below_step (by repeat (with_reducible first | exact HB.out | apply below_alloc | apply pw_below_drewN | apply below_drew1)) hb); have n1_ := Aside0.mk (hbox); have n2_ := Aside0.mk ((by rw [hg]; exact (below_size (by repeat (with_reducible first | exact HB.out | apply below_alloc | apply pw_below_drewN | apply below_drew1))) : w.heap.size ≤ gb201)); have n3_ := Aside0.mk ((by rw [hg]; exact (below_size (by repeat (with_reducible first | exact HB.out | apply below_alloc | apply pw_below_drewN | apply below_drew1))) : w.heap.size ≤ gb201)); clear HB; have HB := n0_; have BK201 := n1_; have GW201 := n2_; have GE201 := n3_; clear n0_ n1_ n2_ n3_; clear hb hbox hg; have hcz10_0 : w9.cell? ⟨gb201, 0, none⟩ = some (.bool false) := (blk_cell BK201.out 0).trans rfl; have hcz10_1 : w9.cell? ⟨gb201, 1, none⟩ = some (.int .i64 0) := (blk_cell BK201.out 1).trans rfl; have hcz10_2 : w9.cell? ⟨gb201, 2, none⟩ = some (.int .i64 0) := (blk_cell BK201.out 2).trans rfl; have hcz10_3 : w9.cell? ⟨gb201, 3, none⟩ = some (.int .i64 0) := (blk_cell BK201.out 3).trans rfl; have hfz10_0 := blk_frozen BK201.out 0; have hfz10_1 := blk_frozen BK201.out 1; have hfz10_2 := blk_frozen BK201.out 2; have hfz10_3 := blk_frozen BK201.out 3) | ((with_reducible refine gate_callee (f := 53) rfl ?_); refine goesL_ (some 19) rfl rfl Tryz.func53 (by kernel_rfl) rfl #[.agg #[.bool ((rd_T54 l0 x8_1).f0), .int .i64 ((rd_T54 l0 x8_1).f1), .int .i64 ((rd_T54 l0 x8_1).f2), .int .i64 ((rd_T54 l0 x8_1).f3)]] rfl (by (try simp only [List.map_toArray, List.map_cons, List.map_nil]); first | done | rfl | (simp only [List.length_drop, List.length_take]; rfl)) ?_; (with_reducible refine (spec_ItemText.calls ((rd_T54 l0 x8_1).f0) ((rd_T54 l0 x8_1).f1) ((rd_T54 l0 x8_1).f2) ((rd_T54 l0 x8_1).f3) t202 _ A7.out).mono ?_); rintro e w11 ⟨rfl, hb⟩; refine ⟨_, rfl, ?_⟩; have n0_ := Aside0.mk (blk_below (g := gb201) (o := .cells #[.bool ((rd_T54 l0 x8_1).f0), .int .i64 ((rd_T54 l0 x8_1).f1), .int .i64 ((rd_T54 l0 x8_1).f2), .int .i64 ((rd_T54 l0 x8_1).f3)] 54 (0, 0)) (by (with_reducible repeat (first | refine blk_drewN ?_ _ | refine blk_drew ?_ | refine blk_alloc ?_ _)); refine blk_put (cs := #[.bool ((rd_T54 l0 x8_1).f0), .int .i64 ((rd_T54 l0 x8_1).f1), .int .i64 ((rd_T54 l0 x8_1).f2), .int .i64 0]) ?_ 3 _ rfl; (with_reducible repeat (first | refine blk_drewN ?_ _ | refine blk_drew ?_ | refine blk_alloc ?_ _)); refine blk_put (cs := #[.bool ((rd_T54 l0 x8_1).f0), .int .i64 ((rd_T54 l0 x8_1).f1), .int .i64 0, .int .i64 0]) ?_ 2 _ rfl; (with_reducible repeat (first | refine blk_drewN ?_ _ | refine blk_drew ?_ | refine blk_alloc ?_ _)); refine blk_put (cs := #[.bool ((rd_T54 l0 x8_1).f0), .int .i64 0, .int .i64 0, .int .i64 0]) ?_ 1 _ rfl; (with_reducible repeat (first | refine blk_drewN ?_ _ | refine blk_drew ?_ | refine blk_alloc ?_ _)); refine blk_put (cs := #[.bool false, .int .i64 0, .int .i64 0, .int .i64 0]) ?_ 0 _ rfl; (with_reducible repeat (first | refine blk_drewN ?_ _ | refine blk_drew ?_ | refine blk_alloc ?_ _)); exact BK201.out) hb); have n1_ := Aside0.mk (below_step (by repeat (with_reducible first | exact HB.out | apply below_alloc | apply pw_below_drewN | apply below_drew1 | refine below_set ?_ GE201.out)) hb); clear BK201; clear HB; have BK201 := n0_; have HB := n1_; clear n0_ n1_; (try clear hb); (try clear hb2); (try clear hk); (try clear hi)))
    go_roundg k1
    case measure => have := HK1.out; omega
    case rel => exact ⟨((x3_1 ++ (⟨#[44]⟩ : ByteArray)) ++ t202), (wrap64 (x8_1 + 1)), (by first | rfl | (simp; done) | (simp [*]; done)), (by first | rfl | (simp; done) | (simp [*]; done)), H', ⟨by have := HK1.out; omega⟩, ⟨by repeat (with_reducible first | exact HB.out | apply below_alloc | apply pw_below_drewN | apply below_drew1 | refine below_set ?_ GE201.out)⟩⟩
   case b6_ =>
    rw [if_neg c8] at H
    exact absurd H (by simp)
   case b5_ =>
    rw [if_neg c6] at H
    exact absurd H (by simp)
   case' b4_ =>
    rw [if_neg c5] at H
    have c5b0 : decide (0 < x8_1) = false := decide_eq_false c5
    clear c5
    replace H := Option.bind_eq_some_iff.mp H
    obtain ⟨t203, A120, H⟩ := H
    try dsimp only at H
    have A12 := Aside0.mk A120
    clear A120
    refine (Classical.em (x3_1.size + t203.size ≤ 9223372036854775807)).elim (fun c13 => ?a7_) (fun c13 => ?b7_)
   case a7_ =>
    rw [if_pos c13] at H
    have c13b0 := eq_true c13
    have c13b1 : decide (x3_1.size + t203.size ≤ 9223372036854775807) = true := decide_eq_true c13
    try have c13b2 : (9223372036854775807 < x3_1.size + t203.size) = False := eq_false (Nat.not_lt.2 c13)
    have H' := Aside0.mk H
    clear H
    have p200 : 0 ≤ (x8_1 : Int) := of_decide_eq_true (by first | (with_reducible assumption) | assumption)
    have q200 : x8_1 < (l0.length : Int) := of_decide_eq_true (by first | (with_reducible assumption) | assumption)
    obtain ⟨ad200, e200, hx200_0, hx200_1, hx200_2, hx200_3⟩ := at_T54 HR0.out x8_1 p200 q200
    cases e200
    replace hx200_0 := (HB.out.cell (World.block_lt_of_cell? w _ hx200_0)).trans hx200_0
    replace hx200_1 := (HB.out.cell (World.block_lt_of_cell? w _ hx200_1)).trans hx200_1
    replace hx200_2 := (HB.out.cell (World.block_lt_of_cell? w _ hx200_2)).trans hx200_2
    replace hx200_3 := (HB.out.cell (World.block_lt_of_cell? w _ hx200_3)).trans hx200_3
    replace p200 := eq_true p200
    replace q200 := eq_true q200
    go_wp2_with (first | ((with_reducible refine gate_dst (N := 5) rfl ?_); refine box_event ?hg (N := 5) ?hd (cs := #[.bool false, .int .i64 0, .int .i64 0, .int .i64 0]) (t := 54) ?hr ?_; (case hd => rfl); (case hg => rfl); (case hr => first | (go_simp; done) | (go_simp; rfl)); intro gb201 hg w14 hbox hb; have n0_ := Aside0.mk (below_step (by repeat (with_reducible first | exact HB.out | apply below_alloc | apply pw_below_drewN | apply below_drew1)) hb); have n1_ := Aside0.mk (hbox); have n2_ := Aside0.mk ((by rw [hg]; exact (below_size (by repeat (with_reducible first | exact HB.out | apply below_alloc | apply pw_below_drewN | apply below_drew1))) : w.heap.size ≤ gb201)); have n3_ := Aside0.mk ((by rw [hg]; exact (below_size (by repeat (with_reducible first | exact HB.out | apply below_alloc | apply pw_below_drewN | apply below_drew1))) : w.heap.size ≤ gb201)); clear HB; have HB := n0_; have BK201 := n1_; have GW201 := n2_; have GE201 := n3_; clear n0_ n1_ n2_ n3_; clear hb hbox hg; have hcz15_0 : w14.cell? ⟨gb201, 0, none⟩ = some (.bool false) := (blk_cell BK201.out 0).trans rfl; have hcz15_1 : w14.cell? ⟨gb201, 1, none⟩ = some (.int .i64 0) := (blk_cell BK201.out 1).trans rfl; have hcz15_2 : w14.cell? ⟨gb201, 2, none⟩ = some (.int .i64 0) := (blk_cell BK201.out 2).trans rfl; have hcz15_3 : w14.cell? ⟨gb201, 3, none⟩ = some (.int .i64 0) := (blk_cell BK201.out 3).trans rfl; have hfz15_0 := blk_frozen BK201.out 0; have hfz15_1 := blk_frozen BK201.out 1; have hfz15_2 := blk_frozen BK201.out 2; have hfz15_3 := blk_frozen BK201.out 3) | ((with_reducible refine gate_callee (f := 53) rfl ?_); refine goesL_ (some 19) rfl rfl Tryz.func53 (by kernel_rfl) rfl #[.agg #[.bool ((rd_T54 l0 x8_1).f0), .int .i64 ((rd_T54 l0 x8_1).f1), .int .i64 ((rd_T54 l0 x8_1).f2), .int .i64 ((rd_T54 l0 x8_1).f3)]] rfl (by (try simp only [List.map_toArray, List.map_cons, List.map_nil]); first | done | rfl | (simp only [List.length_drop, List.length_take]; rfl)) ?_; (with_reducible refine (spec_ItemText.calls ((rd_T54 l0 x8_1).f0) ((rd_T54 l0 x8_1).f1) ((rd_T54 l0 x8_1).f2) ((rd_T54 l0 x8_1).f3) t203 _ A12.out).mono ?_); rintro e w16 ⟨rfl, hb⟩; refine ⟨_, rfl, ?_⟩; have n0_ := Aside0.mk (blk_below (g := gb201) (o := .cells #[.bool ((rd_T54 l0 x8_1).f0), .int .i64 ((rd_T54 l0 x8_1).f1), .int .i64 ((rd_T54 l0 x8_1).f2), .int .i64 ((rd_T54 l0 x8_1).f3)] 54 (0, 0)) (by (with_reducible repeat (first | refine blk_drewN ?_ _ | refine blk_drew ?_ | refine blk_alloc ?_ _)); refine blk_put (cs := #[.bool ((rd_T54 l0 x8_1).f0), .int .i64 ((rd_T54 l0 x8_1).f1), .int .i64 ((rd_T54 l0 x8_1).f2), .int .i64 0]) ?_ 3 _ rfl; (with_reducible repeat (first | refine blk_drewN ?_ _ | refine blk_drew ?_ | refine blk_alloc ?_ _)); refine blk_put (cs := #[.bool ((rd_T54 l0 x8_1).f0), .int .i64 ((rd_T54 l0 x8_1).f1), .int .i64 0, .int .i64 0]) ?_ 2 _ rfl; (with_reducible repeat (first | refine blk_drewN ?_ _ | refine blk_drew ?_ | refine blk_alloc ?_ _)); refine blk_put (cs := #[.bool ((rd_T54 l0 x8_1).f0), .int .i64 0, .int .i64 0, .int .i64 0]) ?_ 1 _ rfl; (with_reducible repeat (first | refine blk_drewN ?_ _ | refine blk_drew ?_ | refine blk_alloc ?_ _)); refine blk_put (cs := #[.bool false, .int .i64 0, .int .i64 0, .int .i64 0]) ?_ 0 _ rfl; (with_reducible repeat (first | refine blk_drewN ?_ _ | refine blk_drew ?_ | refine blk_alloc ?_ _)); exact BK201.out) hb); have n1_ := Aside0.mk (below_step (by repeat (with_reducible first | exact HB.out | apply below_alloc | apply pw_below_drewN | apply below_drew1 | refine below_set ?_ GE201.out)) hb); clear BK201; clear HB; have BK201 := n0_; have HB := n1_; clear n0_ n1_; (try clear hb); (try clear hb2); (try clear hk); (try clear hi)))
    go_roundg k1
    case measure => have := HK1.out; omega
    case rel => exact ⟨(x3_1 ++ t203), (wrap64 (x8_1 + 1)), (by first | rfl | (simp; done) | (simp [*]; done)), (by first | rfl | (simp; done) | (simp [*]; done)), H', ⟨by have := HK1.out; omega⟩, ⟨by repeat (with_reducible first | exact HB.out | apply below_alloc | apply pw_below_drewN | apply below_drew1 | refine below_set ?_ GE201.out)⟩⟩
   case b7_ =>
    rw [if_neg c13] at H
    exact absurd H (by simp)
   case b3_ =>
    rw [if_neg c4] at H
    exact absurd H (by simp)
   case b2_ =>
    rw [if_neg c3] at H
    exact absurd H (by simp)
   case b1_ =>
    rw [if_neg c2] at H
    have c2b0 : decide (x8_1 < (l0.length : Int)) = false := decide_eq_false c2
    clear c2
    obtain rfl := Option.some.inj H
    go_wp2
    go_ret
    exact ⟨by first | rfl | (simp [errW_none, errW_some] <;> rfl) | (simp [*, errW_none, errW_some] <;> rfl), by repeat (with_reducible first | exact HB.out | apply below_alloc | apply pw_below_drewN | apply below_drew1)⟩
end Go.Proofs.YtjpcdkhapeejjaaGreatDoor.A
namespace Go.Proofs.YtjpcdkhapeejjaaGreatDoor.A
open Cal
def dec (n : Int) : List Int := if n < 10 then [48 + n] else [48 + n / 10, 48 + n % 10]
theorem dec_dig {n : Int} (h0 : 0 ≤ n) (h1 : n ≤ 99) : ∀ x ∈ dec n, 48 ≤ x ∧ x ≤ 57 := by
  unfold dec
  split
  · intro x hx; rw [List.mem_singleton] at hx; omega
  · intro x hx
    simp only [List.mem_cons, List.not_mem_nil, or_false] at hx
    omega
theorem dec_len (n : Int) : 1 ≤ (dec n).length ∧ (dec n).length ≤ 2 := by
  unfold dec; split <;> simp
theorem dig_eq (n : Int) (h0 : 0 ≤ n) : digB n = strOfNums [48 + n] := by
  unfold digB strOfNums
  rw [List.map_cons, List.map_nil, show ((48 : Int) + n).toNat = 48 + n.toNat by omega]
theorem decB_eq (n : Int) (h0 : 0 ≤ n) : decB n = strOfNums (dec n) := by
  unfold decB dec
  by_cases c : n < 10
  · rw [if_pos c, if_pos c, dig_eq n h0]
  · rw [if_neg c, if_neg c, dig_eq _ (by omega), dig_eq _ (by omega), s_app]; rfl
def low (j : Int) : Int := if j = 3 then 1 else if j = 4 then 1 else 0
def high (j : Int) : Int := ([59, 59, 23, 31, 12, 6] : List Int).getD j.toNat 0
def itemL (x : S54) : List Int :=
  if x.f0 = true then (if 1 < x.f3 then 42 :: 47 :: dec x.f3 else [42])
  else if 1 < x.f3 then (dec x.f1 ++ 45 :: dec x.f2) ++ 47 :: dec x.f3
  else if x.f1 < x.f2 then dec x.f1 ++ 45 :: dec x.f2 else dec x.f1
/-- A piece as the reference takes it. -/
structure GoodI (j : Int) (x : S54) : Prop where
  s0 : 1 ≤ x.f3
  s1 : x.f3 ≤ 60
  r : x.f0 = false → low j ≤ x.f1 ∧ x.f2 ≤ high j ∧ x.f1 ≤ x.f2
theorem low_bd (j : Int) : 0 ≤ low j ∧ low j ≤ 1 := by unfold low; split; omega; split <;> omega
theorem high_bd (j : Int) : 0 ≤ high j ∧ high j ≤ 59 := by
  unfold high
  have : j.toNat = 0 ∨ j.toNat = 1 ∨ j.toNat = 2 ∨ j.toNat = 3 ∨ j.toNat = 4 ∨ j.toNat = 5 ∨ 6 ≤ j.toNat := by omega
  rcases this with h | h | h | h | h | h | h
  all_goals first
    | (rw [h]; decide)
    | (rw [List.getD_eq_getElem?_getD, List.getElem?_eq_none (by simpa using h)]; decide)
theorem b_eq (l : List UInt8) (xs : List Int) (h : l = xs.map fun n => UInt8.ofNat n.toNat) : B l = strOfNums xs := by unfold B strOfNums; rw [h]
theorem item_eq (j : Int) (x : S54) (h : GoodI j x) : spec_ItemText.f x.f0 x.f1 x.f2 x.f3 = some (strOfNums (itemL x)) := by
  have hl := low_bd j
  have hh := high_bd j
  have s0 := h.s0
  have s1 := h.s1
  unfold spec_ItemText.f
  rw [if_pos ⟨by cases hf : x.f0 with | true => exact .inl rfl | false => have := h.r hf; exact .inr (by omega), by omega⟩]
  congr 1
  unfold itemB itemL
  rw [b_eq [42] [42] rfl, b_eq [45] [45] rfl, b_eq [47] [47] rfl, decB_eq x.f3 (by omega)]
  cases hf : x.f0 with
  | true =>
    rw [if_pos rfl, if_pos rfl]
    by_cases c : 1 < x.f3
    · rw [if_pos c, if_pos c, s_app, s_app]; rfl
    · rw [if_neg c, if_neg c]
  | false =>
    have hr := h.r hf
    rw [if_neg (show ¬ (false = true) by decide), if_neg (show ¬ (false = true) by decide), decB_eq x.f1 (by omega), decB_eq x.f2 (by omega), s_app, s_app, s_app, s_app]
    by_cases c : 1 < x.f3
    · rw [if_pos c, if_pos c, if_pos c]
      by_cases d : x.f1 < x.f2
      · rw [if_pos d]; rfl
      · rw [if_neg d]; rfl
    · rw [if_neg c, if_neg c, if_neg c]
      by_cases d : x.f1 < x.f2
      · rw [if_pos d, if_pos d]; rfl
      · rw [if_neg d, if_neg d]
/-- A piece has a number. -/
def hasI (j : Int) (x : S54) (v : Int) : Bool := decide ((if x.f0 = true then low j else x.f1) ≤ v ∧ v ≤ (if x.f0 = true then high j else x.f2) ∧ (v - (if x.f0 = true then low j else x.f1)) % x.f3 = 0)
theorem atoi_dec (n : Int) (h0 : 0 ≤ n) (h1 : n ≤ 99) : strconv_Atoi.f (strOfNums (dec n)) = some (n, none) := by
  have hb : by8 (dec n) := fun x hx => by have := dec_dig h0 h1 x hx; omega
  unfold strconv_Atoi.f
  rw [s_bt _ hb, s_bt _ hb, strOfNums_size]
  unfold atoiVal
  rw [s_bt _ hb, s_bt _ hb]
  unfold dec
  by_cases c : n < 10
  · rw [if_pos c]
    have e0 : rd [48 + n] 0 = 48 + n := rfl
    rw [e0, if_pos ⟨rfl, by unfold dig; omega⟩]
    simp; omega
  · rw [if_neg c]
    have e0 : rd [48 + n / 10, 48 + n % 10] 0 = 48 + n / 10 := rfl
    have e1 : rd [48 + n / 10, 48 + n % 10] 1 = 48 + n % 10 := rfl
    rw [e0, e1, if_neg (fun h => absurd h.1 (by simp)), if_pos ⟨rfl, by unfold dig; omega, by unfold dig; omega⟩]
    simp; omega
theorem tmod_eq (a b : Int) (h : 0 ≤ a) : Int.tmod a b = a % b := Int.tmod_eq_emod_of_nonneg h
/-- Where a pattern does not begin a text, it is not found at 0. -/
theorem idx_some (xs p : List Int) (bx : by8 xs) (bp : by8 p) (hs : xs.length < 1000000) (hp : p.length < 1000) : ∀ (m i k : Nat), i + m = xs.length + 1 → m < k → ∃ r, gronx_zzIndex.l0 k (strOfNums xs) (strOfNums p) (i : Int) = some r ∧ (r = -1 ∨ (i : Int) ≤ r)
  | m, i, 0, _, hk => by omega
  | 0, i, k + 1, hi, hk => ⟨-1, by rw [idx_step k xs p bx bp i (by omega) hs hp, if_neg (by omega)], .inl rfl⟩
  | m + 1, i, k + 1, hi, hk => by
    rw [idx_step k xs p bx bp i (by omega) hs hp]
    by_cases c : (i : Int) + p.length ≤ xs.length
    · rw [if_pos c]
      by_cases e : (xs.drop i).take p.length = p
      · rw [if_pos e]; exact ⟨_, rfl, .inr (Int.le_refl _)⟩
      · rw [if_neg e]
        obtain ⟨r, hr, h⟩ := idx_some xs p bx bp hs hp m (i + 1) k (by omega) (by omega)
        exact ⟨r, hr, by omega⟩
    · rw [if_neg c]; exact ⟨-1, rfl, .inl rfl⟩
theorem idx_not0 (xs p : List Int) (bx : by8 xs) (bp : by8 p) (hs : xs.length < 1000000) (hp : p.length < 1000) (hne : xs.take p.length ≠ p) (k : Nat) (hk : xs.length + 2 < k) : ∃ r, gronx_zzIndex.f k (strOfNums xs) (strOfNums p) = some r ∧ r ≠ 0 := by
  obtain ⟨k, rfl⟩ : ∃ k', k = k' + 1 := ⟨k - 1, by omega⟩
  unfold gronx_zzIndex.f
  have := idx_step k xs p bx bp 0 (by omega) hs hp
  rw [show ((0 : Nat) : Int) = 0 from rfl, List.drop_zero] at this
  rw [this]
  by_cases c : (0 : Int) + p.length ≤ xs.length
  · rw [if_pos c, if_neg hne]
    have hx : 0 < xs.length := by
      by_cases h : xs.length = 0
      · exfalso
        have h1 : p.length = 0 := by omega
        have h2 : xs = [] := List.eq_nil_of_length_eq_zero h
        have h3 : p = [] := List.eq_nil_of_length_eq_zero h1
        exact hne (by rw [h2, h3]; rfl)
      · omega
    obtain ⟨r, hr, h⟩ := idx_some xs p bx bp hs hp xs.length 1 k (by omega) (by omega)
    exact ⟨r, hr, by omega⟩
  · rw [if_neg c]; exact ⟨-1, rfl, by omega⟩
theorem idx_at0 (xs p : List Int) (bx : by8 xs) (bp : by8 p) (hs : xs.length < 1000000) (hp : p.length < 1000) (hl : p.length ≤ xs.length) (he : xs.take p.length = p) (k : Nat) (hk : 0 < k) : gronx_zzIndex.f k (strOfNums xs) (strOfNums p) = some 0 := by
  obtain ⟨k, rfl⟩ : ∃ k', k = k' + 1 := ⟨k - 1, by omega⟩
  unfold gronx_zzIndex.f
  have := idx_step k xs p bx bp 0 (by omega) hs hp
  rw [show ((0 : Nat) : Int) = 0 from rfl, List.drop_zero] at this
  rw [this, if_pos (by omega), if_pos he]
theorem con_yes (xs ys : List Int) (c : Int) (bx : by8 (xs ++ c :: ys)) (hs : (xs ++ c :: ys).length < 1000000) (h : c ∉ xs) (k : Nat) (hk : xs.length < k) : gronx_zzContains.f k (strOfNums (xs ++ c :: ys)) (strOfNums [c]) = some true := by
  unfold gronx_zzContains.f
  rw [idx1_found xs ys c bx hs h k hk, Option.bind_some]
  rw [decide_eq_true (by omega)]
theorem con_no (xs : List Int) (c : Int) (hc : 0 ≤ c ∧ c ≤ 255) (bx : by8 xs) (hs : xs.length < 1000000) (h : c ∉ xs) (k : Nat) (hk : xs.length + 1 < k) : gronx_zzContains.f k (strOfNums xs) (strOfNums [c]) = some false := by
  unfold gronx_zzContains.f
  rw [idx1_none xs c hc bx hs h k hk]; rfl
theorem split2 (c : Int) (hc : 0 ≤ c ∧ c ≤ 255) (f g : List Int) (hb : by8 (f ++ c :: g)) (hl : (f ++ c :: g).length < 100000) (hf : c ∉ f) (hg : c ∉ g) (k : Nat) (hk : (f ++ c :: g).length + 4 < k) : gronx_zzSplit.f k (strOfNums (f ++ c :: g)) (strOfNums [c]) = some [strOfNums f, strOfNums g] :=
  zsplit c hc [g] f hb hl (fun x hx => by
    simp only [List.mem_cons, List.not_mem_nil, or_false] at hx
    rcases hx with rfl | rfl
    · exact hf
    · exact hg) (by simp) k (by show (f ++ c :: g).length + 1 + 3 < k; omega)
theorem bounds_f (j : Int) (h0 : 0 ≤ j) (h1 : j ≤ 5) (k : Nat) : gronx_boundsByPos.f (k + 1) j = some [low j, if j = 5 then 7 else high j] := by
  have : j = 0 ∨ j = 1 ∨ j = 2 ∨ j = 3 ∨ j = 4 ∨ j = 5 := by omega
  rcases this with rfl | rfl | rfl | rfl | rfl | rfl <;> rfl
theorem range_f (v e s : Int) (hs : 1 ≤ s) (hs2 : s ≤ 100) (he : e ≤ 100) (hv : 0 ≤ v) (hv2 : v ≤ 100) : ∀ (m : Nat) (i : Int) (k : Nat), 0 ≤ i → i ≤ 300 → 101 - i ≤ (m : Int) → 2 * m + 2 ≤ k → gronx_inStepRange.l0 k v e s i = some (decide (i ≤ v ∧ v ≤ e ∧ (v - i) % s = 0))
  | m, i, 0, _, _, _, hk => by omega
  | m, i, 1, _, _, _, hk => by omega
  | m, i, k + 2, h0, h3, h1, hk => by
    rw [gronx_inStepRange.l0]
    by_cases c1 : i ≤ e
    · rw [if_pos c1]
      by_cases c2 : i ≤ v
      · rw [decide_eq_true c2, gronx_inStepRange.j1, if_pos rfl]
        by_cases c3 : i = v
        · rw [if_pos c3, decide_eq_true (by subst c3; exact ⟨by omega, by omega, by simp⟩)]
        · rw [if_neg c3, w64' _ (by omega) (by omega)]
          cases m with
          | zero => omega
          | succ m =>
            rw [range_f v e s hs hs2 he hv hv2 m (i + s) k (by omega) (by omega) (by omega) (by omega)]
            congr 1
            have hmod : (v - (i + s)) % s = (v - i) % s := by rw [show v - (i + s) = (v - i) - s by omega, Int.sub_emod_right]
            rw [hmod]
            refine decide_eq_decide.2 ⟨fun ⟨a, b, c⟩ => ⟨by omega, b, c⟩, fun ⟨a, b, c⟩ => ⟨?_, b, c⟩⟩
            by_cases d : i + s ≤ v
            · exact d
            · have := Int.emod_eq_of_lt (a := v - i) (b := s) (by omega) (by omega)
              omega
      · rw [decide_eq_false c2, gronx_inStepRange.j1, if_neg (by decide), decide_eq_false (fun h => c2 h.1)]
    · rw [if_neg c1, gronx_inStepRange.j1, if_neg (by decide), decide_eq_false (fun h => c1 (by omega))]
theorem dec_not (n c : Int) (h0 : 0 ≤ n) (h1 : n ≤ 99) (hc : c < 48) : c ∉ dec n := fun h => by have := dec_dig h0 h1 c h; omega
theorem by8_cons {c : Int} {xs : List Int} (hc : 0 ≤ c ∧ c ≤ 255) (h : by8 xs) : by8 (c :: xs) := fun x hx => by
  rcases List.mem_cons.1 hx with rfl | hx
  · exact hc
  · exact h x hx
theorem nostar {xs : List Int} (bx : by8 xs) (c : Int) (hc : 0 ≤ c ∧ c ≤ 255) (hne : xs ≠ [c]) : (strOfNums xs).toList ≠ [UInt8.ofNat c.toNat] := fun h => by
  have : (strOfNums xs).toList = (strOfNums [c]).toList := by rw [h, s_list]; rfl
  exact hne ((s_list_eq bx (by8_cons hc (fun x hx => by cases hx))).1 this)
theorem rdOf0 (a b : ByteArray) : rdOf ByteArray.empty [a, b] 0 = a := rfl
theorem rdOf1 (a b : ByteArray) : rdOf ByteArray.empty [a, b] 1 = b := rfl
theorem ns42 {xs : List Int} (bx : by8 xs) (hne : xs ≠ [42]) : (strOfNums xs).toList ≠ ([42] : List UInt8) := nostar bx 42 (by omega) hne
theorem ns63 {xs : List Int} (bx : by8 xs) (hne : xs ≠ [63]) : (strOfNums xs).toList ≠ ([63] : List UInt8) := nostar bx 63 (by omega) hne
theorem item_mem (j : Int) (x : S54) (h : GoodI j x) : ∀ c ∈ itemL x, c = 42 ∨ c = 45 ∨ c = 47 ∨ (48 ≤ c ∧ c ≤ 57) := by
  have hl := low_bd j
  have hh := high_bd j
  have s0 := h.s0
  have s1 := h.s1
  have d3 := dec_dig (n := x.f3) (by omega) (by omega)
  intro c hc
  unfold itemL at hc
  cases hf : x.f0 with
  | true =>
    rw [hf, if_pos (by rfl)] at hc
    split at hc
    · simp only [List.mem_cons] at hc
      rcases hc with rfl | rfl | hc
      · exact .inl rfl
      · exact .inr (.inr (.inl rfl))
      · exact .inr (.inr (.inr (d3 c hc)))
    · rw [List.mem_singleton] at hc; exact .inl hc
  | false =>
    have hr := h.r hf
    have d1 := dec_dig (n := x.f1) (by omega) (by omega)
    have d2 := dec_dig (n := x.f2) (by omega) (by omega)
    rw [hf, if_neg (show ¬ (false = true) by decide)] at hc
    split at hc
    · simp only [List.mem_append, List.mem_cons] at hc
      rcases hc with (hc | rfl | hc) | rfl | hc
      · exact .inr (.inr (.inr (d1 c hc)))
      · exact .inr (.inl rfl)
      · exact .inr (.inr (.inr (d2 c hc)))
      · exact .inr (.inr (.inl rfl))
      · exact .inr (.inr (.inr (d3 c hc)))
    · split at hc
      · simp only [List.mem_append, List.mem_cons] at hc
        rcases hc with hc | rfl | hc
        · exact .inr (.inr (.inr (d1 c hc)))
        · exact .inr (.inl rfl)
        · exact .inr (.inr (.inr (d2 c hc)))
      · exact .inr (.inr (.inr (d1 c hc)))
theorem item_len (x : S54) : 1 ≤ (itemL x).length ∧ (itemL x).length ≤ 8 := by
  have a := dec_len x.f1
  have b := dec_len x.f2
  have c := dec_len x.f3
  unfold itemL
  split
  · split
    · simp only [List.length_cons]; omega
    · exact ⟨Nat.le_refl _, by decide⟩
  · split
    · simp only [List.length_append, List.length_cons]; omega
    · split
      · simp only [List.length_append, List.length_cons]; omega
      · omega
theorem item_by8 (j : Int) (x : S54) (h : GoodI j x) : by8 (itemL x) := fun c hc => by have := item_mem j x h c hc; omega
theorem high7 (j : Int) : high j ≤ (if j = 5 then 7 else high j) := by
  by_cases c : j = 5
  · rw [if_pos c, c]; decide
  · rw [if_neg c]; exact Int.le_refl _
theorem off_due (k : Nat) (j : Int) (x : S54) (v : Int) (h : GoodI j x) (h0 : 0 ≤ j) (h1 : j ≤ 5) (v0 : low j ≤ v) (v1 : v ≤ high j) (hk : 1000 ≤ k) : offDue k (strOfNums (itemL x)) v j = some (hasI j x v) := by
  have hl := low_bd j
  have hh := high_bd j
  have hh7 := high7 j
  have s0 := h.s0
  have s1 := h.s1
  have hb := item_by8 j x h
  have hlen := item_len x
  obtain ⟨k, rfl⟩ : ∃ k', k = k' + 10 := ⟨k - 10, by omega⟩
  have d3 := dec_dig (n := x.f3) (by omega) (by omega)
  have L3 := dec_len x.f3
  unfold offDue hasI
  rw [show (⟨#[47]⟩ : ByteArray) = strOfNums [47] from rfl, show (⟨#[45]⟩ : ByteArray) = strOfNums [45] from rfl]
  cases hf : x.f0 with
  | true =>
    rw [if_pos (show true = true from rfl), if_pos (show true = true from rfl)]
    by_cases c : 1 < x.f3
    · have e : itemL x = 42 :: 47 :: dec x.f3 := by unfold itemL; rw [hf, if_pos (by rfl), if_pos c]
      rw [e] at hb hlen ⊢
      rw [if_neg (ns42 hb (by simp)), if_neg (ns63 hb (by simp)), bounds_f j h0 h1 (k + 9), Option.bind_some, if_pos (by rfl)]
      have hsl : [42].length = 1 := rfl
      rw [show (42 :: 47 :: dec x.f3 : List Int) = [42] ++ 47 :: dec x.f3 from rfl] at hb hlen ⊢
      rw [con_yes [42] (dec x.f3) 47 hb (by omega) (by decide) _ (by omega), Option.bind_some, if_pos (by rfl)]
      unfold gronx_inStep.f
      rw [show (⟨#[47]⟩ : ByteArray) = strOfNums [47] from rfl, split2 47 (by omega) [42] (dec x.f3) hb (by omega) (by decide) (dec_not _ _ (by omega) (by omega) (by omega)) _ (by omega), Option.bind_some, if_pos (by simp), rdOf1, atoi_dec _ (by omega) (by omega), Option.bind_some, if_pos (by rfl), if_neg (by show ¬ x.f3 ≤ 0; omega)]
      rw [show (⟨#[42, 47]⟩ : ByteArray) = strOfNums [42, 47] from rfl, idx_at0 _ [42, 47] hb (fun y hy => by simp at hy; omega) (by omega) (by decide) (by simp at hlen ⊢) rfl _ (by omega), Option.bind_some, if_pos (by rfl), if_pos (show (0 : Int) < (([low j, if j = 5 then 7 else high j] : List Int).length : Int) by simp), if_neg (by show ¬ x.f3 = 0; omega)]
      show (some ((Int.tmod (wrap64 (v - low j)) x.f3 == 0), (none : Option Int))).bind _ = _
      rw [Option.bind_some, if_pos (by rfl), w64' _ (by omega) (by omega), tmod_eq _ _ (by omega)]
      congr 1
      by_cases z : (v - low j) % x.f3 = 0
      · rw [decide_eq_true ⟨v0, v1, z⟩]; exact beq_iff_eq.mpr z
      · rw [decide_eq_false (fun h => z h.2.2)]; exact beq_eq_false_iff_ne.mpr z
    · have e : itemL x = [42] := by unfold itemL; rw [hf, if_pos (by rfl), if_neg c]
      rw [e, if_pos (by rw [s_list]; rfl), decide_eq_true ⟨v0, v1, by rw [show x.f3 = 1 by omega]; omega⟩]
  | false =>
    have hr := h.r hf
    rw [if_neg (show ¬ (false = true) by decide), if_neg (show ¬ (false = true) by decide)]
    have d1 := dec_dig (n := x.f1) (by omega) (by omega)
    have d2 := dec_dig (n := x.f2) (by omega) (by omega)
    have L1 := dec_len x.f1
    have L2 := dec_len x.f2
    have n42 : (42 : Int) ∉ itemL x := by
      intro hm
      unfold itemL at hm
      rw [hf, if_neg (show ¬ (false = true) by decide)] at hm
      split at hm
      · simp only [List.mem_append, List.mem_cons] at hm
        rcases hm with (hm | hm | hm) | hm | hm
        · have := d1 _ hm; omega
        · omega
        · have := d2 _ hm; omega
        · omega
        · have := d3 _ hm; omega
      · split at hm
        · simp only [List.mem_append, List.mem_cons] at hm
          rcases hm with hm | hm | hm
          · have := d1 _ hm; omega
          · omega
          · have := d2 _ hm; omega
        · have := d1 _ hm; omega
    have q42 : (strOfNums (itemL x)).toList ≠ [42] := ns42 hb (fun e => n42 (by rw [e]; exact List.mem_singleton.2 rfl))
    have q63 : (strOfNums (itemL x)).toList ≠ [63] := ns63 hb (fun e => by
      have := item_mem j x h 63 (by rw [e]; exact List.mem_singleton.2 rfl); omega)
    rw [if_neg q42, if_neg q63, bounds_f j h0 h1 (k + 9), Option.bind_some, if_pos (by rfl)]
    by_cases c : 1 < x.f3
    · have e : itemL x = (dec x.f1 ++ 45 :: dec x.f2) ++ 47 :: dec x.f3 := by unfold itemL; rw [hf, if_neg (show ¬ (false = true) by decide), if_pos c]
      have ni : (47 : Int) ∉ dec x.f1 ++ 45 :: dec x.f2 := fun hm => by
        simp only [List.mem_append, List.mem_cons] at hm
        rcases hm with hm | hm | hm
        · have := d1 _ hm; omega
        · omega
        · have := d2 _ hm; omega
      have i1 : ∃ r, gronx_zzIndex.f (k + 10) (strOfNums (itemL x)) (strOfNums [42, 47]) = some r ∧ r ≠ 0 := idx_not0 _ [42, 47] hb (fun y hy => by simp at hy; omega) (by omega) (by decide) (fun e2 => n42 (List.mem_of_mem_take (i := 2) (show (42 : Int) ∈ (itemL x).take 2 from by rw [show ([42, 47] : List Int).length = 2 from rfl] at e2; rw [e2]; exact List.mem_cons_self))) _ (by omega)
      have i2 : ∃ r, gronx_zzIndex.f (k + 10) (strOfNums (itemL x)) (strOfNums [48, 47]) = some r ∧ r ≠ 0 := idx_not0 _ [48, 47] hb (fun y hy => by simp at hy; omega) (by omega) (by decide) (fun e2 => by
        rw [e, show ([48, 47] : List Int).length = 2 from rfl] at e2
        unfold dec at e2
        by_cases c10 : x.f1 < 10
        · rw [if_pos c10] at e2
          have : (45 : Int) = 47 := (List.cons.inj (List.cons.inj e2).2).1
          omega
        · rw [if_neg c10] at e2
          have : (48 : Int) + x.f1 % 10 = 47 := (List.cons.inj (List.cons.inj e2).2).1
          omega) _ (by omega)
      obtain ⟨r1, i1, z1⟩ := i1
      obtain ⟨r2, i2, z2⟩ := i2
      rw [e] at hb hlen i1 i2 ⊢
      rw [con_yes (dec x.f1 ++ 45 :: dec x.f2) (dec x.f3) 47 hb (by omega) ni _ (by simp; omega), Option.bind_some, if_pos (by rfl)]
      unfold gronx_inStep.f
      rw [show (⟨#[47]⟩ : ByteArray) = strOfNums [47] from rfl, split2 47 (by omega) (dec x.f1 ++ 45 :: dec x.f2) (dec x.f3) hb (by omega) ni (dec_not _ _ (by omega) (by omega) (by omega)) _ (by omega), Option.bind_some, if_pos (by simp), rdOf1, atoi_dec _ (by omega) (by omega), Option.bind_some, if_pos (by rfl), if_neg (by show ¬ x.f3 ≤ 0; omega)]
      rw [show (⟨#[42, 47]⟩ : ByteArray) = strOfNums [42, 47] from rfl, i1, Option.bind_some, if_neg z1, show (⟨#[48, 47]⟩ : ByteArray) = strOfNums [48, 47] from rfl, i2, Option.bind_some, if_neg z2, if_pos (by simp), rdOf0]
      rw [show (⟨#[45]⟩ : ByteArray) = strOfNums [45] from rfl, split2 45 (by omega) (dec x.f1) (dec x.f2) (by8_left hb) (by simp at hlen ⊢; omega) (dec_not _ _ (by omega) (by omega) (by omega)) (dec_not _ _ (by omega) (by omega) (by omega)) _ (by simp at hlen ⊢; omega), Option.bind_some, if_pos (by simp), rdOf0, atoi_dec _ (by omega) (by omega), Option.bind_some, if_pos (by rfl), if_pos (by simp), if_pos (by simp), rdOf1, atoi_dec _ (by omega) (by omega), Option.bind_some, if_pos (by rfl)]
      rw [show k + 10 = k + 9 + 1 from rfl, gronx_inStep.j0, if_pos (by simp), if_neg (by show ¬ x.f2 < x.f1; omega), if_pos (by simp), if_neg (by show ¬ x.f1 < low j; omega), if_pos (by simp)]
      rw [show decide ((x.f2, (none : Option Int)).1 > rd [low j, if j = 5 then 7 else high j] 1) = false from decide_eq_false (by show ¬ x.f2 > (if j = 5 then 7 else high j); omega)]
      rw [show k + 9 = k + 8 + 1 from rfl, gronx_inStep.j1, if_neg (by decide)]
      show ((if (j == 5) = true then if x.f1 = 7 then gronx_inStep.j2 (k + 8) v x.f3 x.f2 x.f1 (x.f2 != 7) else gronx_inStep.j2 (k + 8) v x.f3 x.f2 x.f1 false else (gronx_inStepRange.f (k + 8) v x.f1 x.f2 x.f3).bind fun t340 => some (t340, (none : Option Int))).bind _) = _
      have rg : ∀ kk u, 500 ≤ kk → 0 ≤ u → u ≤ 100 → gronx_inStepRange.f kk u x.f1 x.f2 x.f3 = some (decide (x.f1 ≤ u ∧ u ≤ x.f2 ∧ (u - x.f1) % x.f3 = 0)) := fun kk u hkk u0 u1 => range_f u x.f2 x.f3 (by omega) (by omega) (by omega) u0 u1 101 x.f1 kk (by omega) (by omega) (by omega) (by omega)
      by_cases c5 : j = 5
      · have h6 : high j = 6 := by rw [c5]; decide
        rw [if_pos (beq_iff_eq.mpr c5), if_neg (by omega), show k + 8 = k + 7 + 1 from rfl, gronx_inStep.j2, if_neg (by decide), show k + 7 = k + 6 + 1 from rfl, gronx_inStep.j3]
        by_cases cv : v = 0
        · rw [if_pos cv, rg _ 0 (by omega) (by omega) (by omega), Option.bind_some, rg _ 7 (by omega) (by omega) (by omega), cv]
          by_cases dd : x.f1 ≤ 0 ∧ 0 ≤ x.f2 ∧ (0 - x.f1) % x.f3 = 0
          · rw [decide_eq_true dd]; rfl
          · rw [decide_eq_false dd, if_neg (by decide), Option.bind_some, decide_eq_false (by omega)]; rfl
        · rw [if_neg cv, rg _ v (by omega) (by omega) (by omega)]; rfl
      · rw [if_neg (show ¬ ((j == 5) = true) from fun hq => c5 (beq_iff_eq.mp hq)), rg _ v (by omega) (by omega) (by omega)]; rfl
    · have hz : ∀ u : Int, (u - x.f1) % x.f3 = 0 := fun u => by rw [show x.f3 = 1 by omega]; omega
      by_cases d : x.f1 < x.f2
      · have e : itemL x = dec x.f1 ++ 45 :: dec x.f2 := by unfold itemL; rw [hf, if_neg (show ¬ (false = true) by decide), if_neg c, if_pos d]
        rw [e] at hb hlen ⊢
        rw [con_no _ 47 (by omega) hb (by omega) (fun hm => by
          simp only [List.mem_append, List.mem_cons] at hm
          rcases hm with hm | hm | hm
          · have := d1 _ hm; omega
          · omega
          · have := d2 _ hm; omega) _ (by omega), Option.bind_some, if_neg (by decide)]
        rw [con_yes (dec x.f1) (dec x.f2) 45 hb (by omega) (dec_not _ _ (by omega) (by omega) (by omega)) _ (by omega), Option.bind_some, if_pos (by rfl)]
        unfold gronx_inRange.f
        rw [show (⟨#[45]⟩ : ByteArray) = strOfNums [45] from rfl, split2 45 (by omega) (dec x.f1) (dec x.f2) hb (by omega) (dec_not _ _ (by omega) (by omega) (by omega)) (dec_not _ _ (by omega) (by omega) (by omega)) _ (by omega), Option.bind_some, if_pos (by simp), rdOf0, atoi_dec _ (by omega) (by omega), Option.bind_some, if_pos (by rfl), if_pos (by simp), rdOf1, atoi_dec _ (by omega) (by omega), Option.bind_some, if_pos (by rfl), if_pos (by simp)]
        rw [if_neg (by show ¬ x.f1 < low j; omega), if_pos (by simp), if_neg (by show ¬ x.f1 > (if j = 5 then 7 else high j); omega), if_neg (by show ¬ x.f2 < low j; omega)]
        rw [show decide ((x.f2, (none : Option Int)).1 > rd [low j, if j = 5 then 7 else high j] 1) = false from decide_eq_false (by show ¬ x.f2 > (if j = 5 then 7 else high j); omega)]
        rw [show k + 10 = k + 9 + 1 from rfl, gronx_inRange.j0, if_neg (by decide)]
        show ((if (j == 5) = true then if x.f1 = 7 then gronx_inRange.j1 (k + 9) v x.f1 x.f2 (x.f2 != 7) else gronx_inRange.j1 (k + 9) v x.f1 x.f2 false else if x.f2 < x.f1 then _ else if x.f1 ≤ v then some (decide (v ≤ x.f2), (none : Option Int)) else some (false, none)).bind _) = _
        have fin : ((if x.f1 ≤ v then some (decide (v ≤ x.f2), (none : Option Int)) else some (false, none)).bind fun r => if r.2 = none then some r.1 else none) = some (decide (x.f1 ≤ v ∧ v ≤ x.f2 ∧ (v - x.f1) % x.f3 = 0)) := by
          by_cases a : x.f1 ≤ v
          · rw [if_pos a, Option.bind_some, if_pos (by rfl)]
            congr 1
            exact decide_eq_decide.2 ⟨fun b => ⟨a, b, hz v⟩, fun b => b.2.1⟩
          · rw [if_neg a, Option.bind_some, if_pos (by rfl), decide_eq_false (fun b => a b.1)]
        by_cases c5 : j = 5
        · have h6 : high j = 6 := by rw [c5]; decide
          rw [if_pos (beq_iff_eq.mpr c5), if_neg (by omega), show k + 9 = k + 8 + 1 from rfl, gronx_inRange.j1, if_neg (by decide), show k + 8 = k + 7 + 1 from rfl, gronx_inRange.j2, if_neg (by omega), show k + 7 = k + 6 + 1 from rfl, gronx_inRange.j3, if_neg (by decide), if_neg (by omega)]
          exact fin
        · rw [if_neg (show ¬ ((j == 5) = true) from fun hq => c5 (beq_iff_eq.mp hq)), if_neg (by omega)]
          exact fin
      · have e : itemL x = dec x.f1 := by unfold itemL; rw [hf, if_neg (show ¬ (false = true) by decide), if_neg c, if_neg d]
        rw [e] at hb hlen ⊢
        rw [con_no _ 47 (by omega) hb (by omega) (dec_not _ _ (by omega) (by omega) (by omega)) _ (by omega), Option.bind_some, if_neg (by decide), con_no _ 45 (by omega) hb (by omega) (dec_not _ _ (by omega) (by omega) (by omega)) _ (by omega), Option.bind_some, if_neg (by decide), atoi_dec _ (by omega) (by omega), Option.bind_some, if_pos ⟨rfl, by show low j ≤ x.f1; omega, by show x.f1 ≤ (if j = 5 then 7 else high j); omega⟩]
        congr 1
        unfold offVal
        by_cases a : x.f1 = v
        · rw [show (x.f1 == v) = true from beq_iff_eq.mpr a, Bool.true_or, decide_eq_true ⟨by omega, by omega, hz v⟩]
        · rw [show (x.f1 == v) = false from beq_eq_false_iff_ne.mpr a, Bool.false_or, decide_eq_false (by omega)]
          by_cases c5 : j = 5
          · have h6 : high j = 6 := by rw [c5]; decide
            rw [show (x.f1 == 7) = false from beq_eq_false_iff_ne.mpr (by omega), Bool.false_and, Bool.and_false]
          · rw [show (j == 5) = false from beq_eq_false_iff_ne.mpr c5, Bool.false_and]
end Go.Proofs.YtjpcdkhapeejjaaGreatDoor.A
namespace Go.Proofs.YtjpcdkhapeejjaaGreatDoor.A
theorem eqA54 (d : Nat) (w : World) (x0 y0 : Bool) (x1 y1 : Int) (x2 y2 : Int) (x3 y3 : Int) :
    (Op.equalIn (d + 2) 54 (.agg #[.bool x0, .int .i64 x1, .int .i64 x2, .int .i64 x3]) (.agg #[.bool y0, .int .i64 y1, .int .i64 y2, .int .i64 y3])).run Tryz.prog w = .ok (x0 == y0 && (x1 == y1 && (x2 == y2 && (x3 == y3)))) w := by
  refine eqA_of Tryz.underlying54 (by kernel_rfl) ?_
  refine eqf_cons (by rfl) (by go_simp; rfl) (by go_simp; rfl) (by go_simp) ?_
  refine eqf_cons (by rfl) (by go_simp; rfl) (by go_simp; rfl) (by go_simp) ?_
  refine eqf_cons (by rfl) (by go_simp; rfl) (by go_simp; rfl) (by go_simp) ?_
  exact eqf_last (by rfl) (by go_simp; rfl) (by go_simp; rfl) (by go_simp)
end Go.Proofs.YtjpcdkhapeejjaaGreatDoor.A
