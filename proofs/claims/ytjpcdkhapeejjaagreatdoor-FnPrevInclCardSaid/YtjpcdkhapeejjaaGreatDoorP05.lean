/- Steps of the proof of the law: contracts of functions of the given program, and plain lemmas about what they compute.
Conditions: none beyond those that each theorem names. -/
import Derived.Test.YtjpcdkhapeejjaaGreatDoorK02
import Derived.Test.YtjpcdkhapeejjaaGreatDoorP02
import Derived.Test.YtjpcdkhapeejjaaGreatDoorP04
set_option linter.unusedVariables false
set_option linter.unusedSimpArgs false
section
namespace Go.Proofs.YtjpcdkhapeejjaaGreatDoor.A
open Go.RowKit Go.Proofs.YtjpcdkhapeejjaaGreatDoorW.PrintWords Go.Proofs.YtjpcdkhapeejjaaGreatDoorW.PrintLast Go.Proofs.YtjpcdkhapeejjaaGreatDoorW.PrintMore
attribute [local go_sem high] eqA33
def laws_same.f (a0_0 : Int) (a0_1 : Int) (a0_2 : Int) (a0_3 : Int) (a0_4 : Int) (a0_5 : Int) (a1 : Bool) (a2_0 : Int) (a2_1 : Int) (a2_2 : Int) (a2_3 : Int) (a2_4 : Int) (a2_5 : Int) (a3 : Bool) : Option (Bool) := if (a1 == a3) = true then (if a1 = true then ((laws_moment.f a0_0 a0_1 a0_2 a0_3 a0_4 a0_5).bind fun bt210 => (some (bt210.1 == a2_0 && (bt210.2.1 == a2_1 && (bt210.2.2.1 == a2_2 && (bt210.2.2.2.1 == a2_3 && (bt210.2.2.2.2.1 == a2_4 && (bt210.2.2.2.2.2 == a2_5)))))))) else (some true)) else (some false)
def laws_same.T1 : Bool × List (List Nat × List Nat) := (true, [([], []), ([], []), ([0, 1], [0, 1]), ([2], [2]), ([3], [3]), ([4, 3], [3, 4]), ([5, 3, 3], [3, 5]), ([6], [6]), ([7, 6, 6], [6, 7]), ([6], [6]), ([8, 9, 6], [6, 8, 9]), ([6, 10, 3], [3, 6, 10]), ([3, 11], [3, 11]), ([12, 8, 0, 1, 2, 3, 4, 5, 6, 7, 8, 9, 10, 11, 12], [12])])
def laws_same.B1 : List Nat := [0, 0, 3, 7, 15, 31, 63, 127, 255, 127, 1023, 2047, 4095, 8191]
theorem laws_same.tab1 : rtab .any (opsOf Tryz.f17 1) = laws_same.T1 := by kernel_rfl
theorem laws_same.bits1 : waitsOk laws_same.T1.2 laws_same.B1 = true := by kernel_rfl
set_option maxHeartbeats 8000000 in
set_option maxRecDepth 100000 in
theorem laws_same.calls (a0_0 : Int) (a0_1 : Int) (a0_2 : Int) (a0_3 : Int) (a0_4 : Int) (a0_5 : Int) (a1 : Bool) (a2_0 : Int) (a2_1 : Int) (a2_2 : Int) (a2_3 : Int) (a2_4 : Int) (a2_5 : Int) (a3 : Bool) (r : Bool) (w : World) (h : laws_same.f a0_0 a0_1 a0_2 a0_3 a0_4 a0_5 a1 a2_0 a2_1 a2_2 a2_3 a2_4 a2_5 a3 = some r) :
    Calls Tryz.prog 17 #[.agg #[.int .i64 a0_0, .int .i64 a0_1, .int .i64 a0_2, .int .i64 a0_3, .int .i64 a0_4, .int .i64 a0_5], .bool a1, .agg #[.int .i64 a2_0, .int .i64 a2_1, .int .i64 a2_2, .int .i64 a2_3, .int .i64 a2_4, .int .i64 a2_5], .bool a3] w fun e w' => e = .returned (.bool r) ∧ Below w.heap.size w w' := by
 have hu26 := Tryz.underlying26
 have hu33 := Tryz.underlying33
 have HB := Aside0.mk (Below.refl w.heap.size w)
 have H : (if (a1 == a3) = true then (if a1 = true then ((laws_moment.f a0_0 a0_1 a0_2 a0_3 a0_4 a0_5).bind fun bt210 => (some (bt210.1 == a2_0 && (bt210.2.1 == a2_1 && (bt210.2.2.1 == a2_2 && (bt210.2.2.2.1 == a2_3 && (bt210.2.2.2.2.1 == a2_4 && (bt210.2.2.2.2.2 == a2_5)))))))) else (some true)) else (some false)) = some r := h
 clear h
 refine (Classical.em ((a1 == a3) = true)).elim (fun c5 => ?a1_) (fun c5 => ?b1_)
 case' a1_ =>
  rw [if_pos c5] at H
  have c5b0 : (a1 == a3) = true := c5
  (try (have c5b1 : decide (a1 = a3) = true := by simpa using c5))
  (try (have c5b2 : (a1 == a3) = true := by simpa using c5))
  clear c5
  refine (Classical.em (a1 = true)).elim (fun c6 => ?a2_) (fun c6 => ?b2_)
 case a2_ =>
  subst c6
  rw [if_pos rfl] at H
  replace H := Option.bind_eq_some_iff.mp H
  obtain ⟨⟨t210, t211, t212, t213, t214, t215⟩, A70, H⟩ := H
  try dsimp only at H
  have A7 := Aside0.mk A70
  clear A70
  obtain rfl := Option.some.inj H
  go_enter Tryz.func17, Tryz.ntmps17
  try go_wp2_with (first | ((with_reducible refine gate_dst (N := 4) rfl ?_); refine box_event ?hg (N := 4) ?hd (cs := #[.int .i64 a0_0, .int .i64 a0_1, .int .i64 a0_2, .int .i64 a0_3, .int .i64 a0_4, .int .i64 a0_5]) (t := 26) ?hr ?_; (case hd => rfl); (case hg => rfl); (case hr => first | (go_simp; done) | (go_simp; rfl)); intro gb208 hg w8 hbox hb; have n0_ := Aside0.mk (below_step (by repeat (with_reducible first | exact HB.out | apply below_alloc | apply pw_below_drewN | apply below_drew1)) hb); have n1_ := Aside0.mk (hbox); have n2_ := Aside0.mk ((by rw [hg]; exact (below_size (by repeat (with_reducible first | exact HB.out | apply below_alloc | apply pw_below_drewN | apply below_drew1))) : w.heap.size ≤ gb208)); have n3_ := Aside0.mk ((by rw [hg]; exact (below_size (by repeat (with_reducible first | exact HB.out | apply below_alloc | apply pw_below_drewN | apply below_drew1))) : w.heap.size ≤ gb208)); clear HB; have HB := n0_; have BK208 := n1_; have GW208 := n2_; have GE208 := n3_; clear n0_ n1_ n2_ n3_; clear hb hbox hg) | ((with_reducible refine gate_dst (N := 6) rfl ?_); refine box_event ?hg (N := 6) ?hd (cs := #[.int .i64 a2_0, .int .i64 a2_1, .int .i64 a2_2, .int .i64 a2_3, .int .i64 a2_4, .int .i64 a2_5]) (t := 33) ?hr ?_; (case hd => rfl); (case hg => rfl); (case hr => first | (go_simp; done) | (go_simp; rfl)); intro gb209 hg w9 hbox hb; have n0_ := Aside0.mk (blk_below (g := gb208) (o := .cells #[.int .i64 a0_0, .int .i64 a0_1, .int .i64 a0_2, .int .i64 a0_3, .int .i64 a0_4, .int .i64 a0_5] 26 (0, 0)) (by (with_reducible repeat (first | refine blk_drewN ?_ _ | refine blk_drew ?_ | refine blk_alloc ?_ _)); exact BK208.out) hb); have n1_ := Aside0.mk (below_step (by repeat (with_reducible first | exact HB.out | apply below_alloc | apply pw_below_drewN | apply below_drew1 | refine below_set ?_ GE208.out)) hb); have n2_ := Aside0.mk (hbox); have n3_ := Aside0.mk ((by rw [hg]; exact (below_size (by repeat (with_reducible first | exact HB.out | apply below_alloc | apply pw_below_drewN | apply below_drew1 | refine below_set ?_ GE208.out))) : w.heap.size ≤ gb209)); have n4_ := Aside0.mk ((by rw [hg]; exact (below_size (by repeat (with_reducible first | exact HB.out | apply below_alloc | apply pw_below_drewN | apply below_drew1 | refine below_set ?_ GE208.out))) : w.heap.size ≤ gb209)); have n5_ := Aside0.mk ((by rw [hg]; exact Nat.ne_of_lt (blk_lt (g := gb208) (o := .cells #[.int .i64 a0_0, .int .i64 a0_1, .int .i64 a0_2, .int .i64 a0_3, .int .i64 a0_4, .int .i64 a0_5] 26 (0, 0)) (by (with_reducible repeat (first | refine blk_drewN ?_ _ | refine blk_drew ?_ | refine blk_alloc ?_ _)); exact BK208.out)) : gb208 ≠ gb209)); have n6_ := Aside0.mk ((by rw [hg]; exact Nat.ne_of_gt (blk_lt (g := gb208) (o := .cells #[.int .i64 a0_0, .int .i64 a0_1, .int .i64 a0_2, .int .i64 a0_3, .int .i64 a0_4, .int .i64 a0_5] 26 (0, 0)) (by (with_reducible repeat (first | refine blk_drewN ?_ _ | refine blk_drew ?_ | refine blk_alloc ?_ _)); exact BK208.out)) : gb209 ≠ gb208)); clear BK208; clear HB; have BK208 := n0_; have HB := n1_; have BK209 := n2_; have GW209 := n3_; have GE209 := n4_; have NB208_209 := n5_; have NB209_208 := n6_; clear n0_ n1_ n2_ n3_ n4_ n5_ n6_; clear hb hbox hg))
  have n0_ := Aside0.mk (blk_drew BK208.out)
  have n1_ := Aside0.mk (blk_drew BK209.out)
  have n2_ := Aside0.mk (below_drew1 HB.out)
  clear BK208
  clear BK209
  clear HB
  have BK208 := n0_
  have BK209 := n1_
  have HB := n2_
  clear n0_ n1_ n2_
  refine start_ (n := 14) (S := fun w' => w'.cell? ⟨gb208, 0, none⟩ = some (.int .i64 a0_0) ∧ w'.cell? ⟨gb208, 1, none⟩ = some (.int .i64 a0_1) ∧ w'.cell? ⟨gb208, 2, none⟩ = some (.int .i64 a0_2) ∧ w'.cell? ⟨gb208, 3, none⟩ = some (.int .i64 a0_3) ∧ w'.cell? ⟨gb208, 4, none⟩ = some (.int .i64 a0_4) ∧ w'.cell? ⟨gb208, 5, none⟩ = some (.int .i64 a0_5) ∧ w'.cell? ⟨gb209, 0, none⟩ = some (.int .i64 a2_0) ∧ w'.cell? ⟨gb209, 1, none⟩ = some (.int .i64 a2_1) ∧ w'.cell? ⟨gb209, 2, none⟩ = some (.int .i64 a2_2) ∧ w'.cell? ⟨gb209, 3, none⟩ = some (.int .i64 a2_3) ∧ w'.cell? ⟨gb209, 4, none⟩ = some (.int .i64 a2_4) ∧ w'.cell? ⟨gb209, 5, none⟩ = some (.int .i64 a2_5)) (ds := []) #[false, false, false, false, false, false, false, false, false, false, false, false, false, false] (by kernel_rfl) rfl rfl ⟨(blk_cell BK208.out 0).trans rfl, (blk_cell BK208.out 1).trans rfl, (blk_cell BK208.out 2).trans rfl, (blk_cell BK208.out 3).trans rfl, (blk_cell BK208.out 4).trans rfl, (blk_cell BK208.out 5).trans rfl, (blk_cell BK209.out 0).trans rfl, (blk_cell BK209.out 1).trans rfl, (blk_cell BK209.out 2).trans rfl, (blk_cell BK209.out 3).trans rfl, (blk_cell BK209.out 4).trans rfl, (blk_cell BK209.out 5).trans rfl⟩ (fun hHeld => ?_); refine with_tabW laws_same.tab1 laws_same.bits1 (fun HT_ HW_ => ?_)
  generalize w9.drew = w10 at BK208 BK209 HB hHeld ⊢
  refine pure_ (i := 0) (N := some 9) (v := ?_) (a' := ?_) #[true, false, false, false, false, false, false, false, false, false, false, false, false, false] rfl rfl (any_of HT_.out (by kernel_rfl)) (fun _ _ _ h => h) (Or.inl ⟨by rfl, ?_⟩) ?_ ?_
  rotate_left
  ·
   intro w'
   go_simp
   with_reducible rfl
  rotate_left
  ·
   simp only [Act.put, List.setIfInBounds_toArray, List.set_cons_zero, List.set_cons_succ, i64_w, i32_w]
   rfl
  refine pure_ (i := 1) (N := some 10) (v := ?_) (a' := ?_) #[true, true, false, false, false, false, false, false, false, false, false, false, false, false] rfl rfl (any_of HT_.out (by kernel_rfl)) (fun _ _ _ h => h) (Or.inl ⟨by rfl, ?_⟩) ?_ ?_
  rotate_left
  ·
   intro w'
   go_simp
   with_reducible rfl
  rotate_left
  ·
   simp only [Act.put, List.setIfInBounds_toArray, List.set_cons_zero, List.set_cons_succ, i64_w, i32_w]
   rfl
  refine pure_ (i := 2) (N := some 11) (v := ?_) (a' := ?_) #[true, true, true, false, false, false, false, false, false, false, false, false, false, false] rfl rfl (any_of HT_.out (by kernel_rfl)) (fun _ _ _ h => h) (Or.inl ⟨by rfl, ?_⟩) ?_ ?_
  rotate_left
  ·
   intro w'
   go_simp
   with_reducible rfl
  rotate_left
  ·
   simp only [Act.put, List.setIfInBounds_toArray, List.set_cons_zero, List.set_cons_succ, i64_w, i32_w]
   rfl
  refine pure_ (i := 3) (N := some 12) (v := ?_) (a' := ?_) #[true, true, true, true, false, false, false, false, false, false, false, false, false, false] rfl rfl (any_of HT_.out (by kernel_rfl)) (fun _ _ _ h => h) (Or.inl ⟨by rfl, ?_⟩) ?_ ?_
  rotate_left
  ·
   intro w'
   go_simp
   with_reducible rfl
  rotate_left
  ·
   simp only [Act.put, List.setIfInBounds_toArray, List.set_cons_zero, List.set_cons_succ, i64_w, i32_w]
   rfl
  refine pure_ (i := 4) (N := some 13) (v := ?_) (a' := ?_) #[true, true, true, true, true, false, false, false, false, false, false, false, false, false] rfl rfl (any_of HT_.out (by kernel_rfl)) (fun _ _ _ h => h) (Or.inl ⟨by rfl, ?_⟩) ?_ ?_
  rotate_left
  ·
   intro w'
   go_simp
   with_reducible rfl
  rotate_left
  ·
   simp only [Act.put, List.setIfInBounds_toArray, List.set_cons_zero, List.set_cons_succ, i64_w, i32_w]
   rfl
  refine pure_ (i := 5) (N := some 14) (v := ?_) (a' := ?_) #[true, true, true, true, true, true, false, false, false, false, false, false, false, false] rfl rfl (any_of HT_.out (by kernel_rfl)) (fun _ _ _ h => h) (Or.inl ⟨by rfl, ?_⟩) ?_ ?_
  rotate_left
  ·
   intro w'
   go_simp
   with_reducible rfl
  rotate_left
  ·
   simp only [Act.put, List.setIfInBounds_toArray, List.set_cons_zero, List.set_cons_succ, i64_w, i32_w]
   rfl
  refine pure_ (i := 6) (N := some 15) (v := ?_) (a' := ?_) #[true, true, true, true, true, true, true, false, false, false, false, false, false, false] rfl rfl (any_of HT_.out (by kernel_rfl)) (fun _ _ _ h => h) (Or.inl ⟨by rfl, ?_⟩) ?_ ?_
  rotate_left
  ·
   intro w'
   go_simp
   with_reducible rfl
  rotate_left
  ·
   simp only [Act.put, List.setIfInBounds_toArray, List.set_cons_zero, List.set_cons_succ, i64_w, i32_w]
   rfl
  refine take_ (i := 7) (N := some 16) (v := ?_) (a' := ?_) #[true, true, true, true, true, true, true, true, false, false, false, false, false, false] rfl rfl (take_ofW HT_.out HW_.out (by kernel_rfl)) (fun _ _ _ h => h) (Or.inl ⟨by rfl, ?_⟩) hHeld ?_ ?_
  rotate_left
  ·
   rintro w' ⟨s0, s1, s2, s3, s4, s5, s6, s7, s8, s9, s10, s11⟩
   go_simp
   with_reducible rfl
  rotate_left
  ·
   simp only [Act.put, List.setIfInBounds_toArray, List.set_cons_zero, List.set_cons_succ, i64_w, i32_w]
   rfl
  refine take_ (i := 9) (N := some 18) (v := ?_) (a' := ?_) #[true, true, true, true, true, true, true, true, false, true, false, false, false, false] rfl rfl (take_ofW HT_.out HW_.out (by kernel_rfl)) (fun _ _ _ h => h) (Or.inl ⟨by rfl, ?_⟩) hHeld ?_ ?_
  rotate_left
  ·
   rintro w' ⟨s0, s1, s2, s3, s4, s5, s6, s7, s8, s9, s10, s11⟩
   go_simp
   with_reducible rfl
  rotate_left
  ·
   simp only [Act.put, List.setIfInBounds_toArray, List.set_cons_zero, List.set_cons_succ, i64_w, i32_w]
   rfl
  refine one_ (i := 8) (N := some 17) #[true, true, true, true, true, true, true, true, true, true, false, false, false, false] rfl rfl (one_of HT_.out (by kernel_rfl)) (by decide) (fun K hK => ?_)
  refine goes_ Tryz.func14 (by kernel_rfl) rfl #[.agg #[.int .i64 a0_0, .int .i64 a0_1, .int .i64 a0_2, .int .i64 a0_3, .int .i64 a0_4, .int .i64 a0_5]] (by rfl) rfl rfl (by (try simp only [List.map_toArray, List.map_cons, List.map_nil]); first | done | rfl | (simp only [List.length_drop, List.length_take]; rfl)) ?_
  with_reducible refine (laws_moment.calls a0_0 a0_1 a0_2 a0_3 a0_4 a0_5 t210 t211 t212 t213 t214 t215 _ A7.out).mono ?_
  rintro e w11 ⟨rfl, hb⟩
  refine ⟨_, rfl, ?_⟩
  have n0_ := Aside0.mk (blk_below (g := gb208) (o := .cells #[.int .i64 a0_0, .int .i64 a0_1, .int .i64 a0_2, .int .i64 a0_3, .int .i64 a0_4, .int .i64 a0_5] 26 (0, 0)) (by (with_reducible repeat (first | refine blk_drewN ?_ _ | refine blk_drew ?_ | refine blk_alloc ?_ _)); exact BK208.out) hb)
  have n1_ := Aside0.mk (blk_below (g := gb209) (o := .cells #[.int .i64 a2_0, .int .i64 a2_1, .int .i64 a2_2, .int .i64 a2_3, .int .i64 a2_4, .int .i64 a2_5] 33 (0, 0)) (by (with_reducible repeat (first | refine blk_drewN ?_ _ | refine blk_drew ?_ | refine blk_alloc ?_ _)); exact BK209.out) hb)
  have n2_ := Aside0.mk (below_step (by repeat (with_reducible first | exact HB.out | apply below_alloc | apply pw_below_drewN | apply below_drew1 | refine below_set ?_ GE208.out | refine below_set ?_ GE209.out)) hb)
  clear BK208
  clear BK209
  clear HB
  have BK208 := n0_
  have BK209 := n1_
  have HB := n2_
  clear n0_ n1_ n2_
  (try clear hb)
  (try clear hb2)
  (try clear hk)
  (try clear hi)
  refine hK.out _ _ ⟨(blk_cell BK208.out 0).trans rfl, (blk_cell BK208.out 1).trans rfl, (blk_cell BK208.out 2).trans rfl, (blk_cell BK208.out 3).trans rfl, (blk_cell BK208.out 4).trans rfl, (blk_cell BK208.out 5).trans rfl, (blk_cell BK209.out 0).trans rfl, (blk_cell BK209.out 1).trans rfl, (blk_cell BK209.out 2).trans rfl, (blk_cell BK209.out 3).trans rfl, (blk_cell BK209.out 4).trans rfl, (blk_cell BK209.out 5).trans rfl⟩ (fun hHeld => ?_)
  clear hK K
  refine norm_ (a' := ?_) ?_ ?_
  rotate_left
  ·
   show Act.put _ (some 17) _ = _
   simp only [Act.put, List.setIfInBounds_toArray, List.set_cons_zero, List.set_cons_succ, i64_w, i32_w]
   rfl
  refine pure_ (i := 10) (N := some 19) (v := ?_) (a' := ?_) #[true, true, true, true, true, true, true, true, true, true, true, false, false, false] rfl rfl (any_of HT_.out (by kernel_rfl)) (fun _ _ _ h => h) (Or.inl ⟨by rfl, ?_⟩) ?_ ?_
  rotate_left
  ·
   intro w'
   go_simp
   with_reducible rfl
  rotate_left
  ·
   simp only [Act.put, List.setIfInBounds_toArray, List.set_cons_zero, List.set_cons_succ, i64_w, i32_w]
   rfl
  refine pure_ (i := 11) (N := some 20) (v := ?_) (a' := ?_) #[true, true, true, true, true, true, true, true, true, true, true, true, false, false] rfl rfl (any_of HT_.out (by kernel_rfl)) (fun _ _ _ h => h) (Or.inl ⟨by rfl, ?_⟩) ?_ ?_
  rotate_left
  ·
   intro w'
   go_simp
   with_reducible rfl
  rotate_left
  ·
   simp only [Act.put, List.setIfInBounds_toArray, List.set_cons_zero, List.set_cons_succ, i64_w, i32_w]
   rfl
  refine pure_ (i := 12) (N := some 21) (v := ?_) (a' := ?_) #[true, true, true, true, true, true, true, true, true, true, true, true, true, false] rfl rfl (any_of HT_.out (by kernel_rfl)) (fun _ _ _ h => h) (Or.inl ⟨by rfl, ?_⟩) ?_ ?_
  rotate_left
  ·
   intro w'
   go_simp
   with_reducible rfl
  rotate_left
  ·
   simp only [Act.put, List.setIfInBounds_toArray, List.set_cons_zero, List.set_cons_succ, i64_w, i32_w]
   rfl
  refine pure_ (i := 13) (N := some 8) (v := ?_) (a' := ?_) #[true, true, true, true, true, true, true, true, true, true, true, true, true, true] rfl rfl (any_of HT_.out (by kernel_rfl)) (fun _ _ _ h => h) (Or.inl ⟨by rfl, ?_⟩) ?_ ?_
  rotate_left
  ·
   intro w'
   go_simp
   with_reducible rfl
  rotate_left
  ·
   simp only [Act.put, List.setIfInBounds_toArray, List.set_cons_zero, List.set_cons_succ, i64_w, i32_w]
   rfl
  refine done_ (done_of HT_.out (by kernel_rfl)) ?_
  try go_wp2
  go_ret
  exact ⟨by first | rfl | (simp [errW_none, errW_some] <;> rfl) | (simp [*, errW_none, errW_some] <;> rfl), by repeat (with_reducible first | exact HB.out | apply below_alloc | apply pw_below_drewN | apply below_drew1 | refine below_set ?_ GE208.out | refine below_set ?_ GE209.out)⟩
 case b2_ =>
  replace c6 := Bool.eq_false_iff.mpr c6
  subst c6
  rw [if_neg (show ¬ (false = true) by decide)] at H
  obtain rfl := Option.some.inj H
  go_enter Tryz.func17, Tryz.ntmps17
  try go_wp2_with (first | ((with_reducible refine gate_dst (N := 4) rfl ?_); refine box_event ?hg (N := 4) ?hd (cs := #[.int .i64 a0_0, .int .i64 a0_1, .int .i64 a0_2, .int .i64 a0_3, .int .i64 a0_4, .int .i64 a0_5]) (t := 26) ?hr ?_; (case hd => rfl); (case hg => rfl); (case hr => first | (go_simp; done) | (go_simp; rfl)); intro gb208 hg w12 hbox hb; have n0_ := Aside0.mk (below_step (by repeat (with_reducible first | exact HB.out | apply below_alloc | apply pw_below_drewN | apply below_drew1)) hb); have n1_ := Aside0.mk (hbox); have n2_ := Aside0.mk ((by rw [hg]; exact (below_size (by repeat (with_reducible first | exact HB.out | apply below_alloc | apply pw_below_drewN | apply below_drew1))) : w.heap.size ≤ gb208)); have n3_ := Aside0.mk ((by rw [hg]; exact (below_size (by repeat (with_reducible first | exact HB.out | apply below_alloc | apply pw_below_drewN | apply below_drew1))) : w.heap.size ≤ gb208)); clear HB; have HB := n0_; have BK208 := n1_; have GW208 := n2_; have GE208 := n3_; clear n0_ n1_ n2_ n3_; clear hb hbox hg) | ((with_reducible refine gate_dst (N := 6) rfl ?_); refine box_event ?hg (N := 6) ?hd (cs := #[.int .i64 a2_0, .int .i64 a2_1, .int .i64 a2_2, .int .i64 a2_3, .int .i64 a2_4, .int .i64 a2_5]) (t := 33) ?hr ?_; (case hd => rfl); (case hg => rfl); (case hr => first | (go_simp; done) | (go_simp; rfl)); intro gb209 hg w13 hbox hb; have n0_ := Aside0.mk (blk_below (g := gb208) (o := .cells #[.int .i64 a0_0, .int .i64 a0_1, .int .i64 a0_2, .int .i64 a0_3, .int .i64 a0_4, .int .i64 a0_5] 26 (0, 0)) (by (with_reducible repeat (first | refine blk_drewN ?_ _ | refine blk_drew ?_ | refine blk_alloc ?_ _)); exact BK208.out) hb); have n1_ := Aside0.mk (below_step (by repeat (with_reducible first | exact HB.out | apply below_alloc | apply pw_below_drewN | apply below_drew1 | refine below_set ?_ GE208.out)) hb); have n2_ := Aside0.mk (hbox); have n3_ := Aside0.mk ((by rw [hg]; exact (below_size (by repeat (with_reducible first | exact HB.out | apply below_alloc | apply pw_below_drewN | apply below_drew1 | refine below_set ?_ GE208.out))) : w.heap.size ≤ gb209)); have n4_ := Aside0.mk ((by rw [hg]; exact (below_size (by repeat (with_reducible first | exact HB.out | apply below_alloc | apply pw_below_drewN | apply below_drew1 | refine below_set ?_ GE208.out))) : w.heap.size ≤ gb209)); have n5_ := Aside0.mk ((by rw [hg]; exact Nat.ne_of_lt (blk_lt (g := gb208) (o := .cells #[.int .i64 a0_0, .int .i64 a0_1, .int .i64 a0_2, .int .i64 a0_3, .int .i64 a0_4, .int .i64 a0_5] 26 (0, 0)) (by (with_reducible repeat (first | refine blk_drewN ?_ _ | refine blk_drew ?_ | refine blk_alloc ?_ _)); exact BK208.out)) : gb208 ≠ gb209)); have n6_ := Aside0.mk ((by rw [hg]; exact Nat.ne_of_gt (blk_lt (g := gb208) (o := .cells #[.int .i64 a0_0, .int .i64 a0_1, .int .i64 a0_2, .int .i64 a0_3, .int .i64 a0_4, .int .i64 a0_5] 26 (0, 0)) (by (with_reducible repeat (first | refine blk_drewN ?_ _ | refine blk_drew ?_ | refine blk_alloc ?_ _)); exact BK208.out)) : gb209 ≠ gb208)); clear BK208; clear HB; have BK208 := n0_; have HB := n1_; have BK209 := n2_; have GW209 := n3_; have GE209 := n4_; have NB208_209 := n5_; have NB209_208 := n6_; clear n0_ n1_ n2_ n3_ n4_ n5_ n6_; clear hb hbox hg))
  have n0_ := Aside0.mk (blk_drew BK208.out)
  have n1_ := Aside0.mk (blk_drew BK209.out)
  have n2_ := Aside0.mk (below_drew1 HB.out)
  clear BK208
  clear BK209
  clear HB
  have BK208 := n0_
  have BK209 := n1_
  have HB := n2_
  clear n0_ n1_ n2_
  refine start_ (n := 14) (S := fun w' => True) (ds := []) #[false, false, false, false, false, false, false, false, false, false, false, false, false, false] (by kernel_rfl) rfl rfl trivial (fun hHeld => ?_); refine with_tabW laws_same.tab1 laws_same.bits1 (fun HT_ HW_ => ?_)
  generalize w13.drew = w14 at BK208 BK209 HB hHeld ⊢
  refine pure_ (i := 0) (N := some 9) (v := ?_) (a' := ?_) #[true, false, false, false, false, false, false, false, false, false, false, false, false, false] rfl rfl (any_of HT_.out (by kernel_rfl)) (fun _ _ _ h => h) (Or.inl ⟨by rfl, ?_⟩) ?_ ?_
  rotate_left
  ·
   intro w'
   go_simp
   with_reducible rfl
  rotate_left
  ·
   simp only [Act.put, List.setIfInBounds_toArray, List.set_cons_zero, List.set_cons_succ, i64_w, i32_w]
   rfl
  refine pure_ (i := 1) (N := some 10) (v := ?_) (a' := ?_) #[true, true, false, false, false, false, false, false, false, false, false, false, false, false] rfl rfl (any_of HT_.out (by kernel_rfl)) (fun _ _ _ h => h) (Or.inl ⟨by rfl, ?_⟩) ?_ ?_
  rotate_left
  ·
   intro w'
   go_simp
   with_reducible rfl
  rotate_left
  ·
   simp only [Act.put, List.setIfInBounds_toArray, List.set_cons_zero, List.set_cons_succ, i64_w, i32_w]
   rfl
  refine pure_ (i := 2) (N := some 11) (v := ?_) (a' := ?_) #[true, true, true, false, false, false, false, false, false, false, false, false, false, false] rfl rfl (any_of HT_.out (by kernel_rfl)) (fun _ _ _ h => h) (Or.inl ⟨by rfl, ?_⟩) ?_ ?_
  rotate_left
  ·
   intro w'
   go_simp
   with_reducible rfl
  rotate_left
  ·
   simp only [Act.put, List.setIfInBounds_toArray, List.set_cons_zero, List.set_cons_succ, i64_w, i32_w]
   rfl
  refine pure_ (i := 3) (N := some 12) (v := ?_) (a' := ?_) #[true, true, true, true, false, false, false, false, false, false, false, false, false, false] rfl rfl (any_of HT_.out (by kernel_rfl)) (fun _ _ _ h => h) (Or.inl ⟨by rfl, ?_⟩) ?_ ?_
  rotate_left
  ·
   intro w'
   go_simp
   with_reducible rfl
  rotate_left
  ·
   simp only [Act.put, List.setIfInBounds_toArray, List.set_cons_zero, List.set_cons_succ, i64_w, i32_w]
   rfl
  refine pure_ (i := 4) (N := some 13) (v := ?_) (a' := ?_) #[true, true, true, true, true, false, false, false, false, false, false, false, false, false] rfl rfl (any_of HT_.out (by kernel_rfl)) (fun _ _ _ h => h) (Or.inl ⟨by rfl, ?_⟩) ?_ ?_
  rotate_left
  ·
   intro w'
   go_simp
   with_reducible rfl
  rotate_left
  ·
   simp only [Act.put, List.setIfInBounds_toArray, List.set_cons_zero, List.set_cons_succ, i64_w, i32_w]
   rfl
  refine pure_ (i := 5) (N := some 14) (v := ?_) (a' := ?_) #[true, true, true, true, true, true, false, false, false, false, false, false, false, false] rfl rfl (any_of HT_.out (by kernel_rfl)) (fun _ _ _ h => h) (Or.inl ⟨by rfl, ?_⟩) ?_ ?_
  rotate_left
  ·
   intro w'
   go_simp
   with_reducible rfl
  rotate_left
  ·
   simp only [Act.put, List.setIfInBounds_toArray, List.set_cons_zero, List.set_cons_succ, i64_w, i32_w]
   rfl
  refine pure_ (i := 6) (N := some 15) (v := ?_) (a' := ?_) #[true, true, true, true, true, true, true, false, false, false, false, false, false, false] rfl rfl (any_of HT_.out (by kernel_rfl)) (fun _ _ _ h => h) (Or.inl ⟨by rfl, ?_⟩) ?_ ?_
  rotate_left
  ·
   intro w'
   go_simp
   with_reducible rfl
  rotate_left
  ·
   simp only [Act.put, List.setIfInBounds_toArray, List.set_cons_zero, List.set_cons_succ, i64_w, i32_w]
   rfl
  refine pure_ (i := 7) (N := some 16) (v := undef) (a' := ?_) #[true, true, true, true, true, true, true, true, false, false, false, false, false, false] rfl rfl (any_of HT_.out (by kernel_rfl)) (fun _ _ _ h => h) (Or.inr ⟨by rfl, rfl⟩) ?_ ?_
  rotate_left
  ·
   simp only [Act.put, List.setIfInBounds_toArray, List.set_cons_zero, List.set_cons_succ, i64_w, i32_w]
   rfl
  refine pure_ (i := 8) (N := some 17) (v := undef) (a' := ?_) #[true, true, true, true, true, true, true, true, true, false, false, false, false, false] rfl rfl (any_of HT_.out (by kernel_rfl)) (fun _ _ _ h => h) (Or.inr ⟨by rfl, rfl⟩) ?_ ?_
  rotate_left
  ·
   simp only [Act.put, List.setIfInBounds_toArray, List.set_cons_zero, List.set_cons_succ, i64_w, i32_w]
   rfl
  refine pure_ (i := 9) (N := some 18) (v := undef) (a' := ?_) #[true, true, true, true, true, true, true, true, true, true, false, false, false, false] rfl rfl (any_of HT_.out (by kernel_rfl)) (fun _ _ _ h => h) (Or.inr ⟨by rfl, rfl⟩) ?_ ?_
  rotate_left
  ·
   simp only [Act.put, List.setIfInBounds_toArray, List.set_cons_zero, List.set_cons_succ, i64_w, i32_w]
   rfl
  refine pure_ (i := 10) (N := some 19) (v := undef) (a' := ?_) #[true, true, true, true, true, true, true, true, true, true, true, false, false, false] rfl rfl (any_of HT_.out (by kernel_rfl)) (fun _ _ _ h => h) (Or.inr ⟨by rfl, rfl⟩) ?_ ?_
  rotate_left
  ·
   simp only [Act.put, List.setIfInBounds_toArray, List.set_cons_zero, List.set_cons_succ, i64_w, i32_w]
   rfl
  refine pure_ (i := 11) (N := some 20) (v := ?_) (a' := ?_) #[true, true, true, true, true, true, true, true, true, true, true, true, false, false] rfl rfl (any_of HT_.out (by kernel_rfl)) (fun _ _ _ h => h) (Or.inl ⟨by rfl, ?_⟩) ?_ ?_
  rotate_left
  ·
   intro w'
   go_simp
   with_reducible rfl
  rotate_left
  ·
   simp only [Act.put, List.setIfInBounds_toArray, List.set_cons_zero, List.set_cons_succ, i64_w, i32_w]
   rfl
  refine pure_ (i := 12) (N := some 21) (v := ?_) (a' := ?_) #[true, true, true, true, true, true, true, true, true, true, true, true, true, false] rfl rfl (any_of HT_.out (by kernel_rfl)) (fun _ _ _ h => h) (Or.inl ⟨by rfl, ?_⟩) ?_ ?_
  rotate_left
  ·
   intro w'
   go_simp
   with_reducible rfl
  rotate_left
  ·
   simp only [Act.put, List.setIfInBounds_toArray, List.set_cons_zero, List.set_cons_succ, i64_w, i32_w]
   rfl
  refine pure_ (i := 13) (N := some 8) (v := ?_) (a' := ?_) #[true, true, true, true, true, true, true, true, true, true, true, true, true, true] rfl rfl (any_of HT_.out (by kernel_rfl)) (fun _ _ _ h => h) (Or.inl ⟨by rfl, ?_⟩) ?_ ?_
  rotate_left
  ·
   intro w'
   go_simp
   with_reducible rfl
  rotate_left
  ·
   simp only [Act.put, List.setIfInBounds_toArray, List.set_cons_zero, List.set_cons_succ, i64_w, i32_w]
   rfl
  refine done_ (done_of HT_.out (by kernel_rfl)) ?_
  try go_wp2
  go_ret
  exact ⟨by first | rfl | (simp [errW_none, errW_some] <;> rfl) | (simp [*, errW_none, errW_some] <;> rfl), by repeat (with_reducible first | exact HB.out | apply below_alloc | apply pw_below_drewN | apply below_drew1 | refine below_set ?_ GE208.out | refine below_set ?_ GE209.out)⟩
 case b1_ =>
  rw [if_neg c5] at H
  have c5b0 : (a1 == a3) = false := by simpa using c5
  (try (have c5b1 : decide (a1 = a3) = false := by simpa using c5))
  (try (have c5b2 : (a1 == a3) = false := by simpa using c5))
  (try (have c5b3 : ¬ (a1 = a3) := by simpa using c5))
  clear c5
  obtain rfl := Option.some.inj H
  go_enter Tryz.func17, Tryz.ntmps17
  try go_wp2_with (first | ((with_reducible refine gate_dst (N := 4) rfl ?_); refine box_event ?hg (N := 4) ?hd (cs := #[.int .i64 a0_0, .int .i64 a0_1, .int .i64 a0_2, .int .i64 a0_3, .int .i64 a0_4, .int .i64 a0_5]) (t := 26) ?hr ?_; (case hd => rfl); (case hg => rfl); (case hr => first | (go_simp; done) | (go_simp; rfl)); intro gb208 hg w15 hbox hb; have n0_ := Aside0.mk (below_step (by repeat (with_reducible first | exact HB.out | apply below_alloc | apply pw_below_drewN | apply below_drew1)) hb); have n1_ := Aside0.mk (hbox); have n2_ := Aside0.mk ((by rw [hg]; exact (below_size (by repeat (with_reducible first | exact HB.out | apply below_alloc | apply pw_below_drewN | apply below_drew1))) : w.heap.size ≤ gb208)); have n3_ := Aside0.mk ((by rw [hg]; exact (below_size (by repeat (with_reducible first | exact HB.out | apply below_alloc | apply pw_below_drewN | apply below_drew1))) : w.heap.size ≤ gb208)); clear HB; have HB := n0_; have BK208 := n1_; have GW208 := n2_; have GE208 := n3_; clear n0_ n1_ n2_ n3_; clear hb hbox hg) | ((with_reducible refine gate_dst (N := 6) rfl ?_); refine box_event ?hg (N := 6) ?hd (cs := #[.int .i64 a2_0, .int .i64 a2_1, .int .i64 a2_2, .int .i64 a2_3, .int .i64 a2_4, .int .i64 a2_5]) (t := 33) ?hr ?_; (case hd => rfl); (case hg => rfl); (case hr => first | (go_simp; done) | (go_simp; rfl)); intro gb209 hg w16 hbox hb; have n0_ := Aside0.mk (blk_below (g := gb208) (o := .cells #[.int .i64 a0_0, .int .i64 a0_1, .int .i64 a0_2, .int .i64 a0_3, .int .i64 a0_4, .int .i64 a0_5] 26 (0, 0)) (by (with_reducible repeat (first | refine blk_drewN ?_ _ | refine blk_drew ?_ | refine blk_alloc ?_ _)); exact BK208.out) hb); have n1_ := Aside0.mk (below_step (by repeat (with_reducible first | exact HB.out | apply below_alloc | apply pw_below_drewN | apply below_drew1 | refine below_set ?_ GE208.out)) hb); have n2_ := Aside0.mk (hbox); have n3_ := Aside0.mk ((by rw [hg]; exact (below_size (by repeat (with_reducible first | exact HB.out | apply below_alloc | apply pw_below_drewN | apply below_drew1 | refine below_set ?_ GE208.out))) : w.heap.size ≤ gb209)); have n4_ := Aside0.mk ((by rw [hg]; exact (below_size (by repeat (with_reducible first | exact HB.out | apply below_alloc | apply pw_below_drewN | apply below_drew1 | refine below_set ?_ GE208.out))) : w.heap.size ≤ gb209)); have n5_ := Aside0.mk ((by rw [hg]; exact Nat.ne_of_lt (blk_lt (g := gb208) (o := .cells #[.int .i64 a0_0, .int .i64 a0_1, .int .i64 a0_2, .int .i64 a0_3, .int .i64 a0_4, .int .i64 a0_5] 26 (0, 0)) (by (with_reducible repeat (first | refine blk_drewN ?_ _ | refine blk_drew ?_ | refine blk_alloc ?_ _)); exact BK208.out)) : gb208 ≠ gb209)); have n6_ := Aside0.mk ((by rw [hg]; exact Nat.ne_of_gt (blk_lt (g := gb208) (o := .cells #[.int .i64 a0_0, .int .i64 a0_1, .int .i64 a0_2, .int .i64 a0_3, .int .i64 a0_4, .int .i64 a0_5] 26 (0, 0)) (by (with_reducible repeat (first | refine blk_drewN ?_ _ | refine blk_drew ?_ | refine blk_alloc ?_ _)); exact BK208.out)) : gb209 ≠ gb208)); clear BK208; clear HB; have BK208 := n0_; have HB := n1_; have BK209 := n2_; have GW209 := n3_; have GE209 := n4_; have NB208_209 := n5_; have NB209_208 := n6_; clear n0_ n1_ n2_ n3_ n4_ n5_ n6_; clear hb hbox hg))
  have n0_ := Aside0.mk (blk_drew BK208.out)
  have n1_ := Aside0.mk (blk_drew BK209.out)
  have n2_ := Aside0.mk (below_drew1 HB.out)
  clear BK208
  clear BK209
  clear HB
  have BK208 := n0_
  have BK209 := n1_
  have HB := n2_
  clear n0_ n1_ n2_
  refine start_ (n := 14) (S := fun w' => True) (ds := []) #[false, false, false, false, false, false, false, false, false, false, false, false, false, false] (by kernel_rfl) rfl rfl trivial (fun hHeld => ?_); refine with_tabW laws_same.tab1 laws_same.bits1 (fun HT_ HW_ => ?_)
  generalize w16.drew = w17 at BK208 BK209 HB hHeld ⊢
  refine pure_ (i := 0) (N := some 9) (v := ?_) (a' := ?_) #[true, false, false, false, false, false, false, false, false, false, false, false, false, false] rfl rfl (any_of HT_.out (by kernel_rfl)) (fun _ _ _ h => h) (Or.inl ⟨by rfl, ?_⟩) ?_ ?_
  rotate_left
  ·
   intro w'
   go_simp
   with_reducible rfl
  rotate_left
  ·
   simp only [Act.put, List.setIfInBounds_toArray, List.set_cons_zero, List.set_cons_succ, i64_w, i32_w]
   rfl
  refine pure_ (i := 1) (N := some 10) (v := ?_) (a' := ?_) #[true, true, false, false, false, false, false, false, false, false, false, false, false, false] rfl rfl (any_of HT_.out (by kernel_rfl)) (fun _ _ _ h => h) (Or.inl ⟨by rfl, ?_⟩) ?_ ?_
  rotate_left
  ·
   intro w'
   go_simp
   with_reducible rfl
  rotate_left
  ·
   simp only [Act.put, List.setIfInBounds_toArray, List.set_cons_zero, List.set_cons_succ, i64_w, i32_w]
   rfl
  refine pure_ (i := 2) (N := some 11) (v := ?_) (a' := ?_) #[true, true, true, false, false, false, false, false, false, false, false, false, false, false] rfl rfl (any_of HT_.out (by kernel_rfl)) (fun _ _ _ h => h) (Or.inl ⟨by rfl, ?_⟩) ?_ ?_
  rotate_left
  ·
   intro w'
   go_simp
   with_reducible rfl
  rotate_left
  ·
   simp only [Act.put, List.setIfInBounds_toArray, List.set_cons_zero, List.set_cons_succ, i64_w, i32_w]
   rfl
  refine pure_ (i := 3) (N := some 12) (v := ?_) (a' := ?_) #[true, true, true, true, false, false, false, false, false, false, false, false, false, false] rfl rfl (any_of HT_.out (by kernel_rfl)) (fun _ _ _ h => h) (Or.inl ⟨by rfl, ?_⟩) ?_ ?_
  rotate_left
  ·
   intro w'
   go_simp
   with_reducible rfl
  rotate_left
  ·
   simp only [Act.put, List.setIfInBounds_toArray, List.set_cons_zero, List.set_cons_succ, i64_w, i32_w]
   rfl
  refine pure_ (i := 4) (N := some 13) (v := undef) (a' := ?_) #[true, true, true, true, true, false, false, false, false, false, false, false, false, false] rfl rfl (any_of HT_.out (by kernel_rfl)) (fun _ _ _ h => h) (Or.inr ⟨by rfl, rfl⟩) ?_ ?_
  rotate_left
  ·
   simp only [Act.put, List.setIfInBounds_toArray, List.set_cons_zero, List.set_cons_succ, i64_w, i32_w]
   rfl
  refine pure_ (i := 5) (N := some 14) (v := undef) (a' := ?_) #[true, true, true, true, true, true, false, false, false, false, false, false, false, false] rfl rfl (any_of HT_.out (by kernel_rfl)) (fun _ _ _ h => h) (Or.inr ⟨by rfl, rfl⟩) ?_ ?_
  rotate_left
  ·
   simp only [Act.put, List.setIfInBounds_toArray, List.set_cons_zero, List.set_cons_succ, i64_w, i32_w]
   rfl
  refine pure_ (i := 6) (N := some 15) (v := undef) (a' := ?_) #[true, true, true, true, true, true, true, false, false, false, false, false, false, false] rfl rfl (any_of HT_.out (by kernel_rfl)) (fun _ _ _ h => h) (Or.inr ⟨by rfl, rfl⟩) ?_ ?_
  rotate_left
  ·
   simp only [Act.put, List.setIfInBounds_toArray, List.set_cons_zero, List.set_cons_succ, i64_w, i32_w]
   rfl
  refine pure_ (i := 7) (N := some 16) (v := undef) (a' := ?_) #[true, true, true, true, true, true, true, true, false, false, false, false, false, false] rfl rfl (any_of HT_.out (by kernel_rfl)) (fun _ _ _ h => h) (Or.inr ⟨by rfl, rfl⟩) ?_ ?_
  rotate_left
  ·
   simp only [Act.put, List.setIfInBounds_toArray, List.set_cons_zero, List.set_cons_succ, i64_w, i32_w]
   rfl
  refine pure_ (i := 8) (N := some 17) (v := undef) (a' := ?_) #[true, true, true, true, true, true, true, true, true, false, false, false, false, false] rfl rfl (any_of HT_.out (by kernel_rfl)) (fun _ _ _ h => h) (Or.inr ⟨by rfl, rfl⟩) ?_ ?_
  rotate_left
  ·
   simp only [Act.put, List.setIfInBounds_toArray, List.set_cons_zero, List.set_cons_succ, i64_w, i32_w]
   rfl
  refine pure_ (i := 9) (N := some 18) (v := undef) (a' := ?_) #[true, true, true, true, true, true, true, true, true, true, false, false, false, false] rfl rfl (any_of HT_.out (by kernel_rfl)) (fun _ _ _ h => h) (Or.inr ⟨by rfl, rfl⟩) ?_ ?_
  rotate_left
  ·
   simp only [Act.put, List.setIfInBounds_toArray, List.set_cons_zero, List.set_cons_succ, i64_w, i32_w]
   rfl
  refine pure_ (i := 10) (N := some 19) (v := undef) (a' := ?_) #[true, true, true, true, true, true, true, true, true, true, true, false, false, false] rfl rfl (any_of HT_.out (by kernel_rfl)) (fun _ _ _ h => h) (Or.inr ⟨by rfl, rfl⟩) ?_ ?_
  rotate_left
  ·
   simp only [Act.put, List.setIfInBounds_toArray, List.set_cons_zero, List.set_cons_succ, i64_w, i32_w]
   rfl
  refine pure_ (i := 11) (N := some 20) (v := undef) (a' := ?_) #[true, true, true, true, true, true, true, true, true, true, true, true, false, false] rfl rfl (any_of HT_.out (by kernel_rfl)) (fun _ _ _ h => h) (Or.inr ⟨by rfl, rfl⟩) ?_ ?_
  rotate_left
  ·
   simp only [Act.put, List.setIfInBounds_toArray, List.set_cons_zero, List.set_cons_succ, i64_w, i32_w]
   rfl
  refine pure_ (i := 12) (N := some 21) (v := ?_) (a' := ?_) #[true, true, true, true, true, true, true, true, true, true, true, true, true, false] rfl rfl (any_of HT_.out (by kernel_rfl)) (fun _ _ _ h => h) (Or.inl ⟨by rfl, ?_⟩) ?_ ?_
  rotate_left
  ·
   intro w'
   go_simp
   with_reducible rfl
  rotate_left
  ·
   simp only [Act.put, List.setIfInBounds_toArray, List.set_cons_zero, List.set_cons_succ, i64_w, i32_w]
   rfl
  refine pure_ (i := 13) (N := some 8) (v := ?_) (a' := ?_) #[true, true, true, true, true, true, true, true, true, true, true, true, true, true] rfl rfl (any_of HT_.out (by kernel_rfl)) (fun _ _ _ h => h) (Or.inl ⟨by rfl, ?_⟩) ?_ ?_
  rotate_left
  ·
   intro w'
   go_simp
   with_reducible rfl
  rotate_left
  ·
   simp only [Act.put, List.setIfInBounds_toArray, List.set_cons_zero, List.set_cons_succ, i64_w, i32_w]
   rfl
  refine done_ (done_of HT_.out (by kernel_rfl)) ?_
  try go_wp2
  go_ret
  exact ⟨by first | rfl | (simp [errW_none, errW_some] <;> rfl) | (simp [*, errW_none, errW_some] <;> rfl), by repeat (with_reducible first | exact HB.out | apply below_alloc | apply pw_below_drewN | apply below_drew1 | refine below_set ?_ GE208.out | refine below_set ?_ GE209.out)⟩
end Go.Proofs.YtjpcdkhapeejjaaGreatDoor.A
end
section
namespace Go.Proofs.YtjpcdkhapeejjaaGreatDoor.A
open Go.RowKit Cal Go.Proofs.YtjpcdkhapeejjaaGreatDoorW.PrintWords Go.Proofs.YtjpcdkhapeejjaaGreatDoorW.PrintLast Go.Proofs.YtjpcdkhapeejjaaGreatDoorW.PrintMore
/-- A moment as the reference takes it. -/
structure GoodM (y m d h mi se : Int) : Prop where
  y0 : 1990 ≤ y
  y1 : y ≤ 2090
  m0 : 1 ≤ m
  m1 : m ≤ 12
  d0 : 1 ≤ d
  d1 : d ≤ dim y m
  h0 : 0 ≤ h
  h1 : h ≤ 23
  mi0 : 0 ≤ mi
  mi1 : mi ≤ 59
  s0 : 0 ≤ se
  s1 : se ≤ 59
theorem mgood_f (y m d h mi se : Int) : ∃ b, spec_MomentGood.f y m d h mi se = some b ∧ (b = true → GoodM y m d h mi se) := by
  unfold spec_MomentGood.f
  by_cases c1 : 1990 ≤ y
  case neg => rw [if_neg c1]; exact ⟨false, rfl, fun q => by cases q⟩
  by_cases c2 : y ≤ 2090
  case neg => rw [if_pos c1, if_neg c2]; exact ⟨false, rfl, fun q => by cases q⟩
  by_cases c3 : 1 ≤ m
  case neg => rw [if_pos c1, if_pos c2, if_neg c3]; exact ⟨false, rfl, fun q => by cases q⟩
  by_cases c4 : m ≤ 12
  case neg => rw [if_pos c1, if_pos c2, if_pos c3, if_neg c4]; exact ⟨false, rfl, fun q => by cases q⟩
  by_cases c5 : 1 ≤ d
  case neg => rw [if_pos c1, if_pos c2, if_pos c3, if_pos c4, if_neg c5]; exact ⟨false, rfl, fun q => by cases q⟩
  rw [if_pos c1, if_pos c2, if_pos c3, if_pos c4, if_pos c5, days_f2 y m (by omega) c3 c4, Option.bind_some]
  by_cases c6 : d ≤ dim y m
  case neg => rw [if_neg c6]; exact ⟨false, rfl, fun q => by cases q⟩
  by_cases c7 : 0 ≤ h
  case neg => rw [if_pos c6, if_neg c7]; exact ⟨false, rfl, fun q => by cases q⟩
  by_cases c8 : h ≤ 23
  case neg => rw [if_pos c6, if_pos c7, if_neg c8]; exact ⟨false, rfl, fun q => by cases q⟩
  by_cases c9 : 0 ≤ mi
  case neg => rw [if_pos c6, if_pos c7, if_pos c8, if_neg c9]; exact ⟨false, rfl, fun q => by cases q⟩
  by_cases c10 : mi ≤ 59
  case neg => rw [if_pos c6, if_pos c7, if_pos c8, if_pos c9, if_neg c10]; exact ⟨false, rfl, fun q => by cases q⟩
  by_cases c11 : 0 ≤ se
  case neg => rw [if_pos c6, if_pos c7, if_pos c8, if_pos c9, if_pos c10, if_neg c11]; exact ⟨false, rfl, fun q => by cases q⟩
  by_cases c12 : se ≤ 59
  case neg => rw [if_pos c6, if_pos c7, if_pos c8, if_pos c9, if_pos c10, if_pos c11, if_neg c12]; exact ⟨false, rfl, fun q => by cases q⟩
  rw [if_pos c6, if_pos c7, if_pos c8, if_pos c9, if_pos c10, if_pos c11, if_pos c12]
  exact ⟨true, rfl, fun _ => ⟨c1, c2, c3, c4, c5, c6, c7, c8, c9, c10, c11, c12⟩⟩
/-- The seconds of such a moment, and the way back. -/
theorem GoodM.at_ {y m d h mi se : Int} (H : GoodM y m d h mi se) : ∃ s, mkS y m d h mi se = s ∧ yearS s = y ∧ monS s = m ∧ dayS s = d ∧ hourS s = h ∧ minS s = mi ∧ secS s = se ∧ lo0 + 34905600 ≤ s ∧ s + 250000000 ≤ hi0 ∧ MomIn y m d h mi se := by
  obtain ⟨y0, y1, m0, m1, d0, d1, h0, h1, mi0, mi1, s0, s1⟩ := H
  have hd := dim_bd y m m0 m1
  have f := mk_fields y m d h mi se (by omega) (by omega) ⟨m0, m1, d0, d1⟩ h0 h1 mi0 mi1 s0 s1
  have yf := ord_first y (by omega)
  have ym := year_mon y m m0 m1
  have od := ord_day1 y m d
  refine ⟨_, rfl, f.1, f.2.1, f.2.2.1, f.2.2.2.1, f.2.2.2.2.1, f.2.2.2.2.2, ?_, ?_, ⟨by omega, by omega, m0, m1, by omega, by omega, h0, h1, mi0, mi1, s0, s1⟩⟩
  · unfold lo0 mkS; omega
  · unfold hi0 mkS; omega
theorem kk_bd : 190000 ≤ KK := by unfold KK; decide
section
variable {f0 f1 f2 f3 f4 f5 : List S54}
theorem iprev_f (h : GoodE f0 f1 f2 f3 f4 f5) (sec : Bool) (hs : sec = false → f0 = noSec) (n : Nat) (hn : n ≤ 10) (incl : Bool) (y m d hh mi se s t : Int) (hM : MomIn y m d hh mi se) (hms : mkS y m d hh mi se = s) (hI : InR s) (ht : InR t) (hk : tickOf KK true incl (segsOf f0 f1 f2 f3 f4 f5) s = some t) :
    impl_Prev.f (strOfNums (joinW n (partsOf sec f0 f1 f2 f3 f4 f5))) y m d hh mi se incl = some (six t) := by
  have kk := kk_bd
  unfold impl_Prev.f
  rw [seg_good h sec hs n hn KK (by omega), Option.bind_some, hms, if_pos ⟨rfl, rfl, hM, hI⟩, hk, Option.bind_some, if_pos ht]
  rfl
end
theorem cv_small {l : List (List S53)} (h : small l) : ∀ x ∈ cvE l, x.length ≤ 2147483647 := fun x hx => by
  unfold cvE at hx
  obtain ⟨y, hy, rfl⟩ := List.mem_map.1 hx
  rw [List.length_map]
  exact h.2 y hy
theorem same_f (a b c d e f : Int) : laws_same.f a b c d e f true a b c d e f true = some true := by
  unfold laws_same.f laws_moment.f
  simp
/-- What is asked: always an answer; and what a yes says. -/
theorem asked_f (fs : List (List S54)) (sec : Bool) (hs : ∀ l ∈ fs, l.length ≤ 2147483647) (y m d h mi se : Int) : ∃ b, EvK (fun k => laws_asked.f k fs sec y m d h mi se) b ∧ (b = true → (∃ f0 f1 f2 f3 f4 f5, fs = fsOf f0 f1 f2 f3 f4 f5 ∧ GoodE f0 f1 f2 f3 f4 f5 ∧ (sec = false → f0 = noSec)) ∧ GoodM y m d h mi se) := by
  obtain ⟨b, e1, q1⟩ := ex_good fs sec hs
  obtain ⟨c, e2, q2⟩ := mgood_f y m d h mi se
  cases b with
  | false => exact ⟨false, EvK.bind (h := fun k (t146 : Bool) => if t146 = true then _ else some false) e1 ⟨0, fun k _ => rfl⟩, fun q => by cases q⟩
  | true =>
    refine ⟨c, EvK.bind (h := fun k (t146 : Bool) => if t146 = true then _ else some false) e1 ⟨0, fun k _ => ?_⟩, fun q => ⟨q1 rfl, q2 q⟩⟩
    show (if true = true then _ else _) = _
    rw [if_pos rfl]
    unfold laws_moment.f
    rw [Option.bind_some, e2]
    rfl
/-- The plain law of the previous moment. -/
theorem prev_pure (incl : Bool) (l : List (List S53)) (a : Bool) (y m d h mi se : Int) (F : Nat → Option Bool)
    (hF : ∀ k, F k = (laws_zzFits1.f k l a).bind fun t => if t = true then ((laws_expr.f k l a).bind fun e => (laws_asked.f k e.1 e.2 y m d h mi se).bind fun q => if q = true then ((laws_moment.f y m d h mi se).bind fun b => (spec_Prev.f k e.1 e.2 b.1 b.2.1 b.2.2.1 b.2.2.2.1 b.2.2.2.2.1 b.2.2.2.2.2 incl).bind fun w => (spec_Text.f k e.1 e.2).bind fun x => (impl_Prev.f x y m d h mi se incl).bind fun g => (laws_same.f g.1 g.2.1 g.2.2.1 g.2.2.2.1 g.2.2.2.2.1 g.2.2.2.2.2.1 g.2.2.2.2.2.2 w.1 w.2.1 w.2.2.1 w.2.2.2.1 w.2.2.2.2.1 w.2.2.2.2.2.1 w.2.2.2.2.2.2).bind fun z => some z) else some true) else some true) :
    EvK F true := by
  obtain ⟨b, e1, q1⟩ := fits_f l a
  cases b with
  | false =>
    obtain ⟨K, hK⟩ := e1
    have hK : ∀ k, K ≤ k → laws_zzFits1.f k l a = some false := hK
    exact ⟨K, fun k hk => by rw [hF, hK k hk]; rfl⟩
  | true =>
  have hs := q1 rfl
  obtain ⟨c, e3, q3⟩ := asked_f (cvE l) a (cv_small hs) y m d h mi se
  obtain ⟨K1, h1⟩ := e1
  obtain ⟨K2, h2⟩ := expr_f l hs a
  obtain ⟨K3, h3⟩ := e3
  have h1 : ∀ k, K1 ≤ k → laws_zzFits1.f k l a = some true := h1
  have h2 : ∀ k, K2 ≤ k → laws_expr.f k l a = some (cvE l, a) := h2
  have h3 : ∀ k, K3 ≤ k → laws_asked.f k (cvE l) a y m d h mi se = some c := h3
  have base : ∀ k, max K1 (max K2 K3) ≤ k → F k = if c = true then ((laws_moment.f y m d h mi se).bind fun b => (spec_Prev.f k (cvE l) a b.1 b.2.1 b.2.2.1 b.2.2.2.1 b.2.2.2.2.1 b.2.2.2.2.2 incl).bind fun w => (spec_Text.f k (cvE l) a).bind fun x => (impl_Prev.f x y m d h mi se incl).bind fun g => (laws_same.f g.1 g.2.1 g.2.2.1 g.2.2.2.1 g.2.2.2.2.1 g.2.2.2.2.2.1 g.2.2.2.2.2.2 w.1 w.2.1 w.2.2.1 w.2.2.2.1 w.2.2.2.2.1 w.2.2.2.2.2.1 w.2.2.2.2.2.2).bind fun z => some z) else some true := fun k hk => by
    rw [hF, h1 k (by omega), Option.bind_some, if_pos rfl, h2 k (by omega), Option.bind_some, h3 k (by omega), Option.bind_some]
  cases c with
  | false => exact ⟨_, fun k hk => by rw [base k hk]; rfl⟩
  | true =>
    obtain ⟨⟨f0, f1, f2, f3, f4, f5, hfs, hE, hns⟩, hG⟩ := q3 rfl
    obtain ⟨s, hms, e1, e2, e3, e4, e5, e6, hlo, hhi, hM⟩ := hG.at_
    have kk := kk_bd
    obtain ⟨t, ht0, ht1, hN, hsp, htk⟩ := prev_both hE a incl s (by omega) (by omega) KK kk
    have hI : InR s := inr_of (by omega) (by omega)
    have hIt : InR t := inr_of (by omega) (by omega)
    have hin := iprev_f hE a hns 0 (by decide) incl y m d h mi se s t hM hms hI hIt htk
    rw [e1, e2, e3, e4, e5, e6] at hsp
    refine ⟨max (max K1 (max K2 K3)) KK, fun k hk => ?_⟩
    have hspk := at_rounds (fun k => spec_Prev.mono (fsOf f0 f1 f2 f3 f4 f5) a y m d h mi se incl k) (show KK ≤ k by omega) hsp
    rw [base k (by omega), if_pos rfl, hfs]
    unfold laws_moment.f
    rw [Option.bind_some, hspk, Option.bind_some, text_f hE a k (by omega), Option.bind_some, hin, Option.bind_some]
    unfold six
    rw [same_f]
    rfl
end Go.Proofs.YtjpcdkhapeejjaaGreatDoor.A
end
