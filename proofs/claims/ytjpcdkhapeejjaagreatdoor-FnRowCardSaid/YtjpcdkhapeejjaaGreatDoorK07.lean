/- Steps of the proof of the law: contracts of functions of the given program, and plain lemmas about what they compute.
Conditions: none beyond those that each theorem names. -/
import Derived.Test.YtjpcdkhapeejjaaGreatDoorK06
set_option linter.unusedVariables false
set_option linter.unusedSimpArgs false
open Go.RowKit Go.Proofs.YtjpcdkhapeejjaaGreatDoorW.PrintWords Go.Proofs.YtjpcdkhapeejjaaGreatDoorW.PrintLast Go.Proofs.YtjpcdkhapeejjaaGreatDoorW.PrintMore
namespace Go.Proofs.YtjpcdkhapeejjaaGreatDoor.A
open Cal
structure Mem (w : World) (L : List (Nat × Obj)) (W : World) : Prop where
  below : Below w.heap.size w W
  blk : ∀ p ∈ L, W.heap[p.1]? = some p.2 ∧ w.heap.size ≤ p.1
  nodup : (L.map Prod.fst).Nodup
section
variable {w W W' : World} {L : List (Nat × Obj)}
theorem Mem.start (w : World) : Mem w [] w := ⟨Below.refl _ _, (fun _ h => by cases h), List.nodup_nil⟩
theorem Mem.at_ (h : Mem w L W) (i : Nat) {p : Nat × Obj} (e : L[i]? = some p) : W.heap[p.1]? = some p.2 := (h.blk p (List.mem_of_getElem? e)).1
theorem Mem.ge (h : Mem w L W) (i : Nat) {p : Nat × Obj} (e : L[i]? = some p) : w.heap.size ≤ p.1 := (h.blk p (List.mem_of_getElem? e)).2
theorem Mem.lt (h : Mem w L W) (i : Nat) {p : Nat × Obj} (e : L[i]? = some p) : p.1 < W.heap.size := blk_lt (h.at_ i e)
theorem Mem.step (h : Mem w L W) (hb : Below W.heap.size W W') : Mem w L W' :=
  ⟨below_step h.below hb, fun p hp => ⟨blk_below (h.blk p hp).1 hb, (h.blk p hp).2⟩, h.nodup⟩
theorem Mem.drew (h : Mem w L W) : Mem w L W.drew := ⟨h.below.drew, h.blk, h.nodup⟩
theorem Mem.drewN (h : Mem w L W) (n : Nat) : Mem w L (W.drewN n) := ⟨pw_below_drewN h.below n, h.blk, h.nodup⟩
theorem Mem.alloc (h : Mem w L W) (o : Obj) : Mem w L (W.alloc o) := ⟨below_alloc h.below o, fun p hp => ⟨blk_alloc (h.blk p hp).1 o, (h.blk p hp).2⟩, h.nodup⟩
theorem Mem.new (h : Mem w L W) (o : Obj) : Mem w ((W.heap.size, o) :: L) (W.alloc o) := by
  refine ⟨below_alloc h.below o, fun p hp => ?_, ?_⟩
  · rcases List.mem_cons.1 hp with rfl | hp
    · exact ⟨heap_alloc_new W o, h.below.size⟩
    · exact ⟨blk_alloc (h.blk p hp).1 o, (h.blk p hp).2⟩
  · rw [List.map_cons, List.nodup_cons]
    refine ⟨fun hm => ?_, h.nodup⟩
    obtain ⟨p, hp, e⟩ := List.mem_map.1 hm
    have := blk_lt (h.blk p hp).1
    rw [e] at this
    exact Nat.lt_irrefl _ this
theorem Mem.start2 (w : World) (o p : Obj) : Mem w [(w.heap.size + 1, p), (w.heap.size, o)] ((w.alloc o).alloc p) := by
  have h := ((Mem.start w).new o).new p
  rw [World.size_alloc] at h
  exact h
/-- One cell of a known block is written. -/
theorem Mem.set (h : Mem w L W) (i : Nat) {g : Nat} {cs : Array Value} {t : TypeId} (e : L[i]? = some (g, .cells cs t (0, 0))) (j : Nat) (u : Value) :
    Mem w (L.set i (g, .cells (cs.setIfInBounds j u) t (0, 0))) (W.setCell ⟨g, j, none⟩ u) := by
  have hg := h.ge i e
  have hi : i < L.length := (List.getElem?_eq_some_iff.1 e).1
  have hn := h.nodup
  refine ⟨below_set h.below hg, fun p hp => ?_, ?_⟩
  · obtain ⟨k, hk⟩ := List.mem_iff_getElem?.1 hp
    rw [List.getElem?_set] at hk
    by_cases hik : i = k
    · subst hik
      rw [if_pos rfl, if_pos hi] at hk
      cases hk
      exact ⟨blk_set (h.at_ i e) j u, hg⟩
    · rw [if_neg hik] at hk
      have hp1 := h.at_ k hk
      have hne : p.1 ≠ g := by
        intro hpg
        have e1 : (L.map Prod.fst)[i]? = (L.map Prod.fst)[k]? := by
          rw [List.getElem?_map, List.getElem?_map, hk, e]
          show some g = some p.1
          rw [hpg]
        exact hik ((List.getElem?_inj (by rw [List.length_map]; exact hi) hn).1 e1)
      refine ⟨?_, h.ge k hk⟩
      exact (Below.heap_setCell W ⟨g, j, none⟩ u p.1 hne).trans hp1
  · have : (L.set i (g, .cells (cs.setIfInBounds j u) t (0, 0))).map Prod.fst = L.map Prod.fst := by
      rw [List.map_set]
      have a2 := (List.getElem?_eq_some_iff.1 e).2
      have : g = (L.map Prod.fst)[i]'(by simpa using hi) := by simp [a2]
      show (L.map Prod.fst).set i g = _
      rw [this]
      exact List.set_getElem_self _
    rw [this]
    exact hn
/-- A moment's three cells are written. -/
theorem Mem.set3 (h : Mem w L W) (i : Nat) {g : Nat} {x y z : Value} {t : TypeId} (e : L[i]? = some (g, .cells #[x, y, z] t (0, 0))) (a b c : Value) :
    Mem w (L.set i (g, .cells #[a, b, c] t (0, 0))) (((W.setCell ⟨g, 0, none⟩ a).setCell ⟨g, 1, none⟩ b).setCell ⟨g, 2, none⟩ c) := by
  have hi : i < L.length := (List.getElem?_eq_some_iff.1 e).1
  have h1 := h.set i e 0 a
  have h2 := h1.set i (g := g) (cs := #[a, y, z]) (t := t) (by rw [List.getElem?_set, if_pos rfl, if_pos hi]; rfl) 1 b
  have h3 := h2.set i (g := g) (cs := #[a, b, z]) (t := t) (by rw [List.getElem?_set, if_pos rfl, if_pos (by rw [List.length_set]; exact hi)]; rfl) 2 c
  rw [List.set_set, List.set_set] at h3
  exact h3
theorem Mem.c3 (h : Mem w L W) (i : Nat) {g : Nat} {t : TypeId} {a b c : Value} (e : L[i]? = some (g, .cells #[a, b, c] t (0, 0))) :
    (W.cell? ⟨g, 0, none⟩ = some a ∧ W.cell? ⟨g, 1, none⟩ = some b ∧ W.cell? ⟨g, 2, none⟩ = some c) ∧ (W.frozen? ⟨g, 0, none⟩ = false ∧ W.frozen? ⟨g, 1, none⟩ = false ∧ W.frozen? ⟨g, 2, none⟩ = false) ∧ g < W.heap.size := cells3 (h.at_ i e)
theorem Mem.out (h : Mem w L W) : Below w.heap.size w W := h.below
theorem Mem.drop (h : Mem w L W) (n : Nat) : Mem w (L.drop n) W :=
  ⟨h.below, fun p hp => h.blk p (List.mem_of_mem_drop hp), by rw [List.map_drop]; exact h.nodup.sublist (List.drop_sublist n _)⟩
end
/-- A moment's block; UTC's block. -/
def tb (s : Int) : Obj := .cells #[.int .u64 0, .int .i64 s, .pointer none] 63 (0, 0)
def utcO : Obj := .cells #[.bool true, .string ⟨#[85, 84, 67]⟩, .slice none 0 0, .slice none 0 0, .string ⟨#[]⟩, .int .i64 0, .int .i64 0, .pointer none] 138 (0, 0)
theorem Mem.utc {w W : World} {L : List (Nat × Obj)} (h : Mem w L W) (i : Nat) {g : Nat} (e : L[i]? = some (g, utcO)) : IsUTC W g := h.at_ i e
/-- UTC's block, made by a callee, joins what is known. -/
theorem Mem.join {w W W' : World} {L : List (Nat × Obj)} (h : Mem w L W) (hb : Below W.heap.size W W') {g : Nat} {o : Obj} (hg : W.heap.size ≤ g) (ho : W'.heap[g]? = some o) : Mem w ((g, o) :: L) W' := by
  refine ⟨below_step h.below hb, fun p hp => ?_, ?_⟩
  · rcases List.mem_cons.1 hp with rfl | hp
    · exact ⟨ho, Nat.le_trans h.below.size hg⟩
    · exact ⟨blk_below (h.blk p hp).1 hb, (h.blk p hp).2⟩
  · rw [List.map_cons, List.nodup_cons]
    refine ⟨fun hm => ?_, h.nodup⟩
    obtain ⟨p, hp, e⟩ := List.mem_map.1 hm
    have h1 : p.1 < W.heap.size := blk_lt (h.blk p hp).1
    have h2 : p.1 = g := e
    omega
end Go.Proofs.YtjpcdkhapeejjaaGreatDoor.A
namespace Go.Proofs.YtjpcdkhapeejjaaGreatDoor.A
open Cal
set_option maxRecDepth 100000
attribute [local go_sem] hset_drewN halloc_drewN
def posV (s p : Int) : Int := if p = 0 then secS s else if p = 1 then minS s else if p = 2 then hourS s else if p = 3 then dayS s else if p = 4 then monS s else if p = 5 then wdS s else yearS s
set_option maxHeartbeats 4000000 in
theorem valueByPos_any (s p : Int) (w : World) (h : InR s) (hp : 0 ≤ p) (hp2 : p ≤ 6) :
    Calls Tryz.prog 205 #[.agg #[.int .u64 0, .int .i64 s, .pointer none], .int .i64 p] w fun e w' => e = .returned (.int .i64 (posV s p)) ∧ Below w.heap.size w w' := by
  have hu63 := Tryz.underlying63
  have hc : p = 0 ∨ p = 1 ∨ p = 2 ∨ p = 3 ∨ p = 4 ∨ p = 5 ∨ p = 6 := by omega
  have HM := Aside0.mk ((Mem.start w).new (tb s))
  unfold tb at HM
  have HI := Aside0.mk h
  clear h hp hp2
  obtain ⟨⟨c0, c1, c2⟩, _, _⟩ := HM.out.c3 0 rfl
  rcases hc with rfl | rfl | rfl | rfl | rfl | rfl | rfl
  all_goals
    go_enter Tryz.func205, Tryz.ntmps205
    go_wp2_with (first
      | (go_at_call 210; with_reducible refine (Second_any _ _ HI.out).mono ?_; rintro e wz ⟨rfl, hb⟩)
      | (go_at_call 124; with_reducible refine (Minute_any _ _ HI.out).mono ?_; rintro e wz ⟨rfl, hb⟩)
      | (go_at_call 123; with_reducible refine (Hour_any _ _ HI.out).mono ?_; rintro e wz ⟨rfl, hb⟩)
      | (go_at_call 122; with_reducible refine (Day_any _ _ HI.out).mono ?_; rintro e wz ⟨rfl, hb⟩)
      | (go_at_call 121; with_reducible refine (Month_any _ _ HI.out).mono ?_; rintro e wz ⟨rfl, hb⟩)
      | (go_at_call 211; with_reducible refine (Weekday_any _ _ HI.out).mono ?_; rintro e wz ⟨rfl, hb⟩)
      | (go_at_call 63; with_reducible refine (Year_any _ _ HI.out).mono ?_; rintro e wz ⟨rfl, hb⟩))
    go_ret
    exact ⟨rfl, (HM.out.step hb).out⟩
end Go.Proofs.YtjpcdkhapeejjaaGreatDoor.A
namespace Go.Proofs.YtjpcdkhapeejjaaGreatDoor.A
def gronx_boundsByPos.j0 : Nat → List Int → Int → Bool → Option (List Int)
  | 0, _, _, _ => none
  | k + 1, x2, x4, x5 => if x5 = true then (some (([0, 59] : List Int))) else (if x4 = 2 then (some (([0, 23] : List Int))) else (if x4 = 3 then (some (([1, 31] : List Int))) else (if x4 = 4 then (some (([1, 12] : List Int))) else (if x4 = 5 then (some (([0, 7] : List Int))) else (if x4 = 6 then (some (([0, 9999] : List Int))) else (some x2))))))
def gronx_boundsByPos.f (k : Nat) (a0 : Int) : Option (List Int) := (some (([0, 0] : List Int) : List Int)).bind fun y655 => (if a0 = 0 then (gronx_boundsByPos.j0 k y655 a0 (a0 == 0)) else (gronx_boundsByPos.j0 k y655 a0 (a0 == 1)))
set_option maxHeartbeats 8000000 in
set_option maxRecDepth 100000 in
theorem gronx_boundsByPos.calls (k : Nat) (a0 : Int) (r : List Int) (w : World) (h : gronx_boundsByPos.f k a0 = some r) :
    Calls Tryz.prog 212 #[.int .i64 a0] w fun e w' => ∃ v0_ : Value, e = .returned (v0_) ∧ Kd.R (Kd.int .i64) 3 w' w.heap.size (fun _ => True) v0_ r ∧ Below w.heap.size w w' := by
 have HB := Aside0.mk (Below.refl w.heap.size w)
 have H : ((some (([0, 0] : List Int) : List Int)).bind fun y655 => (if a0 = 0 then (gronx_boundsByPos.j0 k y655 a0 (a0 == 0)) else (gronx_boundsByPos.j0 k y655 a0 (a0 == 1)))) = some r := h
 clear h
 obtain ⟨y655, hy655⟩ : ∃ y_ : List Int, y_ = (([0, 0] : List Int)) := ⟨_, rfl⟩
 replace H : (if a0 = 0 then (gronx_boundsByPos.j0 k y655 a0 (a0 == 0)) else (gronx_boundsByPos.j0 k y655 a0 (a0 == 1))) = some r := by first | (rw [hy655]; with_reducible exact H) | (have H2_ := (Option.bind_some _ _).symm.trans H; rw [hy655]; with_reducible exact H2_) | (have H2_ := (Option.bind_some _ _).symm.trans H; with_reducible exact H2_) | with_reducible exact H | (rw [hy655]; exact H) | exact H
 have Ny655 := Aside0.mk hy655
 clear hy655
 have HC2 := Aside0.mk H
 clear H
 go_enter Tryz.func212, Tryz.ntmps212
 go_upto_if 5 with (first | ((with_reducible refine gate_dst (N := 3) rfl ?_); refine Kd.R_lit (Kd.int .i64) _ 3 ?hg (N := 3) ?hd (xs := ([0, 0] : List Int)) (inner := [.int .i64 0, .int .i64 0]) (ok := fun _ => True) (okp := fun _ => True) ?hr ?hp (fun _ hk => hk) trivial (Below.refl _ _) (Nat.le_refl _) (by simp) ?_; (case hd => rfl); (case hg => rfl); (case hr => first | (go_simp; done) | (go_simp; rfl)); (case hp => exact (Reps.one (show Kd.M (Kd.int .i64) _ _ _ 0 [.int .i64 0] from rfl) (Reps.one (show Kd.M (Kd.int .i64) _ _ _ 0 [.int .i64 0] from rfl) (Reps.none _ _)))); intro v656 w3 ho4 hb hg_ hnew_; clear hg_ hnew_; (first | rw [← Ny655.out] at ho4 | (simp only [Int.reduceToNat] at ho4; rw [← Ny655.out] at ho4)); have n0_ := Aside0.mk (Kd.R_lower ho4 (below_size (by repeat (with_reducible first | exact HB.out | apply below_alloc | apply pw_below_drewN | apply below_drew1)))); have n1_ := Aside0.mk (below_step (by repeat (with_reducible first | exact HB.out | apply below_alloc | apply pw_below_drewN | apply below_drew1)) hb); clear HB; have HO657 := n0_; have HB := n1_; clear n0_ n1_; clear hb ho4))
 (try simp only [Act.put, List.setIfInBounds_toArray, List.set_cons_zero, List.set_cons_succ])
 go_cut [5] (fun v5 wc => ∃ (kq : Nat) (x5_1 : Bool), v5 = .bool x5_1 ∧ Aside0 (gronx_boundsByPos.j0 kq y655 a0 x5_1 = some r) ∧ Aside0 (kq ≤ k) ∧ Aside0 (Kd.R (Kd.int .i64) 3 wc w.heap.size (fun _ => True) v656 y655) ∧ Aside0 (Below w.heap.size w wc))
 case first =>
  have H := HC2.out
  clear HC2
  refine (Classical.em (a0 = 0)).elim (fun c5 => ?a1_) (fun c5 => ?b1_)
  case a1_ =>
   rw [if_pos c5] at H
   have c5b0 : (a0 == 0) = true := beq_iff_eq.mpr c5
   have c5b1 : (a0 != 0) = false := bne_eq_false_iff_eq.mpr c5
   clear c5
   (first | rw [c5b0] | (simp only [i64_w, i32_w]; rw [c5b0]) | skip)
   have H' := Aside0.mk H
   clear H
   go_wp2
   go_meet
   case rel => exact ⟨_, ((a0 == 0)), (by first | rfl | (simp; done) | (simp [*]; done)), H', ⟨by first | omega | exact Nat.le_refl _⟩, ⟨by (with_reducible repeat (first | apply Kd.R_alloc | apply Kd.R_drewN | apply Kd.R_drew)); exact HO657.out⟩, ⟨by repeat (with_reducible first | exact HB.out | apply below_alloc | apply pw_below_drewN | apply below_drew1)⟩⟩
  case b1_ =>
   rw [if_neg c5] at H
   have c5b0 : (a0 == 0) = false := beq_eq_false_iff_ne.mpr c5
   have c5b1 : (a0 != 0) = true := bne_iff_ne.mpr c5
   (first | rw [c5b0] | (simp only [i64_w, i32_w]; rw [c5b0]) | skip)
   have H' := Aside0.mk H
   clear H
   go_wp2
   go_meet
   case rel => exact ⟨_, ((a0 == 1)), (by first | rfl | (simp; done) | (simp [*]; done)), H', ⟨by first | omega | exact Nat.le_refl _⟩, ⟨by (with_reducible repeat (first | apply Kd.R_alloc | apply Kd.R_drewN | apply Kd.R_drew)); exact HO657.out⟩, ⟨by repeat (with_reducible first | exact HB.out | apply below_alloc | apply pw_below_drewN | apply below_drew1)⟩⟩
 case rest =>
  clear HC2
  try clear c5
  try clear c5b0
  try clear c5b1
  obtain ⟨kq, x5_1, rfl, HA, HJ1, HO_2, HB⟩ := hcut
  cases kq with
  | zero => exact absurd HA.out (by simp [gronx_boundsByPos.j0])
  | succ kj1 =>
   have H := HA.out
   clear HA
   simp only [gronx_boundsByPos.j0] at H
   refine (Classical.em (x5_1 = true)).elim (fun c6 => ?a2_) (fun c6 => ?b2_)
   case a2_ =>
    subst c6
    rw [if_pos rfl] at H
    obtain ⟨y658, hy658⟩ : ∃ y_ : List Int, y_ = (([0, 59] : List Int)) := ⟨_, rfl⟩
    replace H : (some y658) = some r := by first | (rw [hy658]; with_reducible exact H) | (have H2_ := (Option.bind_some _ _).symm.trans H; rw [hy658]; with_reducible exact H2_) | (have H2_ := (Option.bind_some _ _).symm.trans H; with_reducible exact H2_) | with_reducible exact H | (rw [hy658]; exact H) | exact H
    have Ny658 := Aside0.mk hy658
    clear hy658
    obtain rfl := Option.some.inj H
    go_wp2_with (first | ((with_reducible refine gate_dst (N := 8) rfl ?_); refine Kd.R_lit (Kd.int .i64) _ 3 ?hg (N := 8) ?hd (xs := ([0, 59] : List Int)) (inner := [.int .i64 0, .int .i64 59]) (ok := fun _ => True) (okp := fun _ => True) ?hr ?hp (fun _ hk => hk) trivial (Below.refl _ _) (Nat.le_refl _) (by simp) ?_; (case hd => rfl); (case hg => rfl); (case hr => first | (go_simp; done) | (go_simp; rfl)); (case hp => exact (Reps.one (show Kd.M (Kd.int .i64) _ _ _ 0 [.int .i64 0] from rfl) (Reps.one (show Kd.M (Kd.int .i64) _ _ _ 59 [.int .i64 59] from rfl) (Reps.none _ _)))); intro v659 w7 ho8 hb hg_ hnew_; clear hg_ hnew_; (first | rw [← Ny658.out] at ho8 | (simp only [Int.reduceToNat] at ho8; rw [← Ny658.out] at ho8)); have n0_ := Aside0.mk (Kd.R_elder' (by (with_reducible repeat (first | apply Kd.R_alloc | apply Kd.R_drewN | apply Kd.R_drew)); exact HO_2.out) (Kd.R_base ho8) hb); have n1_ := Aside0.mk (Kd.R_lower (Kd.R_new' ho8 (Kd.R_lt (by (with_reducible repeat (first | apply Kd.R_alloc | apply Kd.R_drewN | apply Kd.R_drew)); exact HO_2.out))) (below_size (by repeat (with_reducible first | exact HB.out | apply below_alloc | apply pw_below_drewN | apply below_drew1)))); have n2_ := Aside0.mk (below_step (by repeat (with_reducible first | exact HB.out | apply below_alloc | apply pw_below_drewN | apply below_drew1)) hb); clear HO_2; clear HB; have HO_2 := n0_; have HO660 := n1_; have HB := n2_; clear n0_ n1_ n2_; clear hb ho8))
    go_ret
    exact ⟨_, by first | rfl | (simp [errW_none, errW_some] <;> rfl) | (simp [*, errW_none, errW_some] <;> rfl), by (with_reducible repeat (first | apply Kd.R_alloc | apply Kd.R_drewN | apply Kd.R_drew)); exact Kd.R_mono HO660.out (fun _ hk => trivial), by repeat (with_reducible first | exact HB.out | apply below_alloc | apply pw_below_drewN | apply below_drew1)⟩
   case' b2_ =>
    replace c6 := Bool.eq_false_iff.mpr c6
    subst c6
    rw [if_neg (show ¬ (false = true) by decide)] at H
    refine (Classical.em (a0 = 2)).elim (fun c9 => ?a3_) (fun c9 => ?b3_)
   case a3_ =>
    rw [if_pos c9] at H
    have c9b0 : (a0 == 2) = true := beq_iff_eq.mpr c9
    have c9b1 : (a0 != 2) = false := bne_eq_false_iff_eq.mpr c9
    clear c9
    obtain ⟨y661, hy661⟩ : ∃ y_ : List Int, y_ = (([0, 23] : List Int)) := ⟨_, rfl⟩
    replace H : (some y661) = some r := by first | (rw [hy661]; with_reducible exact H) | (have H2_ := (Option.bind_some _ _).symm.trans H; rw [hy661]; with_reducible exact H2_) | (have H2_ := (Option.bind_some _ _).symm.trans H; with_reducible exact H2_) | with_reducible exact H | (rw [hy661]; exact H) | exact H
    have Ny661 := Aside0.mk hy661
    clear hy661
    obtain rfl := Option.some.inj H
    go_wp2_with (first | ((with_reducible refine gate_dst (N := 11) rfl ?_); refine Kd.R_lit (Kd.int .i64) _ 3 ?hg (N := 11) ?hd (xs := ([0, 23] : List Int)) (inner := [.int .i64 0, .int .i64 23]) (ok := fun _ => True) (okp := fun _ => True) ?hr ?hp (fun _ hk => hk) trivial (Below.refl _ _) (Nat.le_refl _) (by simp) ?_; (case hd => rfl); (case hg => rfl); (case hr => first | (go_simp; done) | (go_simp; rfl)); (case hp => exact (Reps.one (show Kd.M (Kd.int .i64) _ _ _ 0 [.int .i64 0] from rfl) (Reps.one (show Kd.M (Kd.int .i64) _ _ _ 23 [.int .i64 23] from rfl) (Reps.none _ _)))); intro v662 w10 ho11 hb hg_ hnew_; clear hg_ hnew_; (first | rw [← Ny661.out] at ho11 | (simp only [Int.reduceToNat] at ho11; rw [← Ny661.out] at ho11)); have n0_ := Aside0.mk (Kd.R_elder' (by (with_reducible repeat (first | apply Kd.R_alloc | apply Kd.R_drewN | apply Kd.R_drew)); exact HO_2.out) (Kd.R_base ho11) hb); have n1_ := Aside0.mk (Kd.R_lower (Kd.R_new' ho11 (Kd.R_lt (by (with_reducible repeat (first | apply Kd.R_alloc | apply Kd.R_drewN | apply Kd.R_drew)); exact HO_2.out))) (below_size (by repeat (with_reducible first | exact HB.out | apply below_alloc | apply pw_below_drewN | apply below_drew1)))); have n2_ := Aside0.mk (below_step (by repeat (with_reducible first | exact HB.out | apply below_alloc | apply pw_below_drewN | apply below_drew1)) hb); clear HO_2; clear HB; have HO_2 := n0_; have HO663 := n1_; have HB := n2_; clear n0_ n1_ n2_; clear hb ho11))
    go_ret
    exact ⟨_, by first | rfl | (simp [errW_none, errW_some] <;> rfl) | (simp [*, errW_none, errW_some] <;> rfl), by (with_reducible repeat (first | apply Kd.R_alloc | apply Kd.R_drewN | apply Kd.R_drew)); exact Kd.R_mono HO663.out (fun _ hk => trivial), by repeat (with_reducible first | exact HB.out | apply below_alloc | apply pw_below_drewN | apply below_drew1)⟩
   case' b3_ =>
    rw [if_neg c9] at H
    have c9b0 : (a0 == 2) = false := beq_eq_false_iff_ne.mpr c9
    have c9b1 : (a0 != 2) = true := bne_iff_ne.mpr c9
    refine (Classical.em (a0 = 3)).elim (fun c12 => ?a4_) (fun c12 => ?b4_)
   case a4_ =>
    rw [if_pos c12] at H
    have c12b0 : (a0 == 3) = true := beq_iff_eq.mpr c12
    have c12b1 : (a0 != 3) = false := bne_eq_false_iff_eq.mpr c12
    clear c12
    obtain ⟨y664, hy664⟩ : ∃ y_ : List Int, y_ = (([1, 31] : List Int)) := ⟨_, rfl⟩
    replace H : (some y664) = some r := by first | (rw [hy664]; with_reducible exact H) | (have H2_ := (Option.bind_some _ _).symm.trans H; rw [hy664]; with_reducible exact H2_) | (have H2_ := (Option.bind_some _ _).symm.trans H; with_reducible exact H2_) | with_reducible exact H | (rw [hy664]; exact H) | exact H
    have Ny664 := Aside0.mk hy664
    clear hy664
    obtain rfl := Option.some.inj H
    go_wp2_with (first | ((with_reducible refine gate_dst (N := 14) rfl ?_); refine Kd.R_lit (Kd.int .i64) _ 3 ?hg (N := 14) ?hd (xs := ([1, 31] : List Int)) (inner := [.int .i64 1, .int .i64 31]) (ok := fun _ => True) (okp := fun _ => True) ?hr ?hp (fun _ hk => hk) trivial (Below.refl _ _) (Nat.le_refl _) (by simp) ?_; (case hd => rfl); (case hg => rfl); (case hr => first | (go_simp; done) | (go_simp; rfl)); (case hp => exact (Reps.one (show Kd.M (Kd.int .i64) _ _ _ 1 [.int .i64 1] from rfl) (Reps.one (show Kd.M (Kd.int .i64) _ _ _ 31 [.int .i64 31] from rfl) (Reps.none _ _)))); intro v665 w13 ho14 hb hg_ hnew_; clear hg_ hnew_; (first | rw [← Ny664.out] at ho14 | (simp only [Int.reduceToNat] at ho14; rw [← Ny664.out] at ho14)); have n0_ := Aside0.mk (Kd.R_elder' (by (with_reducible repeat (first | apply Kd.R_alloc | apply Kd.R_drewN | apply Kd.R_drew)); exact HO_2.out) (Kd.R_base ho14) hb); have n1_ := Aside0.mk (Kd.R_lower (Kd.R_new' ho14 (Kd.R_lt (by (with_reducible repeat (first | apply Kd.R_alloc | apply Kd.R_drewN | apply Kd.R_drew)); exact HO_2.out))) (below_size (by repeat (with_reducible first | exact HB.out | apply below_alloc | apply pw_below_drewN | apply below_drew1)))); have n2_ := Aside0.mk (below_step (by repeat (with_reducible first | exact HB.out | apply below_alloc | apply pw_below_drewN | apply below_drew1)) hb); clear HO_2; clear HB; have HO_2 := n0_; have HO666 := n1_; have HB := n2_; clear n0_ n1_ n2_; clear hb ho14))
    go_ret
    exact ⟨_, by first | rfl | (simp [errW_none, errW_some] <;> rfl) | (simp [*, errW_none, errW_some] <;> rfl), by (with_reducible repeat (first | apply Kd.R_alloc | apply Kd.R_drewN | apply Kd.R_drew)); exact Kd.R_mono HO666.out (fun _ hk => trivial), by repeat (with_reducible first | exact HB.out | apply below_alloc | apply pw_below_drewN | apply below_drew1)⟩
   case' b4_ =>
    rw [if_neg c12] at H
    have c12b0 : (a0 == 3) = false := beq_eq_false_iff_ne.mpr c12
    have c12b1 : (a0 != 3) = true := bne_iff_ne.mpr c12
    refine (Classical.em (a0 = 4)).elim (fun c15 => ?a5_) (fun c15 => ?b5_)
   case a5_ =>
    rw [if_pos c15] at H
    have c15b0 : (a0 == 4) = true := beq_iff_eq.mpr c15
    have c15b1 : (a0 != 4) = false := bne_eq_false_iff_eq.mpr c15
    clear c15
    obtain ⟨y667, hy667⟩ : ∃ y_ : List Int, y_ = (([1, 12] : List Int)) := ⟨_, rfl⟩
    replace H : (some y667) = some r := by first | (rw [hy667]; with_reducible exact H) | (have H2_ := (Option.bind_some _ _).symm.trans H; rw [hy667]; with_reducible exact H2_) | (have H2_ := (Option.bind_some _ _).symm.trans H; with_reducible exact H2_) | with_reducible exact H | (rw [hy667]; exact H) | exact H
    have Ny667 := Aside0.mk hy667
    clear hy667
    obtain rfl := Option.some.inj H
    go_wp2_with (first | ((with_reducible refine gate_dst (N := 17) rfl ?_); refine Kd.R_lit (Kd.int .i64) _ 3 ?hg (N := 17) ?hd (xs := ([1, 12] : List Int)) (inner := [.int .i64 1, .int .i64 12]) (ok := fun _ => True) (okp := fun _ => True) ?hr ?hp (fun _ hk => hk) trivial (Below.refl _ _) (Nat.le_refl _) (by simp) ?_; (case hd => rfl); (case hg => rfl); (case hr => first | (go_simp; done) | (go_simp; rfl)); (case hp => exact (Reps.one (show Kd.M (Kd.int .i64) _ _ _ 1 [.int .i64 1] from rfl) (Reps.one (show Kd.M (Kd.int .i64) _ _ _ 12 [.int .i64 12] from rfl) (Reps.none _ _)))); intro v668 w16 ho17 hb hg_ hnew_; clear hg_ hnew_; (first | rw [← Ny667.out] at ho17 | (simp only [Int.reduceToNat] at ho17; rw [← Ny667.out] at ho17)); have n0_ := Aside0.mk (Kd.R_elder' (by (with_reducible repeat (first | apply Kd.R_alloc | apply Kd.R_drewN | apply Kd.R_drew)); exact HO_2.out) (Kd.R_base ho17) hb); have n1_ := Aside0.mk (Kd.R_lower (Kd.R_new' ho17 (Kd.R_lt (by (with_reducible repeat (first | apply Kd.R_alloc | apply Kd.R_drewN | apply Kd.R_drew)); exact HO_2.out))) (below_size (by repeat (with_reducible first | exact HB.out | apply below_alloc | apply pw_below_drewN | apply below_drew1)))); have n2_ := Aside0.mk (below_step (by repeat (with_reducible first | exact HB.out | apply below_alloc | apply pw_below_drewN | apply below_drew1)) hb); clear HO_2; clear HB; have HO_2 := n0_; have HO669 := n1_; have HB := n2_; clear n0_ n1_ n2_; clear hb ho17))
    go_ret
    exact ⟨_, by first | rfl | (simp [errW_none, errW_some] <;> rfl) | (simp [*, errW_none, errW_some] <;> rfl), by (with_reducible repeat (first | apply Kd.R_alloc | apply Kd.R_drewN | apply Kd.R_drew)); exact Kd.R_mono HO669.out (fun _ hk => trivial), by repeat (with_reducible first | exact HB.out | apply below_alloc | apply pw_below_drewN | apply below_drew1)⟩
   case' b5_ =>
    rw [if_neg c15] at H
    have c15b0 : (a0 == 4) = false := beq_eq_false_iff_ne.mpr c15
    have c15b1 : (a0 != 4) = true := bne_iff_ne.mpr c15
    refine (Classical.em (a0 = 5)).elim (fun c18 => ?a6_) (fun c18 => ?b6_)
   case a6_ =>
    rw [if_pos c18] at H
    have c18b0 : (a0 == 5) = true := beq_iff_eq.mpr c18
    have c18b1 : (a0 != 5) = false := bne_eq_false_iff_eq.mpr c18
    clear c18
    obtain ⟨y670, hy670⟩ : ∃ y_ : List Int, y_ = (([0, 7] : List Int)) := ⟨_, rfl⟩
    replace H : (some y670) = some r := by first | (rw [hy670]; with_reducible exact H) | (have H2_ := (Option.bind_some _ _).symm.trans H; rw [hy670]; with_reducible exact H2_) | (have H2_ := (Option.bind_some _ _).symm.trans H; with_reducible exact H2_) | with_reducible exact H | (rw [hy670]; exact H) | exact H
    have Ny670 := Aside0.mk hy670
    clear hy670
    obtain rfl := Option.some.inj H
    go_wp2_with (first | ((with_reducible refine gate_dst (N := 20) rfl ?_); refine Kd.R_lit (Kd.int .i64) _ 3 ?hg (N := 20) ?hd (xs := ([0, 7] : List Int)) (inner := [.int .i64 0, .int .i64 7]) (ok := fun _ => True) (okp := fun _ => True) ?hr ?hp (fun _ hk => hk) trivial (Below.refl _ _) (Nat.le_refl _) (by simp) ?_; (case hd => rfl); (case hg => rfl); (case hr => first | (go_simp; done) | (go_simp; rfl)); (case hp => exact (Reps.one (show Kd.M (Kd.int .i64) _ _ _ 0 [.int .i64 0] from rfl) (Reps.one (show Kd.M (Kd.int .i64) _ _ _ 7 [.int .i64 7] from rfl) (Reps.none _ _)))); intro v671 w19 ho20 hb hg_ hnew_; clear hg_ hnew_; (first | rw [← Ny670.out] at ho20 | (simp only [Int.reduceToNat] at ho20; rw [← Ny670.out] at ho20)); have n0_ := Aside0.mk (Kd.R_elder' (by (with_reducible repeat (first | apply Kd.R_alloc | apply Kd.R_drewN | apply Kd.R_drew)); exact HO_2.out) (Kd.R_base ho20) hb); have n1_ := Aside0.mk (Kd.R_lower (Kd.R_new' ho20 (Kd.R_lt (by (with_reducible repeat (first | apply Kd.R_alloc | apply Kd.R_drewN | apply Kd.R_drew)); exact HO_2.out))) (below_size (by repeat (with_reducible first | exact HB.out | apply below_alloc | apply pw_below_drewN | apply below_drew1)))); have n2_ := Aside0.mk (below_step (by repeat (with_reducible first | exact HB.out | apply below_alloc | apply pw_below_drewN | apply below_drew1)) hb); clear HO_2; clear HB; have HO_2 := n0_; have HO672 := n1_; have HB := n2_; clear n0_ n1_ n2_; clear hb ho20))
    go_ret
    exact ⟨_, by first | rfl | (simp [errW_none, errW_some] <;> rfl) | (simp [*, errW_none, errW_some] <;> rfl), by (with_reducible repeat (first | apply Kd.R_alloc | apply Kd.R_drewN | apply Kd.R_drew)); exact Kd.R_mono HO672.out (fun _ hk => trivial), by repeat (with_reducible first | exact HB.out | apply below_alloc | apply pw_below_drewN | apply below_drew1)⟩
   case' b6_ =>
    rw [if_neg c18] at H
    have c18b0 : (a0 == 5) = false := beq_eq_false_iff_ne.mpr c18
    have c18b1 : (a0 != 5) = true := bne_iff_ne.mpr c18
    refine (Classical.em (a0 = 6)).elim (fun c21 => ?a7_) (fun c21 => ?b7_)
   case a7_ =>
    rw [if_pos c21] at H
    have c21b0 : (a0 == 6) = true := beq_iff_eq.mpr c21
    have c21b1 : (a0 != 6) = false := bne_eq_false_iff_eq.mpr c21
    clear c21
    obtain ⟨y673, hy673⟩ : ∃ y_ : List Int, y_ = (([0, 9999] : List Int)) := ⟨_, rfl⟩
    replace H : (some y673) = some r := by first | (rw [hy673]; with_reducible exact H) | (have H2_ := (Option.bind_some _ _).symm.trans H; rw [hy673]; with_reducible exact H2_) | (have H2_ := (Option.bind_some _ _).symm.trans H; with_reducible exact H2_) | with_reducible exact H | (rw [hy673]; exact H) | exact H
    have Ny673 := Aside0.mk hy673
    clear hy673
    obtain rfl := Option.some.inj H
    go_wp2_with (first | ((with_reducible refine gate_dst (N := 23) rfl ?_); refine Kd.R_lit (Kd.int .i64) _ 3 ?hg (N := 23) ?hd (xs := ([0, 9999] : List Int)) (inner := [.int .i64 0, .int .i64 9999]) (ok := fun _ => True) (okp := fun _ => True) ?hr ?hp (fun _ hk => hk) trivial (Below.refl _ _) (Nat.le_refl _) (by simp) ?_; (case hd => rfl); (case hg => rfl); (case hr => first | (go_simp; done) | (go_simp; rfl)); (case hp => exact (Reps.one (show Kd.M (Kd.int .i64) _ _ _ 0 [.int .i64 0] from rfl) (Reps.one (show Kd.M (Kd.int .i64) _ _ _ 9999 [.int .i64 9999] from rfl) (Reps.none _ _)))); intro v674 w22 ho23 hb hg_ hnew_; clear hg_ hnew_; (first | rw [← Ny673.out] at ho23 | (simp only [Int.reduceToNat] at ho23; rw [← Ny673.out] at ho23)); have n0_ := Aside0.mk (Kd.R_elder' (by (with_reducible repeat (first | apply Kd.R_alloc | apply Kd.R_drewN | apply Kd.R_drew)); exact HO_2.out) (Kd.R_base ho23) hb); have n1_ := Aside0.mk (Kd.R_lower (Kd.R_new' ho23 (Kd.R_lt (by (with_reducible repeat (first | apply Kd.R_alloc | apply Kd.R_drewN | apply Kd.R_drew)); exact HO_2.out))) (below_size (by repeat (with_reducible first | exact HB.out | apply below_alloc | apply pw_below_drewN | apply below_drew1)))); have n2_ := Aside0.mk (below_step (by repeat (with_reducible first | exact HB.out | apply below_alloc | apply pw_below_drewN | apply below_drew1)) hb); clear HO_2; clear HB; have HO_2 := n0_; have HO675 := n1_; have HB := n2_; clear n0_ n1_ n2_; clear hb ho23))
    go_ret
    exact ⟨_, by first | rfl | (simp [errW_none, errW_some] <;> rfl) | (simp [*, errW_none, errW_some] <;> rfl), by (with_reducible repeat (first | apply Kd.R_alloc | apply Kd.R_drewN | apply Kd.R_drew)); exact Kd.R_mono HO675.out (fun _ hk => trivial), by repeat (with_reducible first | exact HB.out | apply below_alloc | apply pw_below_drewN | apply below_drew1)⟩
   case b7_ =>
    rw [if_neg c21] at H
    have c21b0 : (a0 == 6) = false := beq_eq_false_iff_ne.mpr c21
    have c21b1 : (a0 != 6) = true := bne_iff_ne.mpr c21
    obtain rfl := Option.some.inj H
    go_wp2
    go_ret
    exact ⟨_, by first | rfl | (simp [errW_none, errW_some] <;> rfl) | (simp [*, errW_none, errW_some] <;> rfl), by (with_reducible repeat (first | apply Kd.R_alloc | apply Kd.R_drewN | apply Kd.R_drew)); exact HO_2.out, by repeat (with_reducible first | exact HB.out | apply below_alloc | apply pw_below_drewN | apply below_drew1)⟩
def gronx_zzIndex.l0 : Nat → ByteArray → ByteArray → Int → Option (Int)
  | 0, _, _, _ => none
  | k + 1, x0, x1, x5 => if (wrap64 (x5 + (x1.size : Int))) ≤ (x0.size : Int) then (if 0 ≤ x5 then (if x5 ≤ (wrap64 (x5 + (x1.size : Int))) then (if (x0.extract (x5 : Int).toNat ((wrap64 (x5 + (x1.size : Int))) : Int).toNat).toList = x1.toList then (some x5) else (gronx_zzIndex.l0 k x0 x1 (wrap64 (x5 + 1)))) else (none)) else (none)) else (some (-1))
def gronx_zzIndex.f (k : Nat) (a0 : ByteArray) (a1 : ByteArray) : Option (Int) := gronx_zzIndex.l0 k a0 a1 0
set_option maxHeartbeats 8000000 in
set_option maxRecDepth 100000 in
theorem gronx_zzIndex.calls (k : Nat) (a0 : ByteArray) (a1 : ByteArray) (r : Int) (w : World) (h : gronx_zzIndex.f k a0 a1 = some r) :
    Calls Tryz.prog 65 #[.string a0, .string a1] w fun e w' => e = .returned (.int .i64 r) ∧ Drawn0 w w' := by
 have H : (gronx_zzIndex.l0 k a0 a1 0) = some r := h
 clear h
 have H' := Aside0.mk H
 clear H
 go_enter Tryz.func65, Tryz.ntmps65
 go_wp2
 go_loopg [5] k (fun kq v5 w' => ∃ (x5_1 : Int), v5 = .int .i64 x5_1 ∧ Aside0 (gronx_zzIndex.l0 kq a0 a1 x5_1 = some r) ∧ Aside0 (kq ≤ k) ∧ Drawn0 w w')
 case atStart => exact ⟨(0), (by first | rfl | (simp; done) | (simp [*]; done)), H', ⟨Nat.le_refl _⟩, by repeat (first | exact Drawn0.refl _ | apply Drawn0.step)⟩
 case round =>
  clear H'
  obtain ⟨x5_1, rfl, HA, HK1, ⟨m1, rfl⟩⟩ := hrel
  cases gk with
  | zero => exact absurd HA.out (by simp [gronx_zzIndex.l0])
  | succ k1 =>
   have H := HA.out
   clear HA
   simp only [gronx_zzIndex.l0] at H
   refine (Classical.em ((wrap64 (x5_1 + (a1.size : Int))) ≤ (a0.size : Int))).elim (fun c3 => ?a1_) (fun c3 => ?b1_)
   case' a1_ =>
    rw [if_pos c3] at H
    have c3b0 : decide ((wrap64 (x5_1 + (a1.size : Int))) ≤ (a0.size : Int)) = true := decide_eq_true c3
    clear c3
    refine (Classical.em (0 ≤ x5_1)).elim (fun c4 => ?a2_) (fun c4 => ?b2_)
   case' a2_ =>
    rw [if_pos c4] at H
    have c4b0 := eq_true c4
    have c4b1 : decide (0 ≤ x5_1) = true := decide_eq_true c4
    clear c4
    refine (Classical.em (x5_1 ≤ (wrap64 (x5_1 + (a1.size : Int))))).elim (fun c5 => ?a3_) (fun c5 => ?b3_)
   case' a3_ =>
    rw [if_pos c5] at H
    have c5b0 := eq_true c5
    have c5b1 : decide (x5_1 ≤ (wrap64 (x5_1 + (a1.size : Int)))) = true := decide_eq_true c5
    have c6b0 := eq_true (of_decide_eq_true (by first | (with_reducible assumption) | assumption) : (wrap64 (x5_1 + (a1.size : Int))) ≤ (a0.size : Int))
    refine (Classical.em ((a0.extract (x5_1 : Int).toNat ((wrap64 (x5_1 + (a1.size : Int))) : Int).toNat).toList = a1.toList)).elim (fun c7 => ?a4_) (fun c7 => ?b4_)
   case' a4_ =>
    rw [if_pos c7] at H
    have c7b0 : ((a0.extract (x5_1 : Int).toNat ((wrap64 (x5_1 + (a1.size : Int))) : Int).toNat).toList == a1.toList) = true := beq_iff_eq.mpr c7
    have c7b1 : ((a0.extract (x5_1 : Int).toNat ((wrap64 (x5_1 + (a1.size : Int))) : Int).toNat).toList != a1.toList) = false := bne_eq_false_iff_eq.mpr c7
    clear c7
    obtain rfl := Option.some.inj H
   case b4_ =>
    rw [if_neg c7] at H
    have c7b0 : ((a0.extract (x5_1 : Int).toNat ((wrap64 (x5_1 + (a1.size : Int))) : Int).toNat).toList == a1.toList) = false := beq_eq_false_iff_ne.mpr c7
    have c7b1 : ((a0.extract (x5_1 : Int).toNat ((wrap64 (x5_1 + (a1.size : Int))) : Int).toNat).toList != a1.toList) = true := bne_iff_ne.mpr c7
    have H' := Aside0.mk H
    clear H
    go_wp2
    go_roundg k1
    case measure => have := HK1.out; omega
    case rel => exact ⟨(wrap64 (x5_1 + 1)), (by first | rfl | (simp; done) | (simp [*]; done)), H', ⟨by have := HK1.out; omega⟩, by repeat (first | exact Drawn0.refl _ | apply Drawn0.step)⟩
   case b3_ =>
    rw [if_neg c5] at H
    exact absurd H (by simp)
   case b2_ =>
    rw [if_neg c4] at H
    exact absurd H (by simp)
   case' b1_ =>
    rw [if_neg c3] at H
    have c3b0 : decide ((wrap64 (x5_1 + (a1.size : Int))) ≤ (a0.size : Int)) = false := decide_eq_false c3
    clear c3
    obtain rfl := Option.some.inj H
   case a4_ | b1_ =>
    go_wp2
    go_ret
    exact ⟨by first | rfl | (simp; done) | (simp [*]; done), by repeat (first | exact Drawn0.refl _ | apply Drawn0.step)⟩
def gronx_zzContains.f (k : Nat) (a0 : ByteArray) (a1 : ByteArray) : Option (Bool) := (gronx_zzIndex.f k a0 a1).bind fun t676 => (some (decide (t676 ≥ 0)))
set_option maxHeartbeats 8000000 in
set_option maxRecDepth 100000 in
theorem gronx_zzContains.calls (k : Nat) (a0 : ByteArray) (a1 : ByteArray) (r : Bool) (w : World) (h : gronx_zzContains.f k a0 a1 = some r) :
    Calls Tryz.prog 213 #[.string a0, .string a1] w fun e w' => e = .returned (.bool r) ∧ Drawn0 w w' := by
 have H : ((gronx_zzIndex.f k a0 a1).bind fun t676 => (some (decide (t676 ≥ 0)))) = some r := h
 clear h
 replace H := Option.bind_eq_some_iff.mp H
 obtain ⟨t676, A30, H⟩ := H
 try dsimp only at H
 have A3 := Aside0.mk A30
 clear A30
 obtain rfl := Option.some.inj H
 go_enter Tryz.func213, Tryz.ntmps213
 go_wp2_with (first | ((with_reducible refine gate_callee (f := 65) rfl ?_); refine goesL_ (some 7) rfl rfl Tryz.func65 (by kernel_rfl) rfl #[.string a0, .string a1] rfl (by (try simp only [List.map_toArray, List.map_cons, List.map_nil]); first | done | rfl | (simp only [List.length_drop, List.length_take]; rfl)) ?_; (with_reducible refine (gronx_zzIndex.calls k a0 a1 t676 _ A3.out).mono ?_); rintro e w' ⟨rfl, ⟨nd, rfl⟩⟩; refine ⟨_, rfl, ?_⟩))
 go_ret
 exact ⟨by first | rfl | (simp; done) | (simp [*]; done), by repeat (first | exact Drawn0.refl _ | apply Drawn0.step)⟩
def errors_New.f (_ : ByteArray) : Option (Option Int) := none
theorem errors_New.calls (a0 : ByteArray) (r : Option Int) (w : World) (h : errors_New.f a0 = some r) :
    Calls Tryz.prog 46 #[.string a0] w fun e w' => e = .returned (errW r) ∧ Below w.heap.size w w' := by cases h
def gronx_zzSplit.l0 : Nat → ByteArray → ByteArray → List ByteArray → Option (List ByteArray)
  | 0, _, _, _ => none
  | k + 1, x0, x1, x5 => (gronx_zzIndex.f k x0 x1).bind fun t539 => (if t539 < 0 then (if x5.length < 8796093022208 then (some (x5 ++ [x0])) else (none)) else (if 0 ≤ t539 then (if t539 ≤ (x0.size : Int) then (if x5.length < 8796093022208 then (if 0 ≤ (wrap64 (t539 + (x1.size : Int))) then (if (wrap64 (t539 + (x1.size : Int))) ≤ (x0.size : Int) then (gronx_zzSplit.l0 k (x0.extract ((wrap64 (t539 + (x1.size : Int))) : Int).toNat x0.size) x1 (x5 ++ [x0.extract 0 (t539 : Int).toNat])) else (none)) else (none)) else (none)) else (none)) else (none)))
def gronx_zzSplit.f (k : Nat) (a0 : ByteArray) (a1 : ByteArray) : Option (List ByteArray) := gronx_zzSplit.l0 k a0 a1 ([] : List ByteArray)
set_option maxHeartbeats 8000000 in
set_option maxRecDepth 100000 in
theorem gronx_zzSplit.calls (k : Nat) (a0 : ByteArray) (a1 : ByteArray) (r : List ByteArray) (w : World) (h : gronx_zzSplit.f k a0 a1 = some r) :
    Calls Tryz.prog 64 #[.string a0, .string a1] w fun e w' => ∃ v0_ : Value, e = .returned (v0_) ∧ Kd.R Kd.string 9 w' w.heap.size (fun _ => True) v0_ r ∧ Below w.heap.size w w' := by
 have HB := Aside0.mk (Below.refl w.heap.size w)
 have H : (gronx_zzSplit.l0 k a0 a1 ([] : List ByteArray)) = some r := h
 clear h
 have H' := Aside0.mk H
 clear H
 go_enter Tryz.func64, Tryz.ntmps64
 go_wp2
 go_loopg [0, 5] k (fun kq v0 v5 w' => ∃ (x0_1 : ByteArray) (x5_1 : List ByteArray), v0 = .string x0_1 ∧ Aside0 (gronx_zzSplit.l0 kq x0_1 a1 x5_1 = some r) ∧ Aside0 (kq ≤ k) ∧ Aside0 (Kd.R Kd.string 9 w' w.heap.size (fun _ => True) v5 x5_1) ∧ Aside0 (Below w.heap.size w w'))
 case atStart => exact ⟨(a0), (([] : List ByteArray)), (by first | rfl | (simp; done) | (simp [*]; done)), H', ⟨Nat.le_refl _⟩, ⟨by first | exact Kd.R_nil _ _ _ _ _ | exact Kd.N_nil _ _ _ _ _ | exact Kd.V_nil _ _ _ _ _ | exact Kd.Q_nil _ _ _ _ _ | exact Kd.S_nil _ _ _ _ _⟩, ⟨by repeat (with_reducible first | exact HB.out | apply below_alloc | apply pw_below_drewN | apply below_drew1)⟩⟩
 case round =>
  clear H'
  obtain ⟨x0_1, x5_1, rfl, HA, HK1, HO_5, HB⟩ := hrel
  cases gk with
  | zero => exact absurd HA.out (by simp [gronx_zzSplit.l0])
  | succ k1 =>
   have H := HA.out
   clear HA
   simp only [gronx_zzSplit.l0] at H
   replace H := Option.bind_eq_some_iff.mp H
   obtain ⟨t539, A30, H⟩ := H
   try dsimp only at H
   have A3 := Aside0.mk A30
   clear A30
   refine (Classical.em (t539 < 0)).elim (fun c4 => ?a1_) (fun c4 => ?b1_)
   case' a1_ =>
    rw [if_pos c4] at H
    have c4b0 : decide (t539 < 0) = true := decide_eq_true c4
    clear c4
    refine (Classical.em (x5_1.length < 8796093022208)).elim (fun c5 => ?a2_) (fun c5 => ?b2_)
   case a2_ =>
    rw [if_pos c5] at H
    have LMc5 := Aside0.mk c5
    clear c5
    obtain ⟨y540, hy540⟩ : ∃ y_ : List ByteArray, y_ = (x5_1 ++ [x0_1]) := ⟨_, rfl⟩
    replace H : (some y540) = some r := by first | (rw [hy540]; with_reducible exact H) | (have H2_ := (Option.bind_some _ _).symm.trans H; rw [hy540]; with_reducible exact H2_) | (have H2_ := (Option.bind_some _ _).symm.trans H; with_reducible exact H2_) | with_reducible exact H | (rw [hy540]; exact H) | exact H
    have Ny540 := Aside0.mk hy540
    clear hy540
    obtain rfl := Option.some.inj H
    go_wp2_with (first | ((with_reducible refine gate_callee (f := 65) rfl ?_); refine goesL_ (some 9) rfl rfl Tryz.func65 (by kernel_rfl) rfl #[.string x0_1, .string a1] rfl (by (try simp only [List.map_toArray, List.map_cons, List.map_nil]); first | done | rfl | (simp only [List.length_drop, List.length_take]; rfl)) ?_; (with_reducible refine (gronx_zzIndex.calls k1 x0_1 a1 t539 _ A3.out).mono ?_); rintro e w' ⟨rfl, ⟨nd, rfl⟩⟩; refine ⟨_, rfl, ?_⟩) | ((with_reducible refine gate_builtin (b := .append) (xs := #[.tmp 12, .tmp 14]) rfl ?_); at_builtin; refine Kd.R_append Kd.string (w0 := w) w.heap.size rfl (.tmp 12) (.tmp 14) 82 9 (.string ⟨#[]⟩) 16 rfl Tryz.underlying82 info9 rfl (by decide) (by omega) u5 x5_1 x0_1 [.string x0_1] (fun _ => True) (fun _ => False) rfl rfl ?aP (fun _ hk => hk.elim) ?aF ?aO ?aB ?aS ?aL ?_; (case aP => exact rfl); (case aB => exact (by repeat (with_reducible first | exact HB.out | apply below_alloc | apply pw_below_drewN | apply below_drew1))); (case aF => exact (fun _ _ => trivial)); (case aO => exact (by (with_reducible repeat (first | apply Kd.R_alloc | apply Kd.R_drewN | apply Kd.R_drew)); exact HO_5.out)); (case aS => exact (below_size (by repeat (with_reducible first | exact HB.out | apply below_alloc | apply pw_below_drewN | apply below_drew1)))); (case aL => have := LMc5.out; omega); intro v541 w6 ho hb hg hat; rw [← Ny540.out] at ho; have n0_ := Aside0.mk (hb); have n1_ := Aside0.mk (ho); clear HB; clear HO_5; have HB := n0_; have HO542 := n1_; clear n0_ n1_; clear ho hb hg hat))
    go_ret
    exact ⟨_, by first | rfl | (simp [errW_none, errW_some] <;> rfl) | (simp [*, errW_none, errW_some] <;> rfl), by (with_reducible repeat (first | apply Kd.R_alloc | apply Kd.R_drewN | apply Kd.R_drew)); exact HO542.out, by repeat (with_reducible first | exact HB.out | apply below_alloc | apply pw_below_drewN | apply below_drew1)⟩
   case b2_ =>
    rw [if_neg c5] at H
    exact absurd H (by simp)
   case' b1_ =>
    rw [if_neg c4] at H
    have c4b0 : decide (t539 < 0) = false := decide_eq_false c4
    clear c4
    refine (Classical.em (0 ≤ t539)).elim (fun c7 => ?a3_) (fun c7 => ?b3_)
   case' a3_ =>
    rw [if_pos c7] at H
    have c7b0 := eq_true c7
    have c7b1 : decide (0 ≤ t539) = true := decide_eq_true c7
    clear c7
    refine (Classical.em (t539 ≤ (x0_1.size : Int))).elim (fun c8 => ?a4_) (fun c8 => ?b4_)
   case' a4_ =>
    rw [if_pos c8] at H
    have c8b0 := eq_true c8
    have c8b1 : decide (t539 ≤ (x0_1.size : Int)) = true := decide_eq_true c8
    clear c8
    refine (Classical.em (x5_1.length < 8796093022208)).elim (fun c9 => ?a5_) (fun c9 => ?b5_)
   case' a5_ =>
    rw [if_pos c9] at H
    have LMc9 := Aside0.mk c9
    clear c9
    obtain ⟨y543, hy543⟩ : ∃ y_ : List ByteArray, y_ = (x5_1 ++ [x0_1.extract 0 (t539 : Int).toNat]) := ⟨_, rfl⟩
    replace H : (if 0 ≤ (wrap64 (t539 + (a1.size : Int))) then (if (wrap64 (t539 + (a1.size : Int))) ≤ (x0_1.size : Int) then (gronx_zzSplit.l0 k1 (x0_1.extract ((wrap64 (t539 + (a1.size : Int))) : Int).toNat x0_1.size) a1 y543) else (none)) else (none)) = some r := by first | (rw [hy543]; with_reducible exact H) | (have H2_ := (Option.bind_some _ _).symm.trans H; rw [hy543]; with_reducible exact H2_) | (have H2_ := (Option.bind_some _ _).symm.trans H; with_reducible exact H2_) | with_reducible exact H | (rw [hy543]; exact H) | exact H
    have Ny543 := Aside0.mk hy543
    clear hy543
    obtain ⟨ji10, hji10⟩ : ∃ j_ : Int, (wrap64 (t539 + (a1.size : Int))) = j_ := ⟨_, rfl⟩
    replace H : (if 0 ≤ (ji10) then (if (ji10) ≤ (x0_1.size : Int) then (gronx_zzSplit.l0 k1 (x0_1.extract ((ji10) : Int).toNat x0_1.size) a1 y543) else (none)) else (none)) = some r := by first | (rw [hji10] at H; exact H) | (simp only [hji10] at H ⊢; exact H)
    (try rw [hji10] at A3)
    have hji10w : (IntKind.i64.wrap (t539 + (a1.size : Int))) = ji10 := (i64_w _).trans hji10
    refine (Classical.em (0 ≤ (ji10))).elim (fun c11 => ?a6_) (fun c11 => ?b6_)
   case' a6_ =>
    rw [if_pos c11] at H
    have c11b0 := eq_true c11
    have c11b1 : decide (0 ≤ (ji10)) = true := decide_eq_true c11
    clear c11
    refine (Classical.em ((ji10) ≤ (x0_1.size : Int))).elim (fun c12 => ?a7_) (fun c12 => ?b7_)
   case a7_ =>
    rw [if_pos c12] at H
    have c12b0 := eq_true c12
    have c12b1 : decide ((ji10) ≤ (x0_1.size : Int)) = true := decide_eq_true c12
    clear c12
    have H' := Aside0.mk H
    clear H
    go_wp2_with (first | ((with_reducible refine gate_callee (f := 65) rfl ?_); refine goesL_ (some 9) rfl rfl Tryz.func65 (by kernel_rfl) rfl #[.string x0_1, .string a1] rfl (by (try simp only [List.map_toArray, List.map_cons, List.map_nil]); first | done | rfl | (simp only [List.length_drop, List.length_take]; rfl)) ?_; (with_reducible refine (gronx_zzIndex.calls k1 x0_1 a1 t539 _ A3.out).mono ?_); rintro e w' ⟨rfl, ⟨nd, rfl⟩⟩; refine ⟨_, rfl, ?_⟩) | ((with_reducible refine gate_builtin (b := .append) (xs := #[.tmp 16, .tmp 20]) rfl ?_); at_builtin; refine Kd.R_append Kd.string (w0 := w) w.heap.size rfl (.tmp 16) (.tmp 20) 82 9 (.string ⟨#[]⟩) 16 rfl Tryz.underlying82 info9 rfl (by decide) (by omega) u5 x5_1 (x0_1.extract 0 (t539 : Int).toNat) [.string (x0_1.extract 0 (t539 : Int).toNat)] (fun _ => True) (fun _ => False) rfl rfl ?aP (fun _ hk => hk.elim) ?aF ?aO ?aB ?aS ?aL ?_; (case aP => exact rfl); (case aB => exact (by repeat (with_reducible first | exact HB.out | apply below_alloc | apply pw_below_drewN | apply below_drew1))); (case aF => exact (fun _ _ => trivial)); (case aO => exact (by (with_reducible repeat (first | apply Kd.R_alloc | apply Kd.R_drewN | apply Kd.R_drew)); exact HO_5.out)); (case aS => exact (below_size (by repeat (with_reducible first | exact HB.out | apply below_alloc | apply pw_below_drewN | apply below_drew1)))); (case aL => have := LMc9.out; omega); intro v544 w13 ho hb hg hat; rw [← Ny543.out] at ho; have n0_ := Aside0.mk (hb); have n1_ := Aside0.mk (ho); clear HB; clear HO_5; have HB := n0_; have HO545 := n1_; clear n0_ n1_; clear ho hb hg hat))
    go_roundg k1
    case measure => have := HK1.out; omega
    case rel => exact ⟨(x0_1.extract ((ji10) : Int).toNat x0_1.size), (y543), (by first | rfl | (simp; done) | (simp only [← hji10] <;> (first | rfl | simp)) | (simp [*]; done)), H', ⟨by have := HK1.out; omega⟩, ⟨by (with_reducible repeat (first | apply Kd.R_alloc | apply Kd.R_drewN | apply Kd.R_drew)); exact HO545.out⟩, ⟨by repeat (with_reducible first | exact HB.out | apply below_alloc | apply pw_below_drewN | apply below_drew1)⟩⟩
   case b7_ =>
    rw [if_neg c12] at H
    exact absurd H (by simp)
   case b6_ =>
    rw [if_neg c11] at H
    exact absurd H (by simp)
   case b5_ =>
    rw [if_neg c9] at H
    exact absurd H (by simp)
   case b4_ =>
    rw [if_neg c8] at H
    exact absurd H (by simp)
   case b3_ =>
    rw [if_neg c7] at H
    exact absurd H (by simp)
def dig (c : Int) : Prop := 48 ≤ c ∧ c ≤ 57
instance (c : Int) : Decidable (dig c) := inferInstanceAs (Decidable (_ ∧ _))
def atoiVal (a0 : ByteArray) (k : Nat) : Int := if k = 0 then 0 else if k = 1 then bt a0 0 - 48 else (bt a0 0 - 48) * 10 + (bt a0 1 - 48)
theorem atoiVal_bd (a0 : ByteArray) (k : Nat) (h0 : dig (bt a0 0)) (h1 : k ≤ 1 ∨ dig (bt a0 1)) : 0 ≤ atoiVal a0 k ∧ atoiVal a0 k ≤ 99 := by
  unfold dig at *
  unfold atoiVal
  split
  · omega
  · split <;> omega
def strconv_Atoi.f (a0 : ByteArray) : Option (Int × Option Int) :=
  if a0.size = 1 ∧ dig (bt a0 0) then some (atoiVal a0 1, none) else if a0.size = 2 ∧ dig (bt a0 0) ∧ dig (bt a0 1) then some (atoiVal a0 2, none) else none
set_option maxRecDepth 100000 in
set_option maxHeartbeats 2000000 in
theorem iAtoi_calls (a0 : ByteArray) (w : World) (n : Nat) (hs : a0.size = n) (hn1 : 1 ≤ n) (hn2 : n ≤ 2) (h0 : dig (bt a0 0)) (h1 : n ≤ 1 ∨ dig (bt a0 1)) :
    Calls Tryz.prog 95 #[.string a0] w fun e w' => e = .returned (.tuple #[.int .i64 (atoiVal a0 n), .nilIface]) ∧ Below w.heap.size w w' := by
  have HB := Aside0.mk (below_alloc (bytes_below (Below.refl w.heap.size w) (Nat.le_refl _) 5 a0) (.map #[] 0))
  have hv := atoiVal_bd a0 n h0 h1
  have hv1 := atoiVal_bd a0 1 h0 (.inl (Nat.le_refl _))
  have kb := fun W => print_bytes (P := Tryz.prog) 9 163 5 Tryz.underlying9 Tryz.underlying163 Tryz.underlying5 a0 W
  have hb0 : 48 ≤ bt a0 0 := h0.1
  have hb0' : bt a0 0 ≤ 57 := h0.2
  have hc0 : ∀ W : World, (Lib.bytesWorld W 5 a0).cell? ⟨W.heap.size, 0, none⟩ = some (.int .u8 (bt a0 0)) := fun W => by
    rw [Lib.bytesWorld_cell W 5 a0 0 (by omega), ← rd_bytesOf]
    unfold rd bytesOf
    have : 0 < a0.data.toList.length := by rw [data_length]; omega
    simp [List.getD_eq_getElem?_getD, List.getElem?_eq_getElem this]
  have hc1 : 1 < n → ∀ W : World, (Lib.bytesWorld W 5 a0).cell? ⟨W.heap.size, 1, none⟩ = some (.int .u8 (bt a0 1)) := fun hn W => by
    rw [Lib.bytesWorld_cell W 5 a0 1 (by omega), ← rd_bytesOf]
    unfold rd bytesOf
    have : 1 < a0.data.toList.length := by rw [data_length]; omega
    simp [List.getD_eq_getElem?_getD, List.getElem?_eq_getElem this]
  have hsz : (1 : Int) ≤ (a0.size : Int) := by omega
  have hsz2 : (a0.size : Int) ≤ 2 := by omega
  have he45 : (bt a0 0 == 45) = false := beq_eq_false_iff_ne.mpr (by omega)
  have he43 : (bt a0 0 == 43) = false := beq_eq_false_iff_ne.mpr (by omega)
  have hbt0 : ∀ h : 0 < a0.size, ((a0[0]'h).toNat : Int) = bt a0 0 := bt_at a0 0
  have hs0 : 0 < a0.size := by omega
  have hs1 : (a0.size : Int) < 19 := by omega
  have hs2 : decide ((a0.size : Int) < 19) = true := decide_eq_true hs1
  have hs3 : decide (0 < a0.size) = true := decide_eq_true hs0
  have hs4 : decide (a0.size < 19) = true := decide_eq_true (by omega)
  have H0 := Aside0.mk h0
  have H1 := Aside0.mk h1
  have Hc1 := Aside0.mk hc1
  have Hs := Aside0.mk hs
  clear h0 h1 hc1 hs
  go_enter Tryz.func95, Tryz.ntmps95
  go_wp2
  go_loop [6, 49] (fun v6 v49 => (v6 = .int .i64 0 ∧ v49 = .int .i64 0) ∨ (v6 = .int .i64 (bt a0 0 - 48) ∧ v49 = .int .i64 1) ∨ (Aside0 (n = 2) ∧ v6 = .int .i64 ((bt a0 0 - 48) * 10 + (bt a0 1 - 48)) ∧ v49 = .int .i64 2)) (fun _ v49 => 2 - (intOf v49).toNat)
  case atStart => exact .inl ⟨rfl, rfl⟩
  case round =>
    rcases hrel with ⟨rfl, rfl⟩ | ⟨rfl, rfl⟩ | ⟨hn, rfl, rfl⟩
    · have hcc := hc0 w
      go_wp2
      go_round
      case rel => exact .inr (.inl ⟨by go_num, by go_num⟩)
      case measure => simp [intOf]
    · by_cases hn : n = 2
      · have hcc := Hc1.out (by omega) w
        have hd1 : dig (bt a0 1) := H1.out.resolve_left (by omega)
        have hb1 : 48 ≤ bt a0 1 := hd1.1
        have hb1' : bt a0 1 ≤ 57 := hd1.2
        have h1s : decide (1 < a0.size) = true := decide_eq_true (by have := Hs.out; omega)
        have h1t : decide ((1 : Int) < (a0.size : Int)) = true := decide_eq_true (by have := Hs.out; omega)
        have h1r : 1 < a0.size := by have := Hs.out; omega
        have HN := Aside0.mk hn
        clear hn hd1
        go_wp2
        go_round
        case rel => exact .inr (.inr ⟨HN, by go_num, by go_num⟩)
        case measure => simp [intOf]
      · have h1s : decide (1 < a0.size) = false := decide_eq_false (by have := Hs.out; omega)
        have h1t : decide ((1 : Int) < (a0.size : Int)) = false := decide_eq_false (by have := Hs.out; omega)
        have hn1' : n = 1 := by omega
        have e : atoiVal a0 n = bt a0 0 - 48 := by rw [hn1']; rfl
        have E := Aside0.mk e
        clear e hn hn1' hv hv1
        go_wp2
        go_ret2
        exact ⟨congrArg (fun z => Ending.returned (.tuple #[.int .i64 z, .nilIface])) E.out.symm, bytes_below (Below.refl w.heap.size w) (Nat.le_refl _) 5 a0⟩
    · have h1s : decide (2 < a0.size) = false := decide_eq_false (by omega)
      have h1t : decide ((2 : Int) < (a0.size : Int)) = false := decide_eq_false (by omega)
      have e : atoiVal a0 n = (bt a0 0 - 48) * 10 + (bt a0 1 - 48) := by rw [hn.out]; rfl
      have E := Aside0.mk e
      clear e hv hv1
      go_wp2
      go_ret2
      exact ⟨congrArg (fun z => Ending.returned (.tuple #[.int .i64 z, .nilIface])) E.out.symm, bytes_below (Below.refl w.heap.size w) (Nat.le_refl _) 5 a0⟩
set_option maxRecDepth 100000 in
set_option maxHeartbeats 2000000 in
theorem strconv_Atoi.calls (a0 : ByteArray) (r1 : Int) (r2 : Option Int) (w : World) (h : strconv_Atoi.f a0 = some (r1, r2)) :
    Calls Tryz.prog 67 #[.string a0] w fun e w' => e = .returned (.tuple #[.int .i64 r1, errW r2]) ∧ Below w.heap.size w w' := by
 have hi : ∃ n, a0.size = n ∧ 1 ≤ n ∧ n ≤ 2 ∧ dig (bt a0 0) ∧ (n ≤ 1 ∨ dig (bt a0 1)) ∧ r1 = atoiVal a0 n ∧ r2 = none := by
  unfold strconv_Atoi.f at h
  split at h
  ·
   rename_i hc
   cases h
   exact ⟨1, hc.1, by omega, by omega, hc.2, .inl (Nat.le_refl _), rfl, rfl⟩
  ·
   split at h
   ·
    rename_i hc
    cases h
    exact ⟨2, hc.1, by omega, by omega, hc.2.1, .inr hc.2.2, rfl, rfl⟩
   ·
    cases h
 clear h
 obtain ⟨n, hs, h1, h2, h3, h4, rfl, rfl⟩ := hi
 have HC := Aside0.mk (fun W => iAtoi_calls a0 W n hs h1 h2 h3 h4)
 clear hs h1 h2 h3 h4
 generalize atoiVal a0 n = r1 at *
 rw [errW_none]
 go_enter Tryz.func67, Tryz.ntmps67
 go_wp2_with (go_at_call 95; refine (HC.out _).mono ?_; rintro e w1 ⟨rfl, hb⟩)
 go_ret2
 exact ⟨rfl, by assumption⟩
end Go.Proofs.YtjpcdkhapeejjaaGreatDoor.A
