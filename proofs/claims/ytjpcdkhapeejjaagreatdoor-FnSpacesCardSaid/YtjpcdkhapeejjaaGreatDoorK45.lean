/- Steps of the proof of the law: contracts of functions of the given program, and plain lemmas about what they compute.
Conditions: none beyond those that each theorem names. -/
import Derived.Test.YtjpcdkhapeejjaaGreatDoorK26
set_option linter.unusedVariables false
set_option linter.unusedSimpArgs false
open Go.RowKit Go.Proofs.YtjpcdkhapeejjaaGreatDoorW.PrintWords Go.Proofs.YtjpcdkhapeejjaaGreatDoorW.PrintLast Go.Proofs.YtjpcdkhapeejjaaGreatDoorW.PrintMore
namespace Go.Proofs.YtjpcdkhapeejjaaGreatDoor.A
/-- A moment's block, of either type. -/
abbrev mt (t : TypeId) (y m d h mi se : Int) : Obj := .cells #[.int .i64 y, .int .i64 m, .int .i64 d, .int .i64 h, .int .i64 mi, .int .i64 se] t (0, 0)
/-- A box of an expression. -/
abbrev et (t : TypeId) (A : Option Addr) (n c : Nat) (s : Bool) : Obj := .cells #[.slice A n c, .bool s] t (0, 0)
theorem mt_cells {W : World} {g : Nat} {t : TypeId} {y m d h mi se : Int} (hg : W.heap[g]? = some (mt t y m d h mi se)) : W.cell? ⟨g, 0, none⟩ = some (.int .i64 y) ∧ W.cell? ⟨g, 1, none⟩ = some (.int .i64 m) ∧ W.cell? ⟨g, 2, none⟩ = some (.int .i64 d) ∧ W.cell? ⟨g, 3, none⟩ = some (.int .i64 h) ∧ W.cell? ⟨g, 4, none⟩ = some (.int .i64 mi) ∧ W.cell? ⟨g, 5, none⟩ = some (.int .i64 se) :=
  ⟨blk_cell hg 0, blk_cell hg 1, blk_cell hg 2, blk_cell hg 3, blk_cell hg 4, blk_cell hg 5⟩
theorem et_cells {W : World} {g : Nat} {t : TypeId} {A : Option Addr} {n c : Nat} {s : Bool} (hg : W.heap[g]? = some (et t A n c s)) : W.cell? ⟨g, 0, none⟩ = some (.slice A n c) ∧ W.cell? ⟨g, 1, none⟩ = some (.bool s) := ⟨blk_cell hg 0, blk_cell hg 1⟩
theorem mt_frozen {W : World} {g : Nat} {t : TypeId} {y m d h mi se : Int} (hg : W.heap[g]? = some (mt t y m d h mi se)) : W.frozen? ⟨g, 0, none⟩ = false ∧ W.frozen? ⟨g, 1, none⟩ = false ∧ W.frozen? ⟨g, 2, none⟩ = false ∧ W.frozen? ⟨g, 3, none⟩ = false ∧ W.frozen? ⟨g, 4, none⟩ = false ∧ W.frozen? ⟨g, 5, none⟩ = false :=
  ⟨blk_frozen hg 0, blk_frozen hg 1, blk_frozen hg 2, blk_frozen hg 3, blk_frozen hg 4, blk_frozen hg 5⟩
theorem Mem.set6 {w W : World} {L : List (Nat × Obj)} (h : Mem w L W) (i : Nat) {g : Nat} {t : TypeId} {y m d q mi se : Int} (e : L[i]? = some (g, mt t y m d q mi se)) (a b c x u v : Int) :
    Mem w (L.set i (g, mt t a b c x u v)) ((((((W.setCell ⟨g, 0, none⟩ (.int .i64 a)).setCell ⟨g, 1, none⟩ (.int .i64 b)).setCell ⟨g, 2, none⟩ (.int .i64 c)).setCell ⟨g, 3, none⟩ (.int .i64 x)).setCell ⟨g, 4, none⟩ (.int .i64 u)).setCell ⟨g, 5, none⟩ (.int .i64 v)) := by
  have hi : i < L.length := (List.getElem?_eq_some_iff.1 e).1
  have st : ∀ {L' : List (Nat × Obj)} {W' : World} {cs : Array Value}, L'.length = L.length → Mem w L' W' → L'[i]? = some (g, .cells cs t (0, 0)) → ∀ j (z : Value), Mem w (L'.set i (g, .cells (cs.setIfInBounds j z) t (0, 0))) (W'.setCell ⟨g, j, none⟩ z) ∧ (L'.set i (g, .cells (cs.setIfInBounds j z) t (0, 0))).length = L.length ∧ (L'.set i (g, .cells (cs.setIfInBounds j z) t (0, 0)))[i]? = some (g, .cells (cs.setIfInBounds j z) t (0, 0)) := by
    intro L' W' cs hl hm he j z
    refine ⟨hm.set i he j z, by rw [List.length_set, hl], ?_⟩
    rw [List.getElem?_set, if_pos rfl, if_pos (by rw [hl]; exact hi)]
  obtain ⟨m0, l0, e0⟩ := st rfl h e 0 (.int .i64 a)
  obtain ⟨m1, l1, e1⟩ := st l0 m0 e0 1 (.int .i64 b)
  obtain ⟨m2, l2, e2⟩ := st l1 m1 e1 2 (.int .i64 c)
  obtain ⟨m3, l3, e3⟩ := st l2 m2 e2 3 (.int .i64 x)
  obtain ⟨m4, l4, e4⟩ := st l3 m3 e3 4 (.int .i64 u)
  obtain ⟨m5, l5, e5⟩ := st l4 m4 e4 5 (.int .i64 v)
  simp only [List.set_set] at m5
  exact m5
theorem Mem.newD {w W : World} {L : List (Nat × Obj)} (h : Mem w L W) (o : Obj) : Mem w ((W.heap.size, o) :: L) (W.drew.alloc o) := h.drew.new o
theorem Mem.put6 {w W : World} {L : List (Nat × Obj)} {g : Nat} {t : TypeId} {y m d r mi se : Int} (h : Mem w ((g, mt t y m d r mi se) :: L) W) (a b c x u v : Int) :
    Mem w ((g, mt t a b c x u v) :: L) ((((((W.setCell ⟨g, 0, none⟩ (.int .i64 a)).setCell ⟨g, 1, none⟩ (.int .i64 b)).setCell ⟨g, 2, none⟩ (.int .i64 c)).setCell ⟨g, 3, none⟩ (.int .i64 x)).setCell ⟨g, 4, none⟩ (.int .i64 u)).setCell ⟨g, 5, none⟩ (.int .i64 v)) := h.set6 0 rfl a b c x u v
mutual
def spec_InDay.l0 : Nat → Bool → Int → List (List (S54)) → Bool → Option (Int)
  | 0, _, _, _, _ => none
  | k + 1, x2, x7, x170000, x170001 => if x7 ≥ 0 then (spec_InDay.j1 k x2 x7 (decide (x7 < 86400)) x170000 x170001) else (spec_InDay.j1 k x2 x7 false x170000 x170001)
def spec_InDay.j1 : Nat → Bool → Int → Bool → List (List (S54)) → Bool → Option (Int)
  | 0, _, _, _, _, _ => none
  | k + 1, x2, x7, x16, x170000, x170001 => if x16 = true then (if 2 < (x170000.length : Int) then ((spec_Has.f k 2 (rd_L5 x170000 2) (wrap64 (Int.tdiv x7 3600))).bind fun t171 => (if t171 = true then (if 1 < (x170000.length : Int) then ((spec_Has.f k 1 (rd_L5 x170000 1) (Int.tmod (wrap64 (Int.tdiv x7 60)) 60)).bind fun t173 => (if t173 = true then (if 0 < (x170000.length : Int) then ((spec_Has.f k 0 (rd_L5 x170000 0) (Int.tmod x7 60)).bind fun t175 => (if t175 = true then (some x7) else (if x2 = true then (spec_InDay.l0 k x2 (wrap64 (x7 - 1)) x170000 x170001) else (spec_InDay.l0 k x2 (wrap64 (x7 + 1)) x170000 x170001)))) else (none)) else (if x2 = true then (spec_InDay.l0 k x2 (wrap64 ((wrap64 ((wrap64 ((wrap64 (Int.tdiv x7 3600)) * 3600)) + (wrap64 ((Int.tmod (wrap64 (Int.tdiv x7 60)) 60) * 60)))) - 1)) x170000 x170001) else (spec_InDay.l0 k x2 (wrap64 ((wrap64 ((wrap64 (Int.tdiv x7 3600)) * 3600)) + (wrap64 ((wrap64 ((Int.tmod (wrap64 (Int.tdiv x7 60)) 60) + 1)) * 60)))) x170000 x170001)))) else (none)) else (if x2 = true then (spec_InDay.l0 k x2 (wrap64 ((wrap64 ((wrap64 (Int.tdiv x7 3600)) * 3600)) - 1)) x170000 x170001) else (spec_InDay.l0 k x2 (wrap64 ((wrap64 ((wrap64 (Int.tdiv x7 3600)) + 1)) * 3600)) x170000 x170001)))) else (none)) else (some (-1))
end
def spec_InDay.f (k : Nat) (l0_0 : List (List (S54))) (a0_1 : Bool) (a1 : Int) (a2 : Bool) : Option (Int) := spec_InDay.l0 k a2 a1 l0_0 a0_1
set_option maxHeartbeats 8000000 in
set_option maxRecDepth 100000 in
theorem spec_InDay.calls (k : Nat) (A0_0 : Option Addr) (c0_0 : Nat) (l0_0 : List (List (S54))) (a0_1 : Bool) (a1 : Int) (a2 : Bool) (r : Int) (w : World) (hr0_0 : Kd.C (Kd.slice 54 k54) w A0_0 l0_0.length l0_0) (hc0_0 : l0_0.length ≤ c0_0) (h : spec_InDay.f k l0_0 a0_1 a1 a2 = some r) :
    Calls Tryz.prog 28 #[.agg #[.slice A0_0 l0_0.length c0_0, .bool a0_1], .int .i64 a1, .bool a2] w fun e w' => e = .returned (.int .i64 r) ∧ Below w.heap.size w w' := by
  have hu30 := Tryz.underlying30
  have H' := Aside0.mk (show spec_InDay.l0 k a2 a1 l0_0 a0_1 = some r from h)
  have HM := Aside0.mk ((Mem.start w).new (et 30 A0_0 l0_0.length c0_0 a0_1))
  clear h
  go_enter Tryz.func28, Tryz.ntmps28
  go_wp2
  go_loopg [7] k (fun kq v7 w' => ∃ x : Int, v7 = .int .i64 x ∧ Aside0 (spec_InDay.l0 kq a2 x l0_0 a0_1 = some r) ∧ Aside0 (kq ≤ k) ∧ Aside0 (Mem w [(w.heap.size, et 30 A0_0 l0_0.length c0_0 a0_1)] w'))
  case atStart => exact ⟨a1, rfl, H', ⟨Nat.le_refl _⟩, HM⟩
  case round =>
    clear H' HM
    obtain ⟨x, rfl, HA, HK, HM⟩ := hrel
    have k0 := (et_cells (HM.out.at_ 0 rfl)).1
    rcases gk with _ | _ | k2
    · exact absurd HA.out (by simp [spec_InDay.l0])
    · exact absurd HA.out (by simp [spec_InDay.l0, spec_InDay.j1])
    have H := HA.out
    clear HA
    have D : (decide (0 ≤ x) = false ∧ r = -1) ∨ (decide (0 ≤ x) = true ∧ decide (x < 86400) = false ∧ r = -1) ∨ (decide (0 ≤ x) = true ∧ decide (x < 86400) = true ∧ spec_InDay.j1 (k2 + 1) a2 x true l0_0 a0_1 = some r) := by
      rw [spec_InDay.l0] at H
      by_cases c1 : x ≥ 0
      · rw [if_pos c1] at H
        by_cases c2 : x < 86400
        · rw [decide_eq_true c2] at H
          exact .inr (.inr ⟨decide_eq_true c1, decide_eq_true c2, H⟩)
        · rw [decide_eq_false c2, spec_InDay.j1, if_neg (by simp)] at H
          exact .inr (.inl ⟨decide_eq_true c1, decide_eq_false c2, (Option.some.inj H).symm⟩)
      · rw [if_neg c1, spec_InDay.j1, if_neg (by simp)] at H
        exact .inl ⟨decide_eq_false c1, (Option.some.inj H).symm⟩
    clear H
    rcases D with ⟨d1, rfl⟩ | ⟨d1, d2, rfl⟩ | ⟨d1, d2, H⟩
    · go_wp2
      go_ret
      exact ⟨rfl, HM.out.below⟩
    · go_wp2
      go_ret
      exact ⟨rfl, HM.out.below⟩
    rw [spec_InDay.j1, if_pos rfl] at H
    by_cases c3 : 2 < (l0_0.length : Int)
    case neg => rw [if_neg c3] at H; cases H
    have c2 : 1 < (l0_0.length : Int) := by omega
    have c1 : 0 < (l0_0.length : Int) := by omega
    rw [if_pos c3] at H
    obtain ⟨ad, B2, d2', e, x2, l2, r2⟩ := at_L5 hr0_0 2 (by omega) c3
    obtain ⟨ad', B1, d1', e', x1, l1, r1⟩ := at_L5 hr0_0 1 (by omega) c2
    obtain ⟨ad'', B0, d0', e'', x0, l0, r0⟩ := at_L5 hr0_0 0 (by omega) c1
    cases e
    cases e'
    cases e''
    have q3 : (2 < l0_0.length) = True := eq_true (by omega)
    have q2 : (1 < l0_0.length) = True := eq_true (by omega)
    have q1 : (0 < l0_0.length) = True := eq_true (by omega)
    have X := Aside0.mk fun (W : World) (hb : Below w.heap.size w W) => (⟨(hb.cell (World.block_lt_of_cell? w _ x2)).trans x2, (hb.cell (World.block_lt_of_cell? w _ x1)).trans x1, (hb.cell (World.block_lt_of_cell? w _ x0)).trans x0⟩ : W.cell? ⟨ad.block, ad.off + 2, none⟩ = some (.slice B2 (rd_L5 l0_0 2).length d2') ∧ W.cell? ⟨ad.block, ad.off + 1, none⟩ = some (.slice B1 (rd_L5 l0_0 1).length d1') ∧ W.cell? ad = some (.slice B0 (rd_L5 l0_0 0).length d0'))
    obtain ⟨y2, y1, y0⟩ := X.out _ HM.out.below
    replace H := Option.bind_eq_some_iff.mp H
    obtain ⟨t2, A2, H⟩ := H
    have C2 := Aside0.mk fun (W : World) (hb : Below w.heap.size w W) => spec_Has.calls k2 2 B2 d2' (rd_L5 l0_0 2) (wrap64 (Int.tdiv x 3600)) t2 W (Kd.C_below r2 hb) l2 A2
    clear A2
    cases t2 with
    | false =>
      rw [if_neg (by simp)] at H
      cases a2
      all_goals
        go_wp2_with (first | (go_at_call 41; (with_reducible refine Calls.mono (C2.out _ HM.out.below) ?_); rintro e wd ⟨rfl, hb⟩; have HN := Aside0.mk (HM.out.step hb); clear HM hb y0 y1 y2 k0; have HM := HN; clear HN; have k0 := (et_cells (HM.out.at_ 0 rfl)).1; obtain ⟨y2, y1, y0⟩ := X.out _ HM.out.below))
        go_roundg k2
        case measure => omega
        case rel => exact ⟨_, rfl, ⟨H⟩, ⟨by have := HK.out; omega⟩, HM⟩
    | true =>
    rw [if_pos rfl, if_pos c2] at H
    replace H := Option.bind_eq_some_iff.mp H
    obtain ⟨t1, A1, H⟩ := H
    have C1 := Aside0.mk fun (W : World) (hb : Below w.heap.size w W) => spec_Has.calls k2 1 B1 d1' (rd_L5 l0_0 1) (Int.tmod (wrap64 (Int.tdiv x 60)) 60) t1 W (Kd.C_below r1 hb) l1 A1
    clear A1
    cases t1 with
    | false =>
      rw [if_neg (by simp)] at H
      cases a2
      all_goals
        go_wp2_with (first | (go_at_call 41; (with_reducible refine Calls.mono (C2.out _ HM.out.below) ?_); rintro e wd ⟨rfl, hb⟩; have HN := Aside0.mk (HM.out.step hb); clear HM hb y0 y1 y2 k0; have HM := HN; clear HN; have k0 := (et_cells (HM.out.at_ 0 rfl)).1; obtain ⟨y2, y1, y0⟩ := X.out _ HM.out.below) | (go_at_call 41; (with_reducible refine Calls.mono (C1.out _ HM.out.below) ?_); rintro e wd ⟨rfl, hb⟩; have HN := Aside0.mk (HM.out.step hb); clear HM hb y0 y1 y2 k0; have HM := HN; clear HN; have k0 := (et_cells (HM.out.at_ 0 rfl)).1; obtain ⟨y2, y1, y0⟩ := X.out _ HM.out.below))
        go_roundg k2
        case measure => omega
        case rel => exact ⟨_, rfl, ⟨H⟩, ⟨by have := HK.out; omega⟩, HM⟩
    | true =>
    rw [if_pos rfl, if_pos c1] at H
    replace H := Option.bind_eq_some_iff.mp H
    obtain ⟨t0, A0, H⟩ := H
    have C0 := Aside0.mk fun (W : World) (hb : Below w.heap.size w W) => spec_Has.calls k2 0 B0 d0' (rd_L5 l0_0 0) (Int.tmod x 60) t0 W (Kd.C_below r0 hb) l0 A0
    clear A0
    cases t0 with
    | false =>
      rw [if_neg (by simp)] at H
      cases a2
      all_goals
        go_wp2_with (first | (go_at_call 41; (with_reducible refine Calls.mono (C2.out _ HM.out.below) ?_); rintro e wd ⟨rfl, hb⟩; have HN := Aside0.mk (HM.out.step hb); clear HM hb y0 y1 y2 k0; have HM := HN; clear HN; have k0 := (et_cells (HM.out.at_ 0 rfl)).1; obtain ⟨y2, y1, y0⟩ := X.out _ HM.out.below) | (go_at_call 41; (with_reducible refine Calls.mono (C1.out _ HM.out.below) ?_); rintro e wd ⟨rfl, hb⟩; have HN := Aside0.mk (HM.out.step hb); clear HM hb y0 y1 y2 k0; have HM := HN; clear HN; have k0 := (et_cells (HM.out.at_ 0 rfl)).1; obtain ⟨y2, y1, y0⟩ := X.out _ HM.out.below) | (go_at_call 41; (with_reducible refine Calls.mono (C0.out _ HM.out.below) ?_); rintro e wd ⟨rfl, hb⟩; have HN := Aside0.mk (HM.out.step hb); clear HM hb y0 y1 y2 k0; have HM := HN; clear HN; have k0 := (et_cells (HM.out.at_ 0 rfl)).1; obtain ⟨y2, y1, y0⟩ := X.out _ HM.out.below))
        go_roundg k2
        case measure => omega
        case rel => exact ⟨_, rfl, ⟨H⟩, ⟨by have := HK.out; omega⟩, HM⟩
    | true =>
      obtain rfl := Option.some.inj H
      clear H
      go_wp2_with (first | (go_at_call 41; (with_reducible refine Calls.mono (C2.out _ HM.out.below) ?_); rintro e wd ⟨rfl, hb⟩; have HN := Aside0.mk (HM.out.step hb); clear HM hb y0 y1 y2 k0; have HM := HN; clear HN; have k0 := (et_cells (HM.out.at_ 0 rfl)).1; obtain ⟨y2, y1, y0⟩ := X.out _ HM.out.below) | (go_at_call 41; (with_reducible refine Calls.mono (C1.out _ HM.out.below) ?_); rintro e wd ⟨rfl, hb⟩; have HN := Aside0.mk (HM.out.step hb); clear HM hb y0 y1 y2 k0; have HM := HN; clear HN; have k0 := (et_cells (HM.out.at_ 0 rfl)).1; obtain ⟨y2, y1, y0⟩ := X.out _ HM.out.below) | (go_at_call 41; (with_reducible refine Calls.mono (C0.out _ HM.out.below) ?_); rintro e wd ⟨rfl, hb⟩; have HN := Aside0.mk (HM.out.step hb); clear HM hb y0 y1 y2 k0; have HM := HN; clear HN; have k0 := (et_cells (HM.out.at_ 0 rfl)).1; obtain ⟨y2, y1, y0⟩ := X.out _ HM.out.below))
      go_ret
      exact ⟨rfl, HM.out.below⟩
end Go.Proofs.YtjpcdkhapeejjaaGreatDoor.A
