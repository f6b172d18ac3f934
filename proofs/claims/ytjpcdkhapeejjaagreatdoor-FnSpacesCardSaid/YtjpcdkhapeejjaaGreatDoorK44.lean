/- Steps of the proof of the law: contracts of functions of the given program, and plain lemmas about what they compute.
Conditions: none beyond those that each theorem names. -/
import Derived.Test.YtjpcdkhapeejjaaGreatDoorK26
import Derived.Test.YtjpcdkhapeejjaaGreatDoorKA
set_option linter.unusedVariables false
set_option linter.unusedSimpArgs false
open Go.RowKit Go.Proofs.YtjpcdkhapeejjaaGreatDoorW.PrintWords Go.Proofs.YtjpcdkhapeejjaaGreatDoorW.PrintLast Go.Proofs.YtjpcdkhapeejjaaGreatDoorW.PrintMore
namespace Go.Proofs.YtjpcdkhapeejjaaGreatDoor.A
def spec_DayFits.f (k : Nat) (l0_0 : List (List (S54))) (a0_1 : Bool) (a1_0 : Int) (a1_1 : Int) (a1_2 : Int) (a1_3 : Int) (a1_4 : Int) (a1_5 : Int) : Option (Bool) := if 3 < (l0_0.length : Int) then ((spec_Has.f k 3 (rd_L5 l0_0 3) a1_2).bind fun t163 => (if t163 = true then (if 4 < (l0_0.length : Int) then ((spec_Has.f k 4 (rd_L5 l0_0 4) a1_1).bind fun t165 => (if t165 = true then (if 5 < (l0_0.length : Int) then ((spec_Weekday.f k a1_0 a1_1 a1_2).bind fun t167 => ((spec_Has.f k 5 (rd_L5 l0_0 5) t167).bind fun t168 => (some t168))) else (none)) else (some false))) else (none)) else (some false))) else (none)
/-- The two arguments' boxes. -/
def eB (g : Nat) (A : Option Addr) (n c : Nat) (s : Bool) : Nat × Obj := (g, .cells #[.slice A n c, .bool s] 30 (0, 0))
def mB (g : Nat) (y m d h mi se : Int) : Nat × Obj := (g, .cells #[.int .i64 y, .int .i64 m, .int .i64 d, .int .i64 h, .int .i64 mi, .int .i64 se] 33 (0, 0))
set_option maxHeartbeats 8000000 in
set_option maxRecDepth 100000 in
theorem spec_DayFits.calls (k : Nat) (A0_0 : Option Addr) (c0_0 : Nat) (l0_0 : List (List (S54))) (a0_1 : Bool) (a1_0 : Int) (a1_1 : Int) (a1_2 : Int) (a1_3 : Int) (a1_4 : Int) (a1_5 : Int) (r : Bool) (w : World) (hr0_0 : Kd.C (Kd.slice 54 k54) w A0_0 l0_0.length l0_0) (hc0_0 : l0_0.length ≤ c0_0) (h : spec_DayFits.f k l0_0 a0_1 a1_0 a1_1 a1_2 a1_3 a1_4 a1_5 = some r) :
    Calls Tryz.prog 27 #[.agg #[.slice A0_0 l0_0.length c0_0, .bool a0_1], .agg #[.int .i64 a1_0, .int .i64 a1_1, .int .i64 a1_2, .int .i64 a1_3, .int .i64 a1_4, .int .i64 a1_5]] w fun e w' => e = .returned (.bool r) ∧ Below w.heap.size w w' := by
  have hu30 := Tryz.underlying30
  have hu33 := Tryz.underlying33
  unfold spec_DayFits.f at h
  by_cases c3 : 3 < (l0_0.length : Int)
  case neg => rw [if_neg c3] at h; cases h
  rw [if_pos c3] at h
  obtain ⟨t1, A1, h⟩ := Option.bind_eq_some_iff.mp h
  obtain ⟨ad, B3, d3, e, x3, l3, r3⟩ := at_L5 hr0_0 3 (by omega) c3
  cases e
  have X3 := Aside0.mk fun (W : World) (hm : Mem w [mB (w.heap.size + 1) a1_0 a1_1 a1_2 a1_3 a1_4 a1_5, eB w.heap.size (some ad) l0_0.length c0_0 a0_1] W) => (⟨blk_cell (hm.at_ 1 rfl) 0, blk_cell (hm.at_ 0 rfl) 0, blk_cell (hm.at_ 0 rfl) 1, blk_cell (hm.at_ 0 rfl) 2, (hm.below.cell (World.block_lt_of_cell? w _ x3)).trans x3⟩ : W.cell? ⟨w.heap.size, 0, none⟩ = some (.slice (some ad) l0_0.length c0_0) ∧ W.cell? ⟨w.heap.size + 1, 0, none⟩ = some (.int .i64 a1_0) ∧ W.cell? ⟨w.heap.size + 1, 1, none⟩ = some (.int .i64 a1_1) ∧ W.cell? ⟨w.heap.size + 1, 2, none⟩ = some (.int .i64 a1_2) ∧ W.cell? ⟨ad.block, ad.off + 3, none⟩ = some (.slice B3 (rd_L5 l0_0 3).length d3))
  have C1 := Aside0.mk fun (W : World) (hb : Below w.heap.size w W) => spec_Has.calls k 3 B3 d3 (rd_L5 l0_0 3) a1_2 t1 W (Kd.C_below r3 hb) l3 A1
  have HM := Aside0.mk (((Mem.start w).new (eB w.heap.size (some ad) l0_0.length c0_0 a0_1).2).new (mB (w.heap.size + 1) a1_0 a1_1 a1_2 a1_3 a1_4 a1_5).2)
  rw [World.size_alloc] at HM
  clear A1 l3 r3 x3
  have q3 : (3 < l0_0.length) = True := eq_true (by omega)
  have q4 : t1 = true → (4 : Int) < (l0_0.length : Int) ∧ (4 < l0_0.length) = True ∧ ∃ (B4 : Option Addr) (d4 : Nat) (t2 : Bool), (∀ W, Below w.heap.size w W → W.cell? ⟨ad.block, ad.off + 4, none⟩ = some (.slice B4 (rd_L5 l0_0 4).length d4)) ∧ (∀ W, Below w.heap.size w W → Calls Tryz.prog 41 #[.int .i64 4, .slice B4 (rd_L5 l0_0 4).length d4, .int .i64 a1_1] W fun e w' => e = .returned (.bool t2) ∧ Below W.heap.size W w') ∧
      (t2 = false → r = false) ∧ (t2 = true → (5 : Int) < (l0_0.length : Int) ∧ (5 < l0_0.length) = True ∧ ∃ (B5 : Option Addr) (d5 : Nat) (wd : Int), (∀ W, Below w.heap.size w W → W.cell? ⟨ad.block, ad.off + 5, none⟩ = some (.slice B5 (rd_L5 l0_0 5).length d5)) ∧ (∀ W, Calls Tryz.prog 42 #[.int .i64 a1_0, .int .i64 a1_1, .int .i64 a1_2] W fun e w' => e = .returned (.int .i64 wd) ∧ Below W.heap.size W w') ∧ (∀ W, Below w.heap.size w W → Calls Tryz.prog 41 #[.int .i64 5, .slice B5 (rd_L5 l0_0 5).length d5, .int .i64 wd] W fun e w' => e = .returned (.bool r) ∧ Below W.heap.size W w')) := by
    rintro rfl
    rw [if_pos rfl] at h
    by_cases c4 : 4 < (l0_0.length : Int)
    case neg => rw [if_neg c4] at h; cases h
    rw [if_pos c4] at h
    obtain ⟨t2, A2, h⟩ := Option.bind_eq_some_iff.mp h
    obtain ⟨ad4, B4, d4, e, x4, l4, r4⟩ := at_L5 hr0_0 4 (by omega) c4
    cases e
    refine ⟨c4, eq_true (by omega), B4, d4, t2, fun W hb => (hb.cell (World.block_lt_of_cell? w _ x4)).trans x4, fun W hb => spec_Has.calls k 4 B4 d4 (rd_L5 l0_0 4) a1_1 t2 W (Kd.C_below r4 hb) l4 A2, ?_, ?_⟩
    · rintro rfl
      exact (Option.some.inj h).symm
    · rintro rfl
      rw [if_pos rfl] at h
      by_cases c5 : 5 < (l0_0.length : Int)
      case neg => rw [if_neg c5] at h; cases h
      rw [if_pos c5] at h
      obtain ⟨wd, A3, h⟩ := Option.bind_eq_some_iff.mp h
      obtain ⟨t3, A4, h⟩ := Option.bind_eq_some_iff.mp h
      obtain rfl := Option.some.inj h
      obtain ⟨ad5, B5, d5, e, x5, l5, r5⟩ := at_L5 hr0_0 5 (by omega) c5
      cases e
      exact ⟨c5, eq_true (by omega), B5, d5, wd, fun W hb => (hb.cell (World.block_lt_of_cell? w _ x5)).trans x5, fun W => (spec_Weekday.calls k a1_0 a1_1 a1_2 wd W A3).mono fun _ _ ⟨he, hd⟩ => ⟨he, hd.below⟩, fun W hb => spec_Has.calls k 5 B5 d5 (rd_L5 l0_0 5) wd t3 W (Kd.C_below r5 hb) l5 A4⟩
  have q0 : t1 = false → r = false := by rintro rfl; exact (Option.some.inj h).symm
  clear h hr0_0 hc0_0
  rcases t1 with _ | _
  case' false => obtain rfl := q0 rfl
  case' true =>
    obtain ⟨c4, q4, B4, d4, t2, x4, C2, q0, q5⟩ := q4 rfl
    have X4 := Aside0.mk x4
    have C2 := Aside0.mk C2
    rcases t2 with _ | _
    case' false => obtain rfl := q0 rfl
    case' true =>
      obtain ⟨c5, q5, B5, d5, wd, x5, CW, C3⟩ := q5 rfl
      have X5 := Aside0.mk x5
      have CW := Aside0.mk CW
      have C3 := Aside0.mk C3
  all_goals
    (try clear q0)
    (try clear x4)
    (try clear x5)
    go_enter Tryz.func27, Tryz.ntmps27
    go_upto_region 1 with fail
    refine up_start (n := 31) (S := Mem w [mB (w.heap.size + 1) a1_0 a1_1 a1_2 a1_3 a1_4 a1_5, eB w.heap.size (some ad) l0_0.length c0_0 a0_1]) (by kernel_rfl) rfl HM.out.drew (fun hHeld => ?_)
    clear HM
    repeat (first
      | (refine next_ (v := undef) rfl (by decide +kernel) (fun _ _ _ h => h) (Or.inr ⟨wan2 rfl rfl rfl rfl, rfl⟩) (by assumption) ?_; simp only [Act.put, List.setIfInBounds_toArray, List.set_cons_zero, List.set_cons_succ, Nat.reduceAdd, List.getElem_toArray, List.getElem_cons_zero, List.getElem_cons_succ])
      | (refine nextc_ (v := ?_) rfl (by decide +kernel) (fun _ _ _ h => h) (Or.inl ⟨by first | exact wan0 rfl | exact wan1 rfl rfl rfl, ?hy⟩) (by assumption) ?_; (case hy => intro W hS; have k3 := X3.out W hS; (try have k4 := X4.out W hS.below); (try have k5 := X5.out W hS.below); go_simp; with_reducible rfl); simp only [Act.put, List.setIfInBounds_toArray, List.set_cons_zero, List.set_cons_succ, Nat.reduceAdd, List.getElem_toArray, List.getElem_cons_zero, List.getElem_cons_succ])
      | (refine only_ rfl (by decide +kernel) (by first | exact wan0 rfl | exact wan1 rfl rfl rfl) (fun K hK => ?_); go_simp; (first | with_reducible refine Calls.mono (C1.out _ hHeld.below) ?_ | with_reducible refine Calls.mono (C2.out _ hHeld.below) ?_ | with_reducible refine Calls.mono (CW.out _) ?_ | with_reducible refine Calls.mono (C3.out _ hHeld.below) ?_); rintro e wz ⟨rfl, hb⟩; refine hK.out _ _ (hHeld.step hb) (fun hN => ?_); clear hHeld hK K hb; have hHeld := hN; clear hN; simp only [Act.put, List.setIfInBounds_toArray, List.set_cons_zero, List.set_cons_succ, Nat.reduceAdd, List.getElem_toArray, List.getElem_cons_zero, List.getElem_cons_succ]))
    refine all_up (by decide +kernel) ?_
    go_wp2
    go_ret
    exact ⟨rfl, hHeld.below⟩
end Go.Proofs.YtjpcdkhapeejjaaGreatDoor.A
