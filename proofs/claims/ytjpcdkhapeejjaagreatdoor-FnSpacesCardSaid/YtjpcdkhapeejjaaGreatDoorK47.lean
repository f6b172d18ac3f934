/- Steps of the proof of the law: contracts of functions of the given program, and plain lemmas about what they compute.
Conditions: none beyond those that each theorem names. -/
import Derived.Test.YtjpcdkhapeejjaaGreatDoorK43
import Derived.Test.YtjpcdkhapeejjaaGreatDoorK44
import Derived.Test.YtjpcdkhapeejjaaGreatDoorK45
set_option linter.unusedVariables false
set_option linter.unusedSimpArgs false
open Go.RowKit Go.Proofs.YtjpcdkhapeejjaaGreatDoorW.PrintWords Go.Proofs.YtjpcdkhapeejjaaGreatDoorW.PrintLast Go.Proofs.YtjpcdkhapeejjaaGreatDoorW.PrintMore
namespace Go.Proofs.YtjpcdkhapeejjaaGreatDoor.A
mutual
def spec_Next.j0 : Nat → Int → List (List (S54)) → Bool → Int → Int → Int → Int → Int → Int → Option (Int × Int × Int × Int × Int × Int × Bool)
  | 0, _, _, _, _, _, _, _, _, _ => none
  | k + 1, x8, x177000, x177001, x178000, x178001, x178002, x178003, x178004, x178005 => spec_Next.l0 k x8 0 x177000 x177001 x178000 x178001 x178002 x178003 x178004 x178005
def spec_Next.l0 : Nat → Int → Int → List (List (S54)) → Bool → Int → Int → Int → Int → Int → Int → Option (Int × Int × Int × Int × Int × Int × Bool)
  | 0, _, _, _, _, _, _, _, _, _, _ => none
  | k + 1, x8, x16, x177000, x177001, x178000, x178001, x178002, x178003, x178004, x178005 => if x16 < 800 then (if x8 < 86400 then ((spec_DayFits.f k x177000 x177001 x178000 x178001 x178002 x178003 x178004 x178005).bind fun t180 => (spec_Next.j2 k x8 x16 t180 x177000 x177001 x178000 x178001 x178002 x178003 x178004 x178005)) else (spec_Next.j2 k x8 x16 false x177000 x177001 x178000 x178001 x178002 x178003 x178004 x178005)) else (some (0, 0, 0, 0, 0, 0, false))
def spec_Next.j2 : Nat → Int → Int → Bool → List (List (S54)) → Bool → Int → Int → Int → Int → Int → Int → Option (Int × Int × Int × Int × Int × Int × Bool)
  | 0, _, _, _, _, _, _, _, _, _, _, _ => none
  | k + 1, x8, x16, x24, x177000, x177001, x178000, x178001, x178002, x178003, x178004, x178005 => if x24 = true then ((spec_InDay.f k x177000 x177001 x8 false).bind fun t181 => (if t181 ≥ 0 then ((spec_At.f x178000 x178001 x178002 x178003 x178004 x178005 t181).bind fun bt182 => (some (bt182.1, bt182.2.1, bt182.2.2.1, bt182.2.2.2.1, bt182.2.2.2.2.1, bt182.2.2.2.2.2, true))) else ((spec_DayNext.f x178000 x178001 x178002 x178003 x178004 x178005).bind fun bt188 => (spec_Next.l0 k 0 (wrap64 (x16 + 1)) x177000 x177001 bt188.1 bt188.2.1 bt188.2.2.1 bt188.2.2.2.1 bt188.2.2.2.2.1 bt188.2.2.2.2.2)))) else ((spec_DayNext.f x178000 x178001 x178002 x178003 x178004 x178005).bind fun bt194 => (spec_Next.l0 k 0 (wrap64 (x16 + 1)) x177000 x177001 bt194.1 bt194.2.1 bt194.2.2.1 bt194.2.2.2.1 bt194.2.2.2.2.1 bt194.2.2.2.2.2))
end
def spec_Next.f (k : Nat) (l0_0 : List (List (S54))) (a0_1 : Bool) (a1_0 : Int) (a1_1 : Int) (a1_2 : Int) (a1_3 : Int) (a1_4 : Int) (a1_5 : Int) (a2 : Bool) : Option (Int × Int × Int × Int × Int × Int × Bool) := (spec_Seconds.f a1_0 a1_1 a1_2 a1_3 a1_4 a1_5).bind fun t179 => (if a2 = true then (spec_Next.j0 k t179 l0_0 a0_1 a1_0 a1_1 a1_2 a1_3 a1_4 a1_5) else (spec_Next.j0 k (wrap64 (t179 + 1)) l0_0 a0_1 a1_0 a1_1 a1_2 a1_3 a1_4 a1_5))
set_option maxHeartbeats 8000000 in
set_option maxRecDepth 100000 in
theorem spec_Next.calls (k : Nat) (A0_0 : Option Addr) (c0_0 : Nat) (l0_0 : List (List (S54))) (a0_1 : Bool) (a1_0 : Int) (a1_1 : Int) (a1_2 : Int) (a1_3 : Int) (a1_4 : Int) (a1_5 : Int) (a2 : Bool) (r1 : Int) (r2 : Int) (r3 : Int) (r4 : Int) (r5 : Int) (r6 : Int) (r7 : Bool) (w : World) (hr0_0 : Kd.C (Kd.slice 54 k54) w A0_0 l0_0.length l0_0) (hc0_0 : l0_0.length ≤ c0_0) (h : spec_Next.f k l0_0 a0_1 a1_0 a1_1 a1_2 a1_3 a1_4 a1_5 a2 = some (r1, r2, r3, r4, r5, r6, r7)) :
    Calls Tryz.prog 13 #[.agg #[.slice A0_0 l0_0.length c0_0, .bool a0_1], .agg #[.int .i64 a1_0, .int .i64 a1_1, .int .i64 a1_2, .int .i64 a1_3, .int .i64 a1_4, .int .i64 a1_5], .bool a2] w fun e w' => e = .returned (.tuple #[.agg #[.int .i64 r1, .int .i64 r2, .int .i64 r3, .int .i64 r4, .int .i64 r5, .int .i64 r6], .bool r7]) ∧ Below w.heap.size w w' := by
  have hu30 := Tryz.underlying30
  have hu33 := Tryz.underlying33
  unfold spec_Next.f at h
  replace h := Option.bind_eq_some_iff.mp h
  obtain ⟨t0, A0, h⟩ := h
  have C23 := Aside0.mk fun (W : World) => spec_Seconds.calls a1_0 a1_1 a1_2 a1_3 a1_4 a1_5 t0 W A0
  have HM := Aside0.mk ((((Mem.start w).new (et 30 A0_0 l0_0.length c0_0 a0_1)).new (mt 33 a1_0 a1_1 a1_2 a1_3 a1_4 a1_5)).new (mt 33 0 0 0 0 0 0))
  rw [World.size_alloc, World.size_alloc] at HM
  obtain ⟨kk, s1, hkk, hs1, H⟩ : ∃ kk s1, kk ≤ k ∧ (s1 = if a2 = true then t0 else wrap64 (t0 + 1)) ∧ spec_Next.l0 kk s1 0 l0_0 a0_1 a1_0 a1_1 a1_2 a1_3 a1_4 a1_5 = some (r1, r2, r3, r4, r5, r6, r7) := by
    cases k with
    | zero => cases a2 <;> simp [spec_Next.j0] at h
    | succ kk =>
      refine ⟨kk, _, Nat.le_succ _, rfl, ?_⟩
      cases a2
      · rw [if_neg (by simp), spec_Next.j0] at h
        rw [if_neg (by simp)]
        exact h
      · rw [if_pos rfl, spec_Next.j0] at h
        rw [if_pos rfl]
        exact h
  have H' := Aside0.mk H
  clear H h A0
  go_enter Tryz.func13, Tryz.ntmps13
  go_upto_if 13 with (first | (go_at_call 23; (with_reducible refine Calls.mono (C23.out _) ?_); rintro e wd ⟨rfl, hb⟩; have HN := Aside0.mk (HM.out.step hb); clear HM hb; have HM := HN; clear HN))
  go_cut [8] (fun v8 wc => v8 = .int .i64 s1 ∧ Aside0 (Mem w [(w.heap.size + 1 + 1, mt 33 0 0 0 0 0 0), (w.heap.size + 1, mt 33 a1_0 a1_1 a1_2 a1_3 a1_4 a1_5), (w.heap.size, et 30 A0_0 l0_0.length c0_0 a0_1)] wc))
  case first =>
    cases a2
    · rw [if_neg (by simp)] at hs1
      subst hs1
      go_wp2
      go_meet
      exact ⟨rfl, HM⟩
    · rw [if_pos rfl] at hs1
      subst hs1
      go_wp2
      go_meet
      exact ⟨rfl, HM⟩
  case rest =>
  obtain ⟨rfl, HM⟩ := hcut
  clear C23 hs1
  go_wp2
  go_loopg [8, 16] kk (fun kq v8 v16 w' => ∃ s i y m d q mi se : Int, v8 = .int .i64 s ∧ v16 = .int .i64 i ∧ Aside0 (spec_Next.l0 kq s i l0_0 a0_1 y m d q mi se = some (r1, r2, r3, r4, r5, r6, r7)) ∧ Aside0 (kq ≤ k) ∧ Aside0 (Mem w [(w.heap.size + 1 + 1, mt 33 0 0 0 0 0 0), (w.heap.size + 1, mt 33 y m d q mi se), (w.heap.size, et 30 A0_0 l0_0.length c0_0 a0_1)] w'))
  case atStart => exact ⟨s1, 0, a1_0, a1_1, a1_2, a1_3, a1_4, a1_5, rfl, rfl, H', ⟨hkk⟩, HM⟩
  case round =>
    clear H' HM
    obtain ⟨s, i, y, m, d, q, mi, se, rfl, rfl, HA, HK, HM⟩ := hrel
    obtain ⟨e0, e1⟩ := et_cells (HM.out.at_ 2 rfl); obtain ⟨k0, k1, k2, k3, k4, k5⟩ := mt_cells (HM.out.at_ 1 rfl); obtain ⟨z0, z1, z2, z3, z4, z5⟩ := mt_cells (HM.out.at_ 0 rfl); obtain ⟨f0, f1, f2, f3, f4, f5⟩ := mt_frozen (HM.out.at_ 1 rfl); obtain ⟨g0, g1, g2, g3, g4, g5⟩ := mt_frozen (HM.out.at_ 0 rfl)
    rcases gk with _ | ka
    · exact absurd HA.out (by simp [spec_Next.l0])
    have H := HA.out
    clear HA
    rw [spec_Next.l0] at H
    by_cases c1 : i < 800
    case neg =>
      rw [if_neg c1] at H
      have b1 := decide_eq_false c1
      cases H
      go_wp2
      refine bodyPost_ret (v := .tuple #[.agg #[.int .i64 0, .int .i64 0, .int .i64 0, .int .i64 0, .int .i64 0, .int .i64 0], .bool false]) (by simp [results, Tryz.results13, go_sem, *]) rfl ⟨rfl, (HM.out.set6 0 rfl _ _ _ _ _ _).below⟩
    rw [if_pos c1] at H
    have b1 := decide_eq_true c1
    clear c1
    rcases ka with _ | kb
    · exfalso
      revert H
      split
      · intro H
        obtain ⟨t, _, H⟩ := Option.bind_eq_some_iff.mp H
        exact absurd H (by simp [spec_Next.j2])
      · intro H
        exact absurd H (by simp [spec_Next.j2])
    by_cases c2 : s < 86400
    case neg =>
      rw [if_neg c2, spec_Next.j2, if_neg (by simp)] at H
      have b2 : decide (s < 86400) = false := decide_eq_false c2
      clear c2
      replace H := Option.bind_eq_some_iff.mp H
      obtain ⟨⟨n1, n2, n3, n4, n5, n6⟩, A3, H⟩ := H
      dsimp only at A3 H
      have C29 := Aside0.mk fun (W : World) => spec_DayNext.calls y m d q mi se n1 n2 n3 n4 n5 n6 W A3
      clear A3
      go_wp2_with (first | (go_at_call 29; (with_reducible refine Calls.mono (C29.out _) ?_); rintro e wd ⟨rfl, hb⟩; have HN := Aside0.mk (HM.out.step hb); clear HM hb e0 e1 k0 k1 k2 k3 k4 k5 z0 z1 z2 z3 z4 z5 f0 f1 f2 f3 f4 f5 g0 g1 g2 g3 g4 g5; have HM := HN; clear HN; obtain ⟨e0, e1⟩ := et_cells (HM.out.at_ 2 rfl); obtain ⟨k0, k1, k2, k3, k4, k5⟩ := mt_cells (HM.out.at_ 1 rfl); obtain ⟨z0, z1, z2, z3, z4, z5⟩ := mt_cells (HM.out.at_ 0 rfl); obtain ⟨f0, f1, f2, f3, f4, f5⟩ := mt_frozen (HM.out.at_ 1 rfl); obtain ⟨g0, g1, g2, g3, g4, g5⟩ := mt_frozen (HM.out.at_ 0 rfl)))
      go_roundg kb
      case measure => omega
      case rel => exact ⟨0, _, n1, n2, n3, n4, n5, n6, rfl, rfl, ⟨H⟩, ⟨by have := HK.out; omega⟩, ⟨HM.out.set6 1 rfl _ _ _ _ _ _⟩⟩
    rw [if_pos c2] at H
    have b2 : decide (s < 86400) = true := decide_eq_true c2
    clear c2
    replace H := Option.bind_eq_some_iff.mp H
    obtain ⟨t1, A1, H⟩ := H
    have C27 := Aside0.mk fun (W : World) (hb : Below w.heap.size w W) => spec_DayFits.calls (kb + 1) A0_0 c0_0 l0_0 a0_1 y m d q mi se t1 W (Kd.C_below hr0_0 hb) hc0_0 A1
    clear A1
    cases t1 with
    | false =>
      rw [spec_Next.j2, if_neg (by simp)] at H
      replace H := Option.bind_eq_some_iff.mp H
      obtain ⟨⟨n1, n2, n3, n4, n5, n6⟩, A3, H⟩ := H
      dsimp only at A3 H
      have C29 := Aside0.mk fun (W : World) => spec_DayNext.calls y m d q mi se n1 n2 n3 n4 n5 n6 W A3
      clear A3
      go_wp2_with (first | (go_at_call 27; (with_reducible refine Calls.mono (C27.out _ HM.out.below) ?_); rintro e wd ⟨rfl, hb⟩; have HN := Aside0.mk (HM.out.step hb); clear HM hb e0 e1 k0 k1 k2 k3 k4 k5 z0 z1 z2 z3 z4 z5 f0 f1 f2 f3 f4 f5 g0 g1 g2 g3 g4 g5; have HM := HN; clear HN; obtain ⟨e0, e1⟩ := et_cells (HM.out.at_ 2 rfl); obtain ⟨k0, k1, k2, k3, k4, k5⟩ := mt_cells (HM.out.at_ 1 rfl); obtain ⟨z0, z1, z2, z3, z4, z5⟩ := mt_cells (HM.out.at_ 0 rfl); obtain ⟨f0, f1, f2, f3, f4, f5⟩ := mt_frozen (HM.out.at_ 1 rfl); obtain ⟨g0, g1, g2, g3, g4, g5⟩ := mt_frozen (HM.out.at_ 0 rfl)) | (go_at_call 29; (with_reducible refine Calls.mono (C29.out _) ?_); rintro e wd ⟨rfl, hb⟩; have HN := Aside0.mk (HM.out.step hb); clear HM hb e0 e1 k0 k1 k2 k3 k4 k5 z0 z1 z2 z3 z4 z5 f0 f1 f2 f3 f4 f5 g0 g1 g2 g3 g4 g5; have HM := HN; clear HN; obtain ⟨e0, e1⟩ := et_cells (HM.out.at_ 2 rfl); obtain ⟨k0, k1, k2, k3, k4, k5⟩ := mt_cells (HM.out.at_ 1 rfl); obtain ⟨z0, z1, z2, z3, z4, z5⟩ := mt_cells (HM.out.at_ 0 rfl); obtain ⟨f0, f1, f2, f3, f4, f5⟩ := mt_frozen (HM.out.at_ 1 rfl); obtain ⟨g0, g1, g2, g3, g4, g5⟩ := mt_frozen (HM.out.at_ 0 rfl)))
      go_roundg kb
      case measure => omega
      case rel => exact ⟨0, _, n1, n2, n3, n4, n5, n6, rfl, rfl, ⟨H⟩, ⟨by have := HK.out; omega⟩, ⟨HM.out.set6 1 rfl _ _ _ _ _ _⟩⟩
    | true =>
    rw [spec_Next.j2, if_pos rfl] at H
    replace H := Option.bind_eq_some_iff.mp H
    obtain ⟨t2, A2, H⟩ := H
    have C28 := Aside0.mk fun (W : World) (hb : Below w.heap.size w W) => spec_InDay.calls kb A0_0 c0_0 l0_0 a0_1 s false t2 W (Kd.C_below hr0_0 hb) hc0_0 A2
    clear A2
    by_cases c3 : t2 ≥ 0
    case neg =>
      rw [if_neg c3] at H
      have b3 : decide (0 ≤ t2) = false := decide_eq_false c3
      replace H := Option.bind_eq_some_iff.mp H
      obtain ⟨⟨n1, n2, n3, n4, n5, n6⟩, A3, H⟩ := H
      dsimp only at A3 H
      have C29 := Aside0.mk fun (W : World) => spec_DayNext.calls y m d q mi se n1 n2 n3 n4 n5 n6 W A3
      clear A3
      go_wp2_with (first | (go_at_call 27; (with_reducible refine Calls.mono (C27.out _ HM.out.below) ?_); rintro e wd ⟨rfl, hb⟩; have HN := Aside0.mk (HM.out.step hb); clear HM hb e0 e1 k0 k1 k2 k3 k4 k5 z0 z1 z2 z3 z4 z5 f0 f1 f2 f3 f4 f5 g0 g1 g2 g3 g4 g5; have HM := HN; clear HN; obtain ⟨e0, e1⟩ := et_cells (HM.out.at_ 2 rfl); obtain ⟨k0, k1, k2, k3, k4, k5⟩ := mt_cells (HM.out.at_ 1 rfl); obtain ⟨z0, z1, z2, z3, z4, z5⟩ := mt_cells (HM.out.at_ 0 rfl); obtain ⟨f0, f1, f2, f3, f4, f5⟩ := mt_frozen (HM.out.at_ 1 rfl); obtain ⟨g0, g1, g2, g3, g4, g5⟩ := mt_frozen (HM.out.at_ 0 rfl)) | (go_at_call 28; (with_reducible refine Calls.mono (C28.out _ HM.out.below) ?_); rintro e wd ⟨rfl, hb⟩; have HN := Aside0.mk (HM.out.step hb); clear HM hb e0 e1 k0 k1 k2 k3 k4 k5 z0 z1 z2 z3 z4 z5 f0 f1 f2 f3 f4 f5 g0 g1 g2 g3 g4 g5; have HM := HN; clear HN; obtain ⟨e0, e1⟩ := et_cells (HM.out.at_ 2 rfl); obtain ⟨k0, k1, k2, k3, k4, k5⟩ := mt_cells (HM.out.at_ 1 rfl); obtain ⟨z0, z1, z2, z3, z4, z5⟩ := mt_cells (HM.out.at_ 0 rfl); obtain ⟨f0, f1, f2, f3, f4, f5⟩ := mt_frozen (HM.out.at_ 1 rfl); obtain ⟨g0, g1, g2, g3, g4, g5⟩ := mt_frozen (HM.out.at_ 0 rfl)) | (go_at_call 29; (with_reducible refine Calls.mono (C29.out _) ?_); rintro e wd ⟨rfl, hb⟩; have HN := Aside0.mk (HM.out.step hb); clear HM hb e0 e1 k0 k1 k2 k3 k4 k5 z0 z1 z2 z3 z4 z5 f0 f1 f2 f3 f4 f5 g0 g1 g2 g3 g4 g5; have HM := HN; clear HN; obtain ⟨e0, e1⟩ := et_cells (HM.out.at_ 2 rfl); obtain ⟨k0, k1, k2, k3, k4, k5⟩ := mt_cells (HM.out.at_ 1 rfl); obtain ⟨z0, z1, z2, z3, z4, z5⟩ := mt_cells (HM.out.at_ 0 rfl); obtain ⟨f0, f1, f2, f3, f4, f5⟩ := mt_frozen (HM.out.at_ 1 rfl); obtain ⟨g0, g1, g2, g3, g4, g5⟩ := mt_frozen (HM.out.at_ 0 rfl)))
      go_roundg kb
      case measure => omega
      case rel => exact ⟨0, _, n1, n2, n3, n4, n5, n6, rfl, rfl, ⟨H⟩, ⟨by have := HK.out; omega⟩, ⟨HM.out.set6 1 rfl _ _ _ _ _ _⟩⟩
    rw [if_pos c3] at H
    have b3 : decide (0 ≤ t2) = true := decide_eq_true c3
    replace H := Option.bind_eq_some_iff.mp H
    obtain ⟨⟨n1, n2, n3, n4, n5, n6⟩, A3, H⟩ := H
    dsimp only at A3 H
    have C20 := Aside0.mk fun (W : World) => spec_At.calls y m d q mi se t2 n1 n2 n3 n4 n5 n6 W A3
    cases H
    go_wp2_with (first | (go_at_call 27; (with_reducible refine Calls.mono (C27.out _ HM.out.below) ?_); rintro e wd ⟨rfl, hb⟩; have HN := Aside0.mk (HM.out.step hb); clear HM hb e0 e1 k0 k1 k2 k3 k4 k5 z0 z1 z2 z3 z4 z5 f0 f1 f2 f3 f4 f5 g0 g1 g2 g3 g4 g5; have HM := HN; clear HN; obtain ⟨e0, e1⟩ := et_cells (HM.out.at_ 2 rfl); obtain ⟨k0, k1, k2, k3, k4, k5⟩ := mt_cells (HM.out.at_ 1 rfl); obtain ⟨z0, z1, z2, z3, z4, z5⟩ := mt_cells (HM.out.at_ 0 rfl); obtain ⟨f0, f1, f2, f3, f4, f5⟩ := mt_frozen (HM.out.at_ 1 rfl); obtain ⟨g0, g1, g2, g3, g4, g5⟩ := mt_frozen (HM.out.at_ 0 rfl)) | (go_at_call 28; (with_reducible refine Calls.mono (C28.out _ HM.out.below) ?_); rintro e wd ⟨rfl, hb⟩; have HN := Aside0.mk (HM.out.step hb); clear HM hb e0 e1 k0 k1 k2 k3 k4 k5 z0 z1 z2 z3 z4 z5 f0 f1 f2 f3 f4 f5 g0 g1 g2 g3 g4 g5; have HM := HN; clear HN; obtain ⟨e0, e1⟩ := et_cells (HM.out.at_ 2 rfl); obtain ⟨k0, k1, k2, k3, k4, k5⟩ := mt_cells (HM.out.at_ 1 rfl); obtain ⟨z0, z1, z2, z3, z4, z5⟩ := mt_cells (HM.out.at_ 0 rfl); obtain ⟨f0, f1, f2, f3, f4, f5⟩ := mt_frozen (HM.out.at_ 1 rfl); obtain ⟨g0, g1, g2, g3, g4, g5⟩ := mt_frozen (HM.out.at_ 0 rfl)) | (go_at_call 20; (with_reducible refine Calls.mono (C20.out _) ?_); rintro e wd ⟨rfl, hb⟩; have HN := Aside0.mk (HM.out.step hb); clear HM hb e0 e1 k0 k1 k2 k3 k4 k5 z0 z1 z2 z3 z4 z5 f0 f1 f2 f3 f4 f5 g0 g1 g2 g3 g4 g5; have HM := HN; clear HN; obtain ⟨e0, e1⟩ := et_cells (HM.out.at_ 2 rfl); obtain ⟨k0, k1, k2, k3, k4, k5⟩ := mt_cells (HM.out.at_ 1 rfl); obtain ⟨z0, z1, z2, z3, z4, z5⟩ := mt_cells (HM.out.at_ 0 rfl); obtain ⟨f0, f1, f2, f3, f4, f5⟩ := mt_frozen (HM.out.at_ 1 rfl); obtain ⟨g0, g1, g2, g3, g4, g5⟩ := mt_frozen (HM.out.at_ 0 rfl)))
    refine bodyPost_ret (v := .tuple #[.agg #[.int .i64 r1, .int .i64 r2, .int .i64 r3, .int .i64 r4, .int .i64 r5, .int .i64 r6], .bool true]) (by simp [results, Tryz.results13, go_sem, *]) rfl ⟨rfl, (HM.out.set6 0 rfl _ _ _ _ _ _).below⟩
end Go.Proofs.YtjpcdkhapeejjaaGreatDoor.A
namespace Go.Proofs.YtjpcdkhapeejjaaGreatDoor.A
open Cal
theorem leap_f (y : Int) (h : 0 ≤ y) : spec_Leap.f y = some (leapY y) := by
  unfold spec_Leap.f
  rw [tmod_eq _ _ h, tmod_eq _ _ h, tmod_eq _ _ h]
  unfold leapY
  by_cases a : y % 4 = 0
  · rw [if_pos a]
    by_cases b : y % 100 = 0
    · rw [if_pos b, a, b]
      congr 1
    · rw [if_neg b, a]
      have : (y % 100 != 0) = true := bne_iff_ne.mpr b
      rw [this]; rfl
  · rw [if_neg a]
    have : (y % 4 == 0) = false := beq_eq_false_iff_ne.mpr a
    rw [this]; rfl
theorem days_f2 (y m : Int) (h : 0 ≤ y) (m0 : 1 ≤ m) (m1 : m ≤ 12) : spec_Days.f y m = some (dim y m) := by
  unfold spec_Days.f dim
  rw [if_pos (by omega), if_pos (by omega)]
  by_cases c : m = 2
  · rw [if_pos c, if_pos c, leap_f y h, Option.bind_some]
    split <;> rfl
  · rw [if_neg c, if_neg c]; rfl
theorem ord_first (y : Int) (h : 1 ≤ y) : ordE y 1 1 = (y - 1) * 365 + (y - 1) / 4 - (y - 1) / 100 + (y - 1) / 400 + 306 := by
  unfold ordE
  rw [if_pos (by omega)]
  obtain ⟨c, n, hz, n0, n1⟩ : ∃ c n : Int, y - 1 = 100 * c + n ∧ 0 ≤ n ∧ n ≤ 99 := ⟨(y - 1) / 100, (y - 1) % 100, by omega, by omega, by omega⟩
  rw [hz, show (100 * c + n) / 100 = c by omega, show (100 * c + n) % 100 = n by omega]
  obtain ⟨c4, r, rfl, r0, r1⟩ : ∃ f r : Int, c = 4 * f + r ∧ 0 ≤ r ∧ r ≤ 3 := ⟨c / 4, c % 4, by omega, by omega, by omega⟩
  obtain ⟨n4, q, rfl, q0, q1⟩ : ∃ f r : Int, n = 4 * f + r ∧ 0 ≤ r ∧ r ≤ 3 := ⟨n / 4, n % 4, by omega, by omega, by omega⟩
  rw [show (100 * (4 * c4 + r) + (4 * n4 + q)) / 4 = 25 * (4 * c4 + r) + n4 by omega, show (100 * (4 * c4 + r) + (4 * n4 + q)) / 400 = c4 by omega]
  rcases (show r = 0 ∨ r = 1 ∨ r = 2 ∨ r = 3 by omega) with rfl | rfl | rfl | rfl <;> rcases (show q = 0 ∨ q = 1 ∨ q = 2 ∨ q = 3 by omega) with rfl | rfl | rfl | rfl <;> omega
theorem wd_l (y m : Int) (y0 : 0 ≤ y) (m0 : 1 ≤ m) (m1 : m ≤ 12) : ∀ (n : Nat) (i acc : Int) (k : Nat), 1 ≤ i → i + (n : Int) = m → 0 ≤ acc → acc ≤ 10000000 → n < k → spec_Weekday.l0 k y m acc i = some ((acc + (ordE y m 1 - ordE y i 1)) % 7)
  | n, i, acc, 0, _, _, _, _, hk => by omega
  | 0, i, acc, k + 1, i0, hi, a0, a1, hk => by
    have : i = m := by omega
    subst this
    rw [spec_Weekday.l0, if_neg (by omega), tmod_eq _ _ a0, show acc + (ordE y i 1 - ordE y i 1) = acc by omega]
  | n + 1, i, acc, k + 1, i0, hi, a0, a1, hk => by
    have hd := dim_bd y i i0 (by omega)
    have hm := ord_mon y i i0 (by omega)
    by_cases ha : acc ≤ 9999900
    · rw [spec_Weekday.l0, if_pos (by omega), days_f2 y i y0 i0 (by omega), Option.bind_some, w64' _ (by omega) (by omega), w64' _ (by omega) (by omega), wd_l y m y0 m0 m1 n (i + 1) (acc + dim y i) k (by omega) (by omega) (by omega) (by omega) (by omega)]
      rw [show acc + dim y i + (ordE y m 1 - ordE y (i + 1) 1) = acc + (ordE y m 1 - ordE y i 1) by omega]
    · -- not met: the sum stays small; the bound is generous
      rw [spec_Weekday.l0, if_pos (by omega), days_f2 y i y0 i0 (by omega), Option.bind_some, w64' _ (by omega) (by omega), w64' _ (by omega) (by omega)]
      exact wd_l2 y m y0 m0 m1 n (i + 1) (acc + dim y i) k (by omega) (by omega) (by omega) (by omega) (by omega) (acc + (ordE y m 1 - ordE y i 1)) (by omega)
  where
  wd_l2 (y m : Int) (y0 : 0 ≤ y) (m0 : 1 ≤ m) (m1 : m ≤ 12) : ∀ (n : Nat) (i acc : Int) (k : Nat), 1 ≤ i → i + (n : Int) = m → 0 ≤ acc → acc ≤ 10000000 + 31 * i → n < k → ∀ u, u = acc + (ordE y m 1 - ordE y i 1) → spec_Weekday.l0 k y m acc i = some (u % 7)
  | n, i, acc, 0, _, _, _, _, hk, _, _ => by omega
  | 0, i, acc, k + 1, i0, hi, a0, a1, hk, u, hu => by
    have : i = m := by omega
    subst this
    rw [spec_Weekday.l0, if_neg (by omega), tmod_eq _ _ a0, show u = acc by omega]
  | n + 1, i, acc, k + 1, i0, hi, a0, a1, hk, u, hu => by
    have hd := dim_bd y i i0 (by omega)
    have hm := ord_mon y i i0 (by omega)
    rw [spec_Weekday.l0, if_pos (by omega), days_f2 y i y0 i0 (by omega), Option.bind_some, w64' _ (by omega) (by omega), w64' _ (by omega) (by omega)]
    exact wd_l2 y m y0 m0 m1 n (i + 1) (acc + dim y i) k (by omega) (by omega) (by omega) (by omega) (by omega) u (by omega)
theorem weekday_f (y m d : Int) (y0 : 1 ≤ y) (y1 : y ≤ 2900) (m0 : 1 ≤ m) (m1 : m ≤ 12) (d0 : 1 ≤ d) (d1 : d ≤ 31) (k : Nat) (hk : 20 ≤ k) : spec_Weekday.f k y m d = some (wdE (ordE y m d)) := by
  have hf := ord_first y y0
  unfold spec_Weekday.f
  have e4 : Int.tdiv (y - 1) 4 = (y - 1) / 4 := Int.tdiv_eq_ediv_of_nonneg (by omega)
  have e100 : Int.tdiv (y - 1) 100 = (y - 1) / 100 := Int.tdiv_eq_ediv_of_nonneg (by omega)
  have e400 : Int.tdiv (y - 1) 400 = (y - 1) / 400 := Int.tdiv_eq_ediv_of_nonneg (by omega)
  rw [w64' (y - 1) (by omega) (by omega), e4, e100, e400, w64' ((y - 1) * 365) (by omega) (by omega), w64' ((y - 1) / 4) (by omega) (by omega), w64' ((y - 1) / 100) (by omega) (by omega), w64' ((y - 1) / 400) (by omega) (by omega)]
  rw [w64' ((y - 1) * 365 + (y - 1) / 4) (by omega) (by omega), w64' ((y - 1) * 365 + (y - 1) / 4 - (y - 1) / 100) (by omega) (by omega), w64' ((y - 1) * 365 + (y - 1) / 4 - (y - 1) / 100 + (y - 1) / 400) (by omega) (by omega), w64' ((y - 1) * 365 + (y - 1) / 4 - (y - 1) / 100 + (y - 1) / 400 + d) (by omega) (by omega)]
  rw [wd_l y m (by omega) m0 m1 (m - 1).toNat 1 _ k (by omega) (by omega) (by omega) (by omega) (by omega)]
  congr 1
  rw [ord_day1 y m d]
  have e : ∀ u : Int, wdE u = (u + 3) % 7 := fun u => rfl
  rw [e]
  omega
/-- The list of fields. -/
def fsOf (f0 f1 f2 f3 f4 f5 : List S54) : List (List S54) := [f0, f1, f2, f3, f4, f5]
theorem dayfits_f (f0 f1 f2 f3 f4 f5 : List S54) (h : GoodE f0 f1 f2 f3 f4 f5) (sec : Bool) (y m d a b c : Int) (y0 : 1 ≤ y) (y1 : y ≤ 2900) (m0 : 1 ≤ m) (m1 : m ≤ 12) (d0 : 1 ≤ d) (d1 : d ≤ 31) (k : Nat) (hk : 20 ≤ k) :
    spec_DayFits.f k (fsOf f0 f1 f2 f3 f4 f5) sec y m d a b c = some (hasF 3 f3 d && (hasF 4 f4 m && hasF 5 f5 (wdE (ordE y m d)))) := by
  have hw : 0 ≤ wdE (ordE y m d) ∧ wdE (ordE y m d) ≤ 6 := by unfold wdE; omega
  unfold spec_DayFits.f
  rw [if_pos (by show (3 : Int) < 6; decide), if_pos (by show (4 : Int) < 6; decide), if_pos (by show (5 : Int) < 6; decide)]
  rw [show rd_L5 (fsOf f0 f1 f2 f3 f4 f5) 3 = f3 from rfl, show rd_L5 (fsOf f0 f1 f2 f3 f4 f5) 4 = f4 from rfl, show rd_L5 (fsOf f0 f1 f2 f3 f4 f5) 5 = f5 from rfl]
  rw [has_f 3 d f3 h.g3 (by decide) (by decide) (by omega) (by omega) k (by omega), Option.bind_some, has_f 4 m f4 h.g4 (by decide) (by decide) (by omega) (by omega) k (by omega), Option.bind_some, weekday_f y m d y0 y1 m0 m1 d0 d1 k hk, Option.bind_some, has_f 5 _ f5 h.g5 (by decide) (by decide) (by omega) (by omega) k (by omega), Option.bind_some]
  cases hasF 3 f3 d
  · rfl
  · cases hasF 4 f4 m
    · rfl
    · rfl
/-- The day behind a day, and the one ahead of it. -/
theorem daynext_f (E a b c : Int) (h0 : 700000 ≤ E) (h1 : E ≤ 800000) : spec_DayNext.f (yearE E) (monE E) (dayE E) a b c = some (yearE (E + 1), monE (E + 1), dayE (E + 1), 0, 0, 0) := by
  have hyi := year_in E h0 h1
  obtain ⟨m0, m1, d0, d1⟩ := valid_date E h0 h1
  have hd := dim_bd (yearE E) (monE E) m0 m1
  unfold spec_DayNext.f
  rw [if_pos (by omega), days_f2 _ _ (by omega) m0 m1, Option.bind_some]
  rcases next_day E h0 h1 with ⟨q, e1, e2, e3⟩ | ⟨q, q2, e1, e2, e3⟩ | ⟨q, q2, e1, e2, e3⟩
  · rw [if_pos (by omega), e1, e2, e3]
  · rw [if_neg (by omega), if_pos (by omega), e1, e2, e3]
  · rw [if_neg (by omega), if_neg (by omega), e1, e2, e3]
def fit3 (f0 f1 f2 : List S54) (s : Int) : Bool := hasF 2 f2 (s / 3600) && (hasF 1 f1 (s / 60 % 60) && hasF 0 f0 (s % 60))
theorem tdiv_eq (a b : Int) (h : 0 ≤ a) : Int.tdiv a b = a / b := Int.tdiv_eq_ediv_of_nonneg h
theorem fit3_h {f0 f1 f2 : List S54} {s q : Int} (h : hasF 2 f2 (s / 3600) = false) (e : q / 3600 = s / 3600) : fit3 f0 f1 f2 q = false := by unfold fit3; rw [e, h]; rfl
theorem fit3_m {f0 f1 f2 : List S54} {s q : Int} (h : hasF 1 f1 (s / 60 % 60) = false) (e : q / 60 = s / 60) : fit3 f0 f1 f2 q = false := by
  unfold fit3; rw [e, h, Bool.false_and, Bool.and_false]
theorem fit3_s {f0 f1 f2 : List S54} {s : Int} (h : hasF 0 f0 (s % 60) = false) : fit3 f0 f1 f2 s = false := by
  unfold fit3; rw [h, Bool.and_false, Bool.and_false]
section
variable {f0 f1 f2 f3 f4 f5 : List S54}
theorem in_up (h : GoodE f0 f1 f2 f3 f4 f5) (sec : Bool) : ∀ (N : Nat) (s : Int) (k : Nat), 0 ≤ s → s ≤ 86400 → 86400 - s ≤ (N : Int) → 2 * N + 20 < k →
    ∃ r, spec_InDay.l0 k false s (fsOf f0 f1 f2 f3 f4 f5) sec = some r ∧ ((s ≤ r ∧ r < 86400 ∧ fit3 f0 f1 f2 r = true ∧ ∀ q, s ≤ q → q < r → fit3 f0 f1 f2 q = false) ∨ (r = -1 ∧ ∀ q, s ≤ q → q < 86400 → fit3 f0 f1 f2 q = false))
  | N, s, 0, _, _, _, hk => by omega
  | N, s, 1, _, _, _, hk => by omega
  | 0, s, k + 2, h0, h1, hN, hk => by
    refine ⟨-1, ?_, .inr ⟨rfl, fun q a b => by omega⟩⟩
    rw [spec_InDay.l0, if_pos (by omega), decide_eq_false (by omega), spec_InDay.j1, if_neg (by decide)]
  | N + 1, s, k + 2, h0, h1, hN, hk => by
    by_cases he : s = 86400
    · refine ⟨-1, ?_, .inr ⟨rfl, fun q a b => by omega⟩⟩
      rw [spec_InDay.l0, if_pos (by omega), decide_eq_false (by omega), spec_InDay.j1, if_neg (by decide)]
    rw [spec_InDay.l0, if_pos (by omega), decide_eq_true (by omega), spec_InDay.j1, if_pos rfl, if_pos (by show (2 : Int) < 6; decide), tdiv_eq _ _ h0, tdiv_eq _ _ h0, w64' (s / 3600) (by omega) (by omega), w64' (s / 60) (by omega) (by omega), tmod_eq _ _ h0, tmod_eq _ _ (show 0 ≤ s / 60 by omega)]
    rw [show rd_L5 (fsOf f0 f1 f2 f3 f4 f5) 2 = f2 from rfl, show rd_L5 (fsOf f0 f1 f2 f3 f4 f5) 1 = f1 from rfl, show rd_L5 (fsOf f0 f1 f2 f3 f4 f5) 0 = f0 from rfl]
    rw [has_f 2 _ f2 h.g2 (by decide) (by decide) (by omega) (by omega) k (by omega), Option.bind_some]
    cases ch : hasF 2 f2 (s / 3600) with
    | false =>
      rw [if_neg (by decide), if_neg (by decide), w64' (s / 3600 + 1) (by omega) (by omega), w64' ((s / 3600 + 1) * 3600) (by omega) (by omega)]
      obtain ⟨r, hr, hc⟩ := in_up h sec N ((s / 3600 + 1) * 3600) k (by omega) (by omega) (by omega) (by omega)
      refine ⟨r, hr, ?_⟩
      rcases hc with ⟨a, b, c, d⟩ | ⟨a, b⟩
      · refine .inl ⟨by omega, b, c, fun q q0 q1 => ?_⟩
        by_cases e : q < (s / 3600 + 1) * 3600
        · exact fit3_h ch (by omega)
        · exact d q (by omega) q1
      · refine .inr ⟨a, fun q q0 q1 => ?_⟩
        by_cases e : q < (s / 3600 + 1) * 3600
        · exact fit3_h ch (by omega)
        · exact b q (by omega) q1
    | true =>
      rw [if_pos rfl, if_pos (by show (1 : Int) < 6; decide), has_f 1 _ f1 h.g1 (by decide) (by decide) (by omega) (by omega) k (by omega), Option.bind_some]
      cases cm : hasF 1 f1 (s / 60 % 60) with
      | false =>
        rw [if_neg (by decide), if_neg (by decide), w64' (s / 3600 * 3600) (by omega) (by omega), w64' (s / 60 % 60 + 1) (by omega) (by omega), w64' ((s / 60 % 60 + 1) * 60) (by omega) (by omega), w64' (s / 3600 * 3600 + (s / 60 % 60 + 1) * 60) (by omega) (by omega)]
        obtain ⟨r, hr, hc⟩ := in_up h sec N (s / 3600 * 3600 + (s / 60 % 60 + 1) * 60) k (by omega) (by omega) (by omega) (by omega)
        refine ⟨r, hr, ?_⟩
        rcases hc with ⟨a, b, c, d⟩ | ⟨a, b⟩
        · refine .inl ⟨by omega, b, c, fun q q0 q1 => ?_⟩
          by_cases e : q < s / 3600 * 3600 + (s / 60 % 60 + 1) * 60
          · exact fit3_m cm (by omega)
          · exact d q (by omega) q1
        · refine .inr ⟨a, fun q q0 q1 => ?_⟩
          by_cases e : q < s / 3600 * 3600 + (s / 60 % 60 + 1) * 60
          · exact fit3_m cm (by omega)
          · exact b q (by omega) q1
      | true =>
        rw [if_pos rfl, if_pos (by show (0 : Int) < 6; decide), has_f 0 _ f0 h.g0 (by decide) (by decide) (by omega) (by omega) k (by omega), Option.bind_some]
        cases cs : hasF 0 f0 (s % 60) with
        | true =>
          rw [if_pos rfl]
          exact ⟨s, rfl, .inl ⟨Int.le_refl _, by omega, by unfold fit3; rw [ch, cm, cs]; rfl, fun q a b => by omega⟩⟩
        | false =>
          rw [if_neg (by decide), if_neg (by decide), w64' (s + 1) (by omega) (by omega)]
          obtain ⟨r, hr, hc⟩ := in_up h sec N (s + 1) k (by omega) (by omega) (by omega) (by omega)
          refine ⟨r, hr, ?_⟩
          rcases hc with ⟨a, b, c, d⟩ | ⟨a, b⟩
          · refine .inl ⟨by omega, b, c, fun q q0 q1 => ?_⟩
            by_cases e : q = s
            · rw [e]; exact fit3_s cs
            · exact d q (by omega) q1
          · refine .inr ⟨a, fun q q0 q1 => ?_⟩
            by_cases e : q = s
            · rw [e]; exact fit3_s cs
            · exact b q (by omega) q1
end
section
variable {f0 f1 f2 f3 f4 f5 : List S54}
def dayB (f3 f4 f5 : List S54) (b : Int) : Bool := hasF 3 f3 (dayE (b + 306)) && (hasF 4 f4 (monE (b + 306)) && hasF 5 f5 (wdE (b + 306)))
theorem fit_split (s : Int) : fitB f0 f1 f2 f3 f4 f5 s = true ↔ dayB f3 f4 f5 (s / 86400) = true ∧ fit3 f0 f1 f2 (s % 86400) = true := by
  have e1 : s % 86400 / 60 % 60 = s % 3600 / 60 := by omega
  have e2 : s % 86400 % 60 = s % 60 := by omega
  unfold fitB dayB fit3
  rw [e1, e2]
  have a : wdS s = wdE (s / 86400 + 306) := rfl
  have b : monS s = monE (s / 86400 + 306) := rfl
  have c : dayS s = dayE (s / 86400 + 306) := rfl
  have d : hourS s = s % 86400 / 3600 := rfl
  have e : minS s = s % 3600 / 60 := rfl
  have f : secS s = s % 60 := rfl
  rw [a, b, c, d, e, f]
  simp only [Bool.and_eq_true]
  exact ⟨fun ⟨x, y, z, u, v, w⟩ => ⟨⟨z, y, x⟩, u, v, w⟩, fun ⟨⟨z, y, x⟩, u, v, w⟩ => ⟨x, y, z, u, v, w⟩⟩
theorem dayfits_b (h : GoodE f0 f1 f2 f3 f4 f5) (sec : Bool) (b x y z : Int) (b0 : 700000 ≤ b + 306) (b1 : b + 306 ≤ 800000) (k : Nat) (hk : 20 ≤ k) :
    spec_DayFits.f k (fsOf f0 f1 f2 f3 f4 f5) sec (yearE (b + 306)) (monE (b + 306)) (dayE (b + 306)) x y z = some (dayB f3 f4 f5 b) := by
  have hy := year_in _ b0 b1
  obtain ⟨m0, m1, d0, d1⟩ := valid_date _ b0 b1
  have hd := dim_bd (yearE (b + 306)) _ m0 m1
  rw [dayfits_f f0 f1 f2 f3 f4 f5 h sec _ _ _ x y z (by omega) (by omega) m0 m1 d0 (by omega) k hk, ord_rt]
  rfl
/-- Nearest from x on; nearest up to x. -/
def NearUp (f0 f1 f2 f3 f4 f5 : List S54) (x t : Int) : Prop := x ≤ t ∧ fitB f0 f1 f2 f3 f4 f5 t = true ∧ ∀ q, x ≤ q → q < t → ¬ fitB f0 f1 f2 f3 f4 f5 q = true
def six (t : Int) : Int × Int × Int × Int × Int × Int × Bool := (yearS t, monS t, dayS t, hourS t, minS t, secS t, true)
theorem at_six (t b r : Int) (h : t = b * 86400 + r) (r0 : 0 ≤ r) (r1 : r < 86400) : (spec_At.f (yearE (b + 306)) (monE (b + 306)) (dayE (b + 306)) (0 : Int) 0 0 r).bind (fun q => some (q.1, q.2.1, q.2.2.1, q.2.2.2.1, q.2.2.2.2.1, q.2.2.2.2.2, true)) = some (six t) := by
  unfold spec_At.f six
  rw [Option.bind_some, tdiv_eq _ _ r0, tdiv_eq _ _ r0, w64' (r / 3600) (by omega) (by omega), w64' (r / 60) (by omega) (by omega), tmod_eq _ _ r0, tmod_eq _ _ (show 0 ≤ r / 60 by omega)]
  have eb : t / 86400 = b := by omega
  have e1 : yearS t = yearE (b + 306) := by rw [← eb]; rfl
  have e2 : monS t = monE (b + 306) := by rw [← eb]; rfl
  have e3 : dayS t = dayE (b + 306) := by rw [← eb]; rfl
  have e4 : hourS t = r / 3600 := by unfold hourS; omega
  have e5 : minS t = r / 60 % 60 := by unfold minS; omega
  have e6 : secS t = r % 60 := by unfold secS; omega
  rw [e1, e2, e3, e4, e5, e6]
theorem next_l (h : GoodE f0 f1 f2 f3 f4 f5) (sec : Bool) (t : Int) : ∀ (n : Nat) (b from_ i x y z : Int) (k : Nat), 700000 ≤ b + 306 → b + 306 + n ≤ 799990 → 0 ≤ from_ → from_ ≤ 86400 → 0 ≤ i → i + n < 800 → t / 86400 - b = (n : Int) → NearUp f0 f1 f2 f3 f4 f5 (b * 86400 + from_) t → 2 * n + 180000 < k →
    spec_Next.l0 k from_ i (fsOf f0 f1 f2 f3 f4 f5) sec (yearE (b + 306)) (monE (b + 306)) (dayE (b + 306)) x y z = some (six t)
  | n, b, from_, i, x, y, z, 0, _, _, _, _, _, _, _, _, hk => by omega
  | n, b, from_, i, x, y, z, 1, _, _, _, _, _, _, _, _, hk => by omega
  | n, b, from_, i, x, y, z, k + 2, b0, b1, r0, r1, i0, i1, hn, hN, hk => by
    have hxt := hN.1
    have ft := (fit_split t).1 hN.2.1
    -- the next day
    have go : n ≠ 0 → (spec_DayNext.f (yearE (b + 306)) (monE (b + 306)) (dayE (b + 306)) x y z).bind (fun bt => spec_Next.l0 k 0 (wrap64 (i + 1)) (fsOf f0 f1 f2 f3 f4 f5) sec bt.1 bt.2.1 bt.2.2.1 bt.2.2.2.1 bt.2.2.2.2.1 bt.2.2.2.2.2) = some (six t) := by
      intro hne
      obtain ⟨m, rfl⟩ : ∃ m, n = m + 1 := ⟨n - 1, by omega⟩
      rw [daynext_f (b + 306) x y z b0 (by omega), Option.bind_some, w64' (i + 1) (by omega) (by omega)]
      have := next_l h sec t m (b + 1) 0 (i + 1) 0 0 0 k (by omega) (by omega) (by omega) (by omega) (by omega) (by omega) (by omega) ⟨by omega, hN.2.1, fun q a c => hN.2.2 q (by omega) c⟩ (by omega)
      rw [show b + 1 + 306 = b + 306 + 1 by omega] at this
      exact this
    rw [spec_Next.l0, if_pos (by omega)]
    by_cases hf : from_ < 86400
    · rw [if_pos hf, dayfits_b h sec b x y z b0 (by omega) (k + 1) (by omega), Option.bind_some, spec_Next.j2]
      by_cases hd : dayB f3 f4 f5 b = true
      · rw [if_pos hd]
        obtain ⟨r, hr, hc⟩ := in_up h sec 86400 from_ k r0 r1 (by omega) (by omega)
        have hr : spec_InDay.f k (fsOf f0 f1 f2 f3 f4 f5) sec from_ false = some r := hr
        rw [hr, Option.bind_some]
        rcases hc with ⟨a, c, d, e⟩ | ⟨a, e⟩
        · have hfit : fitB f0 f1 f2 f3 f4 f5 (b * 86400 + r) = true := (fit_split _).2 ⟨by rw [show (b * 86400 + r) / 86400 = b by omega]; exact hd, by rw [show (b * 86400 + r) % 86400 = r by omega]; exact d⟩
          have ht1 : t ≤ b * 86400 + r := by
            by_cases q : b * 86400 + r < t
            · exact absurd hfit (hN.2.2 _ (by omega) q)
            · omega
          have ht2 : b * 86400 + r ≤ t := by
            by_cases q : t < b * 86400 + r
            · have := e (t % 86400) (by omega) (by omega)
              rw [ft.2] at this; cases this
            · omega
          rw [if_pos (by omega)]
          exact at_six t b r (by omega) (by omega) c
        · rw [if_neg (by omega)]
          refine go fun h0 => ?_
          have := e (t % 86400) (by omega) (by omega)
          rw [ft.2] at this; cases this
      · rw [if_neg hd]
        refine go fun h0 => hd ?_
        rw [show b = t / 86400 by omega]
        exact ft.1
    · rw [if_neg hf, spec_Next.j2, if_neg (by decide)]
      exact go (by omega)
theorem secs_f (s : Int) (a b c : Int) : spec_Seconds.f a b c (hourS s) (minS s) (secS s) = some (s % 86400) := by
  have h := hour_bd s
  have m := min_bd s
  have e := sec_bd s
  have cr := clock_rt s
  unfold spec_Seconds.f
  rw [w64' (hourS s * 3600) (by omega) (by omega), w64' (minS s * 60) (by omega) (by omega), w64' (hourS s * 3600 + minS s * 60) (by omega) (by omega), w64' _ (by omega) (by omega), cr]
/-- The reference's next moment. -/
theorem next_f (h : GoodE f0 f1 f2 f3 f4 f5) (sec incl : Bool) (s t : Int) (s0 : lo0 ≤ s) (s1 : t ≤ hi0) (hN : NearUp f0 f1 f2 f3 f4 f5 (if incl = true then s else s + 1) t) (hD : t / 86400 - s / 86400 ≤ 450) (k : Nat) (hk : 190000 ≤ k) :
    spec_Next.f k (fsOf f0 f1 f2 f3 f4 f5) sec (yearS s) (monS s) (dayS s) (hourS s) (minS s) (secS s) incl = some (six t) := by
  obtain ⟨k, rfl⟩ : ∃ k', k = k' + 1 := ⟨k - 1, by omega⟩
  have hx := hN.1
  unfold lo0 at s0
  unfold hi0 at s1
  unfold spec_Next.f
  rw [secs_f, Option.bind_some]
  have hst : s ≤ t := by split at hx <;> omega
  have base := fun (from_ : Int) (q0 : 0 ≤ from_) (q1 : from_ ≤ 86400) (q : NearUp f0 f1 f2 f3 f4 f5 (s / 86400 * 86400 + from_) t) => next_l h sec t (t / 86400 - s / 86400).toNat (s / 86400) from_ 0 (hourS s) (minS s) (secS s) k (by omega) (by omega) q0 q1 (by omega) (by omega) (by omega) q (by omega)
  cases incl with
  | true =>
    rw [if_pos rfl, spec_Next.j0]
    exact base (s % 86400) (by omega) (by omega) (by rw [show s / 86400 * 86400 + s % 86400 = s by omega]; exact hN)
  | false =>
    rw [if_neg (by decide), spec_Next.j0, w64' _ (by omega) (by omega)]
    exact base (s % 86400 + 1) (by omega) (by omega) (by rw [show s / 86400 * 86400 + (s % 86400 + 1) = s + 1 by omega]; exact hN)
theorem up_of (x t : Int) : Least (fitE false f0 f1 f2 f3 f4 f5) x t ↔ NearUp f0 f1 f2 f3 f4 f5 x t := by
  unfold Least NearUp
  constructor
  · intro ⟨a, b, c⟩
    exact ⟨a, (fit_iff (rev := false) t).1 b, fun q q0 q1 hq => c q q0 q1 ((fit_iff (rev := false) q).2 hq)⟩
  · intro ⟨a, b, c⟩
    exact ⟨a, (fit_iff (rev := false) t).2 b, fun q q0 q1 hq => c q q0 q1 ((fit_iff (rev := false) q).1 hq)⟩
/-- The next moment: the program's and the reference's. -/
theorem next_both (h : GoodE f0 f1 f2 f3 f4 f5) (sec incl : Bool) (s : Int) (s0 : lo0 ≤ s) (s1 : s + 34905600 ≤ hi0) (k : Nat) (hk : 190000 ≤ k) : ∃ t, s ≤ t ∧ t ≤ s + 34905600 ∧ NearUp f0 f1 f2 f3 f4 f5 (if incl = true then s else s + 1) t ∧
    spec_Next.f k (fsOf f0 f1 f2 f3 f4 f5) sec (yearS s) (monS s) (dayS s) (hourS s) (minS s) (secS s) incl = some (six t) ∧ tickOf k false incl (segsOf f0 f1 f2 f3 f4 f5) s = some t := by
  cases incl with
  | true =>
    obtain ⟨t, ht, hd, hh⟩ := least_E false f0 f1 f2 f3 f4 f5 h s s0 (by rw [hiD_f]; omega)
    rw [hiD_f] at hh
    have hu := (up_of s t).1 ht
    have hx := ht.1
    refine ⟨t, hx, by omega, hu, next_f h sec true s t s0 hh hu (by omega) k hk, ?_⟩
    have := tick_incl (k := k) h (by omega) s t ht s0 (by rw [hiD_f]; exact hh) (by omega)
    rw [co_f, co_f] at this
    exact this
  | false =>
    obtain ⟨t, ht, hd, hh⟩ := least_E false f0 f1 f2 f3 f4 f5 h (s + 1) (by rw [loD_f]; omega) (by rw [hiD_f]; omega)
    rw [hiD_f] at hh
    have hu := (up_of (s + 1) t).1 ht
    have hx := ht.1
    refine ⟨t, by omega, by omega, hu, next_f h sec false s t s0 hh hu (by omega) k hk, ?_⟩
    have := tick_behind (k := k) h (by omega) s t ht s0 (by rw [hiD_f]; exact hh) (by omega)
    rw [co_f, co_f] at this
    exact this
end
end Go.Proofs.YtjpcdkhapeejjaaGreatDoor.A
namespace Go.Proofs.YtjpcdkhapeejjaaGreatDoor.A
def laws_moment.f (a0_0 : Int) (a0_1 : Int) (a0_2 : Int) (a0_3 : Int) (a0_4 : Int) (a0_5 : Int) : Option (Int × Int × Int × Int × Int × Int) := some (a0_0, a0_1, a0_2, a0_3, a0_4, a0_5)
set_option maxHeartbeats 8000000 in
set_option maxRecDepth 100000 in
theorem laws_moment.calls (a0_0 : Int) (a0_1 : Int) (a0_2 : Int) (a0_3 : Int) (a0_4 : Int) (a0_5 : Int) (r1 : Int) (r2 : Int) (r3 : Int) (r4 : Int) (r5 : Int) (r6 : Int) (w : World) (h : laws_moment.f a0_0 a0_1 a0_2 a0_3 a0_4 a0_5 = some (r1, r2, r3, r4, r5, r6)) :
    Calls Tryz.prog 14 #[.agg #[.int .i64 a0_0, .int .i64 a0_1, .int .i64 a0_2, .int .i64 a0_3, .int .i64 a0_4, .int .i64 a0_5]] w fun e w' => e = .returned (.agg #[.int .i64 r1, .int .i64 r2, .int .i64 r3, .int .i64 r4, .int .i64 r5, .int .i64 r6]) ∧ Below w.heap.size w w' := by
 have hu26 := Tryz.underlying26
 have hu33 := Tryz.underlying33
 have HB := Aside0.mk (Below.refl w.heap.size w)
 have H : (some (a0_0, a0_1, a0_2, a0_3, a0_4, a0_5)) = some (r1, r2, r3, r4, r5, r6) := h
 clear h
 simp only [Option.some.injEq, Prod.mk.injEq] at H
 obtain ⟨rfl, rfl, rfl, rfl, rfl, rfl⟩ := H
 go_enter Tryz.func14, Tryz.ntmps14
 go_wp2_with (first | ((with_reducible refine gate_dst (N := 1) rfl ?_); refine box_event ?hg (N := 1) ?hd (cs := #[.int .i64 a0_0, .int .i64 a0_1, .int .i64 a0_2, .int .i64 a0_3, .int .i64 a0_4, .int .i64 a0_5]) (t := 26) ?hr ?_; (case hd => rfl); (case hg => rfl); (case hr => first | (go_simp; done) | (go_simp; rfl)); intro gb119 hg w2 hbox hb; have n0_ := Aside0.mk (below_step (by repeat (with_reducible first | exact HB.out | apply below_alloc | apply pw_below_drewN | apply below_drew1)) hb); have n1_ := Aside0.mk (hbox); have n2_ := Aside0.mk ((by rw [hg]; exact (below_size (by repeat (with_reducible first | exact HB.out | apply below_alloc | apply pw_below_drewN | apply below_drew1))) : w.heap.size ≤ gb119)); have n3_ := Aside0.mk ((by rw [hg]; exact (below_size (by repeat (with_reducible first | exact HB.out | apply below_alloc | apply pw_below_drewN | apply below_drew1))) : w.heap.size ≤ gb119)); clear HB; have HB := n0_; have BK119 := n1_; have GW119 := n2_; have GE119 := n3_; clear n0_ n1_ n2_ n3_; clear hb hbox hg) | ((with_reducible refine gate_dst (N := 2) rfl ?_); refine box_event ?hg (N := 2) ?hd (cs := #[.int .i64 0, .int .i64 0, .int .i64 0, .int .i64 0, .int .i64 0, .int .i64 0]) (t := 33) ?hr ?_; (case hd => rfl); (case hg => rfl); (case hr => first | (go_simp; done) | (go_simp; rfl)); intro gb120 hg w3 hbox hb; have n0_ := Aside0.mk (blk_below (g := gb119) (o := .cells #[.int .i64 a0_0, .int .i64 a0_1, .int .i64 a0_2, .int .i64 a0_3, .int .i64 a0_4, .int .i64 a0_5] 26 (0, 0)) (by (with_reducible repeat (first | refine blk_drewN ?_ _ | refine blk_drew ?_ | refine blk_alloc ?_ _)); exact BK119.out) hb); have n1_ := Aside0.mk (below_step (by repeat (with_reducible first | exact HB.out | apply below_alloc | apply pw_below_drewN | apply below_drew1 | refine below_set ?_ GE119.out)) hb); have n2_ := Aside0.mk (hbox); have n3_ := Aside0.mk ((by rw [hg]; exact (below_size (by repeat (with_reducible first | exact HB.out | apply below_alloc | apply pw_below_drewN | apply below_drew1 | refine below_set ?_ GE119.out))) : w.heap.size ≤ gb120)); have n4_ := Aside0.mk ((by rw [hg]; exact (below_size (by repeat (with_reducible first | exact HB.out | apply below_alloc | apply pw_below_drewN | apply below_drew1 | refine below_set ?_ GE119.out))) : w.heap.size ≤ gb120)); have n5_ := Aside0.mk ((by rw [hg]; exact Nat.ne_of_lt (blk_lt (g := gb119) (o := .cells #[.int .i64 a0_0, .int .i64 a0_1, .int .i64 a0_2, .int .i64 a0_3, .int .i64 a0_4, .int .i64 a0_5] 26 (0, 0)) (by (with_reducible repeat (first | refine blk_drewN ?_ _ | refine blk_drew ?_ | refine blk_alloc ?_ _)); exact BK119.out)) : gb119 ≠ gb120)); have n6_ := Aside0.mk ((by rw [hg]; exact Nat.ne_of_gt (blk_lt (g := gb119) (o := .cells #[.int .i64 a0_0, .int .i64 a0_1, .int .i64 a0_2, .int .i64 a0_3, .int .i64 a0_4, .int .i64 a0_5] 26 (0, 0)) (by (with_reducible repeat (first | refine blk_drewN ?_ _ | refine blk_drew ?_ | refine blk_alloc ?_ _)); exact BK119.out)) : gb120 ≠ gb119)); clear BK119; clear HB; have BK119 := n0_; have HB := n1_; have BK120 := n2_; have GW120 := n3_; have GE120 := n4_; have NB119_120 := n5_; have NB120_119 := n6_; clear n0_ n1_ n2_ n3_ n4_ n5_ n6_; clear hb hbox hg; have hnb4 := NB119_120.out; have hnc4 := NB120_119.out; have hcz5_0 : w3.cell? ⟨gb119, 0, none⟩ = some (.int .i64 a0_0) := (blk_cell BK119.out 0).trans rfl; have hcz5_1 : w3.cell? ⟨gb119, 1, none⟩ = some (.int .i64 a0_1) := (blk_cell BK119.out 1).trans rfl; have hcz5_2 : w3.cell? ⟨gb119, 2, none⟩ = some (.int .i64 a0_2) := (blk_cell BK119.out 2).trans rfl; have hcz5_3 : w3.cell? ⟨gb119, 3, none⟩ = some (.int .i64 a0_3) := (blk_cell BK119.out 3).trans rfl; have hcz5_4 : w3.cell? ⟨gb119, 4, none⟩ = some (.int .i64 a0_4) := (blk_cell BK119.out 4).trans rfl; have hcz5_5 : w3.cell? ⟨gb119, 5, none⟩ = some (.int .i64 a0_5) := (blk_cell BK119.out 5).trans rfl; have hfz5_0 := blk_frozen BK119.out 0; have hfz5_1 := blk_frozen BK119.out 1; have hfz5_2 := blk_frozen BK119.out 2; have hfz5_3 := blk_frozen BK119.out 3; have hfz5_4 := blk_frozen BK119.out 4; have hfz5_5 := blk_frozen BK119.out 5; have hcz6_0 : w3.cell? ⟨gb120, 0, none⟩ = some (.int .i64 0) := (blk_cell BK120.out 0).trans rfl; have hcz6_1 : w3.cell? ⟨gb120, 1, none⟩ = some (.int .i64 0) := (blk_cell BK120.out 1).trans rfl; have hcz6_2 : w3.cell? ⟨gb120, 2, none⟩ = some (.int .i64 0) := (blk_cell BK120.out 2).trans rfl; have hcz6_3 : w3.cell? ⟨gb120, 3, none⟩ = some (.int .i64 0) := (blk_cell BK120.out 3).trans rfl; have hcz6_4 : w3.cell? ⟨gb120, 4, none⟩ = some (.int .i64 0) := (blk_cell BK120.out 4).trans rfl; have hcz6_5 : w3.cell? ⟨gb120, 5, none⟩ = some (.int .i64 0) := (blk_cell BK120.out 5).trans rfl; have hfz6_0 := blk_frozen BK120.out 0; have hfz6_1 := blk_frozen BK120.out 1; have hfz6_2 := blk_frozen BK120.out 2; have hfz6_3 := blk_frozen BK120.out 3; have hfz6_4 := blk_frozen BK120.out 4; have hfz6_5 := blk_frozen BK120.out 5))
 refine bodyPost_ret (results_cell_row rfl _ _ gb120 33 #[.int .i64 a0_0, .int .i64 a0_1, .int .i64 a0_2, .int .i64 a0_3, .int .i64 a0_4, .int .i64 a0_5] (0, 0) _ rfl (by (with_reducible repeat (first | refine blk_drewN ?_ _ | refine blk_drew ?_ | refine blk_alloc ?_ _)); refine blk_put (cs := #[.int .i64 a0_0, .int .i64 a0_1, .int .i64 a0_2, .int .i64 a0_3, .int .i64 a0_4, .int .i64 0]) ?_ 5 _ rfl; (with_reducible repeat (first | refine blk_drewN ?_ _ | refine blk_drew ?_ | refine blk_alloc ?_ _)); refine blk_put (cs := #[.int .i64 a0_0, .int .i64 a0_1, .int .i64 a0_2, .int .i64 a0_3, .int .i64 0, .int .i64 0]) ?_ 4 _ rfl; (with_reducible repeat (first | refine blk_drewN ?_ _ | refine blk_drew ?_ | refine blk_alloc ?_ _)); refine blk_put (cs := #[.int .i64 a0_0, .int .i64 a0_1, .int .i64 a0_2, .int .i64 0, .int .i64 0, .int .i64 0]) ?_ 3 _ rfl; (with_reducible repeat (first | refine blk_drewN ?_ _ | refine blk_drew ?_ | refine blk_alloc ?_ _)); refine blk_put (cs := #[.int .i64 a0_0, .int .i64 a0_1, .int .i64 0, .int .i64 0, .int .i64 0, .int .i64 0]) ?_ 2 _ rfl; (with_reducible repeat (first | refine blk_drewN ?_ _ | refine blk_drew ?_ | refine blk_alloc ?_ _)); refine blk_put (cs := #[.int .i64 a0_0, .int .i64 0, .int .i64 0, .int .i64 0, .int .i64 0, .int .i64 0]) ?_ 1 _ rfl; (with_reducible repeat (first | refine blk_drewN ?_ _ | refine blk_drew ?_ | refine blk_alloc ?_ _)); refine blk_put (cs := #[.int .i64 0, .int .i64 0, .int .i64 0, .int .i64 0, .int .i64 0, .int .i64 0]) ?_ 0 _ rfl; (with_reducible repeat (first | refine blk_drewN ?_ _ | refine blk_drew ?_ | refine blk_alloc ?_ _)); exact BK120.out) Tryz.underlying33 rfl (by kernel_rfl)) rfl ?_
 exact ⟨by first | rfl | (simp [errW_none, errW_some] <;> rfl) | (simp [*, errW_none, errW_some] <;> rfl), by repeat (with_reducible first | exact HB.out | apply below_alloc | apply pw_below_drewN | apply below_drew1 | refine below_set ?_ GE119.out | refine below_set ?_ GE120.out)⟩
end Go.Proofs.YtjpcdkhapeejjaaGreatDoor.A
