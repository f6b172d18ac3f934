/- Steps of the proof of the law: contracts of functions of the given program, and plain lemmas about what they compute.
Conditions: none beyond those that each theorem names. -/
import Derived.Test.YtjpcdkhapeejjaaGreatDoorK11
set_option linter.unusedVariables false
set_option linter.unusedSimpArgs false
open Go.RowKit Go.Proofs.YtjpcdkhapeejjaaGreatDoorW.PrintWords Go.Proofs.YtjpcdkhapeejjaaGreatDoorW.PrintLast Go.Proofs.YtjpcdkhapeejjaaGreatDoorW.PrintMore
namespace Go.Proofs.YtjpcdkhapeejjaaGreatDoor.A
open Cal
set_option maxRecDepth 100000
attribute [local go_sem] hset_drewN halloc_drewN
set_option maxHeartbeats 4000000 in
theorem bumpR_4 (s : Int) (w : World) (h : InR s) (h2 : InR (monStart s)) :
    Calls Tryz.prog 98 #[.agg #[.int .u64 0, .int .i64 s, .pointer none], .int .i64 4] w fun e w' => e = .returned (.agg #[.int .u64 0, .int .i64 (monStart s - 1), .pointer none]) ∧ Below w.heap.size w w' := by
  have hu63 := Tryz.underlying63
  have hb0 : 1000000 ≤ s ∧ s ≤ 100000000000 := by unfold InR at h; omega
  have hy := year_bd s h
  have hm := mon_bd s
  have DD := fun (g : Nat) (W : World) (hL : IsUTC W g) => Date_any (yearS s) (monS s) 1 0 0 0 g W hL hy.1 hy.2 hm.1 hm.2 (by omega) (by omega) (by omega) (by omega) (by omega) (by omega) (by omega) (by omega)
  have DA := Aside0.mk DD
  have HI := Aside0.mk h
  clear DD
  have hr : 1000000 ≤ monStart s ∧ monStart s ≤ 100000000000 := by unfold InR at h2; omega
  have AA := Aside0.mk (fun W => Add_m1 (monStart s) W hr.1 hr.2)
  clear hy hm h h2 hr
  have eM : mkS (yearS s) (monS s) 1 0 0 0 = monStart s := rfl
  rw [eM] at DA
  clear eM
  generalize monStart s = ms at *
  go_enter Tryz.func98, Tryz.ntmps98
  go_wp2_with fail
  refine (Location_any s _).mono ?_
  rintro e w1 ⟨g, rfl, hL, hb, hg⟩
  have HM := Aside0.mk ((Mem.start2 w _ _).join hb hg hL)
  clear hL hb hg
  obtain ⟨⟨c0, c1, c2⟩, _, _⟩ := HM.out.c3 2 rfl
  go_wp2_with fail
  go_region_with (first
    | (go_at_call 63; with_reducible refine (Year_any _ _ HI.out).mono ?_; rintro e wz ⟨rfl, hb⟩; (first | have HN := Aside0.mk (HM.out.step hb) | have HN := Aside0.mk (HM.out.drew.step hb) | have HN := Aside0.mk ((HM.out.new _).step hb) | have HN := Aside0.mk ((HM.out.drew.new _).step hb) | have HN := Aside0.mk ((HM.out.new _).drew.step hb)); clear hb HM; have HM := HN; clear HN; (try (rw [World.size_alloc] at HM)); obtain ⟨⟨p0, p1, p2⟩, _, _⟩ := HM.out.c3 2 rfl)
    | (go_at_call 121; with_reducible refine (Month_any _ _ HI.out).mono ?_; rintro e wz ⟨rfl, hb⟩; (first | have HN := Aside0.mk (HM.out.step hb) | have HN := Aside0.mk (HM.out.drew.step hb) | have HN := Aside0.mk ((HM.out.new _).step hb) | have HN := Aside0.mk ((HM.out.drew.new _).step hb) | have HN := Aside0.mk ((HM.out.new _).drew.step hb)); clear hb HM; have HM := HN; clear HN; (try (rw [World.size_alloc] at HM)); obtain ⟨⟨p0, p1, p2⟩, _, _⟩ := HM.out.c3 2 rfl)
    | (go_at_call 49; (first | (with_reducible refine (DA.out _ _ (HM.out.utc 0 rfl)).mono ?_) | (with_reducible refine (DA.out _ _ (HM.out.utc 1 rfl)).mono ?_) | (with_reducible refine (DA.out _ _ ((HM.out.new _).utc 1 rfl)).mono ?_) | (with_reducible refine (DA.out _ _ ((HM.out.drew.new _).utc 1 rfl)).mono ?_)); rintro e wz ⟨rfl, hb⟩; (first | have HN := Aside0.mk (HM.out.step hb) | have HN := Aside0.mk (HM.out.drew.step hb) | have HN := Aside0.mk ((HM.out.new _).step hb) | have HN := Aside0.mk ((HM.out.drew.new _).step hb) | have HN := Aside0.mk ((HM.out.new _).drew.step hb)); clear hb HM; have HM := HN; clear HN; (try (rw [World.size_alloc] at HM)); obtain ⟨⟨n0, n1, n2⟩, ⟨m0, m1, m2⟩, n3⟩ := HM.out.c3 2 rfl))
  all_goals
    have HN := Aside0.mk (HM.out.set3 2 rfl (.int .u64 0) (.int .i64 ms) (.pointer none))
    clear HM n0 n1 n2 m0 m1 m2 n3
    have HM := HN
    clear HN
    obtain ⟨⟨p0, p1, p2⟩, ⟨p3, p4, p5⟩, p6⟩ := HM.out.c3 2 rfl
    go_wp2_with fail
    refine (AA.out _).mono ?_
    rintro e wy ⟨rfl, hb⟩
    have HN := Aside0.mk (HM.out.step hb)
    clear HM hb p0 p1 p2 p3 p4 p5 p6
    have HM := HN
    clear HN
    obtain ⟨⟨p0, p1, p2⟩, ⟨p3, p4, p5⟩, p6⟩ := HM.out.c3 2 rfl
    obtain ⟨⟨q0, q1, q2⟩, ⟨q3, q4, q5⟩, q6⟩ := HM.out.c3 1 rfl
    go_wp2_with fail
    have HF := (HM.out.set3 2 rfl (.int .u64 0) (.int .i64 (ms - 1)) (.pointer none)).set3 1 rfl (.int .u64 0) (.int .i64 (ms - 1)) (.pointer none)
    have H3 := HF.at_ 1 (p := (w.heap.size + 1, .cells #[.int .u64 0, .int .i64 (ms - 1), .pointer none] 63 (0, 0))) rfl
    have HO := HF.out
    clear HF
    exact bodyPost_ret (results_cell_row rfl _ _ (w.heap.size + 1) 63 #[.int .u64 0, .int .i64 (ms - 1), .pointer none] (0, 0) _ rfl H3 Tryz.underlying63 rfl (by kernel_rfl)) rfl ⟨rfl, HO⟩
end Go.Proofs.YtjpcdkhapeejjaaGreatDoor.A
