/- Steps of the proof of the law: contracts of functions of the given program, and plain lemmas about what they compute.
Conditions: none beyond those that each theorem names. -/
import Derived.Test.YtjpcdkhapeejjaaGreatDoorK11
set_option linter.unusedVariables false
set_option linter.unusedSimpArgs false
open Go.RowKit Go.Proofs.YtjpcdkhapeejjaaGreatDoorW.PrintWords Go.Proofs.YtjpcdkhapeejjaaGreatDoorW.PrintLast Go.Proofs.YtjpcdkhapeejjaaGreatDoorW.PrintMore
namespace Go.Proofs.YtjpcdkhapeejjaaGreatDoor.A
open Cal
set_option maxRecDepth 100000
attribute [local go_sem] hset_drewN halloc_drewN
set_option maxHeartbeats 4000000 in
theorem bump_0 (s : Int) (w : World) (h : InR s) :
    Calls Tryz.prog 99 #[.agg #[.int .u64 0, .int .i64 s, .pointer none], .int .i64 0] w fun e w' => e = .returned (.agg #[.int .u64 0, .int .i64 (s + 1), .pointer none]) ∧ Below w.heap.size w w' := by
  have hu63 := Tryz.underlying63
  have hb0 : 1000000 ≤ s ∧ s ≤ 100000000000 := by unfold InR at h; omega
  go_enter Tryz.func99, Tryz.ntmps99
  go_wp2_with fail
  refine (Location_any s _).mono ?_
  rintro e w1 ⟨g, rfl, hL, hb, hg⟩
  have HM := Aside0.mk ((Mem.start2 w _ _).join hb hg hL)
  clear hL hb hg
  obtain ⟨⟨c0, c1, c2⟩, _, _⟩ := HM.out.c3 2 rfl
  go_wp2_with fail
  refine (Add_1 s _ hb0.1 hb0.2).mono ?_
  rintro e w2 ⟨rfl, hb⟩
  have HN := Aside0.mk (HM.out.step hb)
  clear HM hb c0 c1 c2
  have HM := HN
  clear HN
  obtain ⟨⟨p0, p1, p2⟩, ⟨p3, p4, p5⟩, p6⟩ := HM.out.c3 2 rfl
  obtain ⟨⟨q0, q1, q2⟩, ⟨q3, q4, q5⟩, q6⟩ := HM.out.c3 1 rfl
  go_wp2_with fail
  have HF := (HM.out.set3 2 rfl (.int .u64 0) (.int .i64 (s + 1)) (.pointer none)).set3 1 rfl (.int .u64 0) (.int .i64 (s + 1)) (.pointer none)
  have H3 := HF.at_ 1 (p := (w.heap.size + 1, .cells #[.int .u64 0, .int .i64 (s + 1), .pointer none] 63 (0, 0))) rfl
  have HO := HF.out
  clear HF
  exact bodyPost_ret (results_cell_row rfl _ _ (w.heap.size + 1) 63 #[.int .u64 0, .int .i64 (s + 1), .pointer none] (0, 0) _ rfl H3 Tryz.underlying63 rfl (by kernel_rfl)) rfl ⟨rfl, HO⟩
end Go.Proofs.YtjpcdkhapeejjaaGreatDoor.A
