/- Steps of the proof of the law: contracts of functions of the given program, and plain lemmas about what they compute.
Conditions: none beyond those that each theorem names. -/
import Derived.Test.YtjpcdkhapeejjaaGreatDoorK42
import Derived.Test.YtjpcdkhapeejjaaGreatDoorK49
set_option linter.unusedVariables false
set_option linter.unusedSimpArgs false
section
namespace Go.Proofs.YtjpcdkhapeejjaaGreatDoor.A
open Go.RowKit Cal Go.Proofs.YtjpcdkhapeejjaaGreatDoorW.PrintWords Go.Proofs.YtjpcdkhapeejjaaGreatDoorW.PrintLast Go.Proofs.YtjpcdkhapeejjaaGreatDoorW.PrintMore
set_option maxRecDepth 100000
attribute [local go_sem] hset_drewN halloc_drewN
instance (y m d h mi se : Int) : Decidable (MomIn y m d h mi se) :=
  decidable_of_iff (1988 ≤ y ∧ y ≤ 2109 ∧ 1 ≤ m ∧ m ≤ 12 ∧ 0 ≤ d ∧ d ≤ 32 ∧ 0 ≤ h ∧ h ≤ 23 ∧ 0 ≤ mi ∧ mi ≤ 59 ∧ 0 ≤ se ∧ se ≤ 59) ⟨fun ⟨a, b, c, d, e, f, g, h, i, j, k, l⟩ => ⟨a, b, c, d, e, f, g, h, i, j, k, l⟩, fun q => ⟨q.y0, q.y1, q.m0, q.m1, q.d0, q.d1, q.h0, q.h1, q.mi0, q.mi1, q.s0, q.s1⟩⟩
set_option maxHeartbeats 8000000 in
theorem implDue_any (k : Nat) (ex : ByteArray) (segs : List ByteArray) (y m d h mi se : Int) (b : Bool) (w : World) (hM : MomIn y m d h mi se) (hs : gronx_Segments.f k ex = some (segs, none)) (hl : segs.length = 6) (hd : sdue k segs (mkS y m d h mi se) segs.length = some b) :
    Calls Tryz.prog 21 #[.string ex, .agg #[.int .i64 y, .int .i64 m, .int .i64 d, .int .i64 h, .int .i64 mi, .int .i64 se]] w fun e w' => e = .returned (.tuple #[.bool b, .bool true]) ∧ Below w.heap.size w w' := by
  have hu63 := Tryz.underlying63
  have hu26 := Tryz.underlying26
  have hu65 := Tryz.underlying65
  have HM := Aside0.mk ((Mem.start w).new (mo y m d h mi se))
  have TO := Aside0.mk fun W => timeOf_in y m d h mi se W hM
  have HSg := Aside0.mk hs
  have HNn : Aside0 (0 < segs.length) := ⟨by omega⟩
  have HL7 : Aside0 (segs.length ≤ 7) := ⟨by omega⟩
  obtain ⟨ms, hms⟩ : ∃ x : Int, mkS y m d h mi se = x := ⟨_, rfl⟩
  rw [hms] at TO hd
  have HD := Aside0.mk hd
  clear hM hs hl hd hms
  obtain ⟨k0, k1, k2, k3, k4, k5⟩ := mo_cells (HM.out.at_ 0 rfl)
  go_enter Tryz.func21, Tryz.ntmps21
  go_upto_region 1 with fail
  go_cut [6, 7] (fun s6 s7 wx => s6 = .bool b ∧ s7 = .nilIface ∧ Below w.heap.size w wx)
  case first =>
    go_region_held3 (fun w' => w'.cell? ⟨w.heap.size, 0, none⟩ = some (.int .i64 y) ∧ w'.cell? ⟨w.heap.size, 1, none⟩ = some (.int .i64 m) ∧ w'.cell? ⟨w.heap.size, 2, none⟩ = some (.int .i64 d) ∧ w'.cell? ⟨w.heap.size, 3, none⟩ = some (.int .i64 h) ∧ w'.cell? ⟨w.heap.size, 4, none⟩ = some (.int .i64 mi) ∧ w'.cell? ⟨w.heap.size, 5, none⟩ = some (.int .i64 se))
      (first | exact mo_cells (HM.out.at_ 0 rfl) | exact mo_cells (HM.out.at_ 1 rfl) | exact mo_cells (HM.out.at_ 2 rfl) | exact mo_cells (HM.out.at_ 3 rfl) | exact mo_cells (HM.out.drew.at_ 0 rfl) | exact mo_cells (HM.out.drew.at_ 1 rfl) | exact mo_cells (HM.out.drew.at_ 2 rfl) | exact mo_cells (HM.out.drew.at_ 3 rfl) | exact mo_cells ((HM.out.drewN _).at_ 0 rfl) | exact mo_cells ((HM.out.drewN _).at_ 1 rfl) | exact mo_cells ((HM.out.drewN _).at_ 2 rfl) | exact mo_cells ((HM.out.drewN _).at_ 3 rfl) | exact mo_cells ((HM.out.new (tb ms)).at_ 0 rfl) | exact mo_cells ((HM.out.new (tb ms)).at_ 1 rfl) | exact mo_cells ((HM.out.new (tb ms)).at_ 2 rfl) | exact mo_cells ((HM.out.new (tb ms)).at_ 3 rfl) | exact mo_cells ((HM.out.new (tb ms)).drew.at_ 0 rfl) | exact mo_cells ((HM.out.new (tb ms)).drew.at_ 1 rfl) | exact mo_cells ((HM.out.new (tb ms)).drew.at_ 2 rfl) | exact mo_cells ((HM.out.new (tb ms)).drew.at_ 3 rfl) | exact mo_cells (((HM.out.new (tb ms)).drewN _).at_ 0 rfl) | exact mo_cells (((HM.out.new (tb ms)).drewN _).at_ 1 rfl) | exact mo_cells (((HM.out.new (tb ms)).drewN _).at_ 2 rfl) | exact mo_cells (((HM.out.new (tb ms)).drewN _).at_ 3 rfl))
      (first
        | (go_at_call 36; (with_reducible refine (New_o _).mono ?_); rintro e wz ⟨gG, gC, rfl, hmm⟩; (first | have HN := Aside0.mk (hmm _ _ HM.out) | have HN := Aside0.mk (hmm _ _ HM.out.drew) | have HN := Aside0.mk (hmm _ _ (HM.out.new (tb ms))) | have HN := Aside0.mk (hmm _ _ (HM.out.new (tb ms)).drew) | have HN := Aside0.mk (hmm _ _ (HM.out.drewN _)) | have HN := Aside0.mk (hmm _ _ ((HM.out.new (tb ms)).drewN _))); clear HM hmm; have HM := HN; clear HN)
        | (go_at_call 31; (with_reducible refine (TO.out _).mono ?_); rintro e wz ⟨rfl, hb⟩; (first | have HN := Aside0.mk (HM.out.step hb) | have HN := Aside0.mk (HM.out.drew.step hb) | have HN := Aside0.mk ((HM.out.drewN _).step hb)); clear HM hb; have HM := HN; clear HN)
        | (go_at_call 37; (first
          | (with_reducible refine (IsDue_any k gG gC _ 2 1 0 ex segs ms 0 b _ w _ (HM.out.new (tb ms)) rfl rfl rfl (by decide) (by decide) HSg.out HNn.out HL7.out HD.out).mono ?_)
          | (with_reducible refine (IsDue_any k gG gC _ 2 1 0 ex segs ms 0 b _ w _ (HM.out.new (tb ms)).drew rfl rfl rfl (by decide) (by decide) HSg.out HNn.out HL7.out HD.out).mono ?_)
          | (with_reducible refine (IsDue_any k gG gC _ 2 1 0 ex segs ms 0 b _ w _ ((HM.out.new (tb ms)).drewN _) rfl rfl rfl (by decide) (by decide) HSg.out HNn.out HL7.out HD.out).mono ?_)
          | (refine (IsDue_any k gG gC _ 2 1 0 ex segs ms 0 b _ w _ (HM.out.new (tb ms)) rfl rfl rfl (by decide) (by decide) HSg.out HNn.out HL7.out HD.out).mono ?_)
          | (refine (IsDue_any k gG gC _ 2 1 0 ex segs ms 0 b _ w _ (HM.out.new (tb ms)).drew rfl rfl rfl (by decide) (by decide) HSg.out HNn.out HL7.out HD.out).mono ?_)
          | (refine (IsDue_any k gG gC _ 2 1 0 ex segs ms 0 b _ w _ ((HM.out.new (tb ms)).drewN _) rfl rfl rfl (by decide) (by decide) HSg.out HNn.out HL7.out HD.out).mono ?_)
          | (with_reducible refine (IsDue_any k gG gC _ 2 1 0 ex segs ms 0 b _ w _ HM.out rfl rfl rfl (by decide) (by decide) HSg.out HNn.out HL7.out HD.out).mono ?_)
          | (with_reducible refine (IsDue_any k gG gC _ 2 1 0 ex segs ms 0 b _ w _ HM.out.drew rfl rfl rfl (by decide) (by decide) HSg.out HNn.out HL7.out HD.out).mono ?_)
          | (with_reducible refine (IsDue_any k gG gC _ 2 1 0 ex segs ms 0 b _ w _ (HM.out.drewN _) rfl rfl rfl (by decide) (by decide) HSg.out HNn.out HL7.out HD.out).mono ?_)
          | (with_reducible refine (IsDue_any k gG gC _ 1 0 2 ex segs ms 0 b _ w _ HM.out rfl rfl rfl (by decide) (by decide) HSg.out HNn.out HL7.out HD.out).mono ?_)
          | (with_reducible refine (IsDue_any k gG gC _ 1 0 2 ex segs ms 0 b _ w _ HM.out.drew rfl rfl rfl (by decide) (by decide) HSg.out HNn.out HL7.out HD.out).mono ?_)
          | (with_reducible refine (IsDue_any k gG gC _ 1 0 2 ex segs ms 0 b _ w _ (HM.out.drewN _) rfl rfl rfl (by decide) (by decide) HSg.out HNn.out HL7.out HD.out).mono ?_)); rintro e wz ⟨rfl, hmz⟩; have HN := Aside0.mk hmz; clear HM hmz; have HM := HN; clear HN))
    all_goals (go_wp2_with fail; go_meet; exact ⟨rfl, rfl, by first | exact HM.out.below | exact HM.out.drew.below | exact (HM.out.drewN _).below⟩)
  case rest =>
    obtain ⟨rfl, rfl, HB⟩ := hcut
    clear HM
    go_upto_region 2 with fail
    go_cut [4, 5] (fun s4 s5 wx => s4 = .bool b ∧ s5 = .bool true ∧ Below w.heap.size w wx)
    case first =>
      go_region_with fail
      all_goals (go_wp2_with fail; go_meet; exact ⟨rfl, rfl, by first | exact HB | exact HB.drew | exact pw_below_drewN HB _⟩)
    case rest =>
      obtain ⟨rfl, rfl, HB2⟩ := hcut
      go_wp2
      go_ret2
      exact ⟨rfl, HB2⟩
end Go.Proofs.YtjpcdkhapeejjaaGreatDoor.A
end
