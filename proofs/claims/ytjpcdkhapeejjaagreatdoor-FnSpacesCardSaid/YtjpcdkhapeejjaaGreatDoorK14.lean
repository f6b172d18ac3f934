/- Steps of the proof of the law: contracts of functions of the given program, and plain lemmas about what they compute.
Conditions: none beyond those that each theorem names. -/
import Derived.Test.YtjpcdkhapeejjaaGreatDoorK11
set_option linter.unusedVariables false
set_option linter.unusedSimpArgs false
open Go.RowKit Go.Proofs.YtjpcdkhapeejjaaGreatDoorW.PrintWords Go.Proofs.YtjpcdkhapeejjaaGreatDoorW.PrintLast Go.Proofs.YtjpcdkhapeejjaaGreatDoorW.PrintMore
namespace Go.Proofs.YtjpcdkhapeejjaaGreatDoor.A
open Cal
set_option maxRecDepth 100000
attribute [local go_sem] hset_drewN halloc_drewN
set_option maxHeartbeats 4000000 in
theorem bump_2 (s : Int) (w : World) (h : InR s) (h2 : InR (s + 3600)) :
    Calls Tryz.prog 99 #[.agg #[.int .u64 0, .int .i64 s, .pointer none], .int .i64 2] w fun e w' => e = .returned (.agg #[.int .u64 0, .int .i64 ((s / 3600 + 1) * 3600), .pointer none]) ∧ Below w.heap.size w w' := by
  have hu63 := Tryz.underlying63
  have hb0 : 1000000 ≤ s ∧ s ≤ 100000000000 := by unfold InR at h; omega
  have hy := year_bd (s + 3600) h2
  have hm := mon_bd (s + 3600)
  have hd := day_bd (s + 3600)
  have hh := hour_bd (s + 3600)
  have hmi := min_bd (s + 3600)
  have hse := sec_bd (s + 3600)
  have eq : mkS (yearS (s + 3600)) (monS (s + 3600)) (dayS (s + 3600)) (hourS (s + 3600)) 0 0 = (s / 3600 + 1) * 3600 := by rw [mk_date]; unfold hourS; omega
  have DD := fun (g : Nat) (W : World) (hL : IsUTC W g) => Date_any (yearS (s + 3600)) (monS (s + 3600)) (dayS (s + 3600)) (hourS (s + 3600)) 0 0 g W hL hy.1 hy.2 hm.1 hm.2 (by omega) (by omega) hh.1 hh.2 (by omega) (by omega) (by omega) (by omega)
  rw [eq] at DD
  have DA := Aside0.mk DD
  have HI := Aside0.mk h2
  clear DD
  have hlt : s < (s / 3600 + 1) * 3600 := by omega
  have HA := Aside0.mk (fun W => After_yes ((s / 3600 + 1) * 3600) s W hlt)
  clear eq hy hm hd hh hmi hse h h2 hlt
  generalize (s / 3600 + 1) * 3600 = nx at *
  go_enter Tryz.func99, Tryz.ntmps99
  go_wp2_with fail
  refine (Location_any s _).mono ?_
  rintro e w1 ⟨g, rfl, hL, hb, hg⟩
  have HM := Aside0.mk ((Mem.start2 w _ _).join hb hg hL)
  clear hL hb hg
  obtain ⟨⟨c0, c1, c2⟩, _, _⟩ := HM.out.c3 2 rfl
  go_wp2_with fail
  refine (Add_3600 s _ hb0.1 hb0.2).mono ?_
  rintro e w2 ⟨rfl, hb⟩
  have HN := Aside0.mk (HM.out.step hb)
  clear HM hb c0 c1 c2
  have HM := HN
  clear HN
  go_wp2_with fail
  have HN := Aside0.mk (HM.out.new (tb (s + 3600)))
  unfold tb at HN
  clear HM
  have HM := HN
  clear HN
  obtain ⟨⟨d0, d1, d2⟩, _, _⟩ := HM.out.c3 0 rfl
  go_upto_region 13 with fail
  go_cut [9] (fun s7 wx => ∃ g7 : Nat, s7 = .pointer (some ⟨g7, 0, none⟩) ∧ Aside0 (Mem w [(g7, tb nx), (w2.heap.size, tb (s + 3600)), (g, utcO), (w.heap.size + 1, tb 0), (w.heap.size, tb s)] wx))
  case first =>
    go_region_held3 (fun w' => w'.cell? ⟨w2.heap.size, 0, none⟩ = some (.int .u64 0) ∧ w'.cell? ⟨w2.heap.size, 1, none⟩ = some (.int .i64 (s + 3600)) ∧ w'.cell? ⟨w2.heap.size, 2, none⟩ = some (.pointer none))
      (first | exact (HM.out.drew.c3 0 rfl).1 | exact (HM.out.c3 0 rfl).1 | exact (HM.out.c3 1 rfl).1 | exact ((HM.out.new _).c3 1 rfl).1 | exact ((HM.out.drew.new _).c3 1 rfl).1 | exact ((HM.out.new _).drew.c3 1 rfl).1 | exact ((HM.out.set3 0 rfl _ _ _).c3 1 rfl).1 | exact ((HM.out.set3 3 rfl _ _ _).c3 0 rfl).1)
      (first
        | (go_at_call 63; with_reducible refine (Year_any _ _ HI.out).mono ?_; rintro e wz ⟨rfl, hb⟩; (first | have HN := Aside0.mk (HM.out.step hb) | have HN := Aside0.mk (HM.out.drew.step hb) | have HN := Aside0.mk ((HM.out.new _).step hb) | have HN := Aside0.mk ((HM.out.drew.new _).step hb) | have HN := Aside0.mk ((HM.out.new _).drew.step hb)); clear hb HM; have HM := HN; clear HN; (try (rw [World.size_alloc] at HM)))
        | (go_at_call 121; with_reducible refine (Month_any _ _ HI.out).mono ?_; rintro e wz ⟨rfl, hb⟩; (first | have HN := Aside0.mk (HM.out.step hb) | have HN := Aside0.mk (HM.out.drew.step hb) | have HN := Aside0.mk ((HM.out.new _).step hb) | have HN := Aside0.mk ((HM.out.drew.new _).step hb) | have HN := Aside0.mk ((HM.out.new _).drew.step hb)); clear hb HM; have HM := HN; clear HN; (try (rw [World.size_alloc] at HM)))
        | (go_at_call 122; with_reducible refine (Day_any _ _ HI.out).mono ?_; rintro e wz ⟨rfl, hb⟩; (first | have HN := Aside0.mk (HM.out.step hb) | have HN := Aside0.mk (HM.out.drew.step hb) | have HN := Aside0.mk ((HM.out.new _).step hb) | have HN := Aside0.mk ((HM.out.drew.new _).step hb) | have HN := Aside0.mk ((HM.out.new _).drew.step hb)); clear hb HM; have HM := HN; clear HN; (try (rw [World.size_alloc] at HM)))
        | (go_at_call 123; with_reducible refine (Hour_any _ _ HI.out).mono ?_; rintro e wz ⟨rfl, hb⟩; (first | have HN := Aside0.mk (HM.out.step hb) | have HN := Aside0.mk (HM.out.drew.step hb) | have HN := Aside0.mk ((HM.out.new _).step hb) | have HN := Aside0.mk ((HM.out.drew.new _).step hb) | have HN := Aside0.mk ((HM.out.new _).drew.step hb)); clear hb HM; have HM := HN; clear HN; (try (rw [World.size_alloc] at HM)))
        | (go_at_call 49; (first | (with_reducible refine (DA.out _ _ (HM.out.utc 1 rfl)).mono ?_) | (with_reducible refine (DA.out _ _ (HM.out.utc 2 rfl)).mono ?_) | (with_reducible refine (DA.out _ _ ((HM.out.new _).utc 2 rfl)).mono ?_) | (with_reducible refine (DA.out _ _ ((HM.out.drew.new _).utc 2 rfl)).mono ?_)); rintro e wz ⟨rfl, hb⟩; (first | have HN := Aside0.mk (HM.out.step hb) | have HN := Aside0.mk (HM.out.drew.step hb) | have HN := Aside0.mk ((HM.out.new _).step hb) | have HN := Aside0.mk ((HM.out.drew.new _).step hb) | have HN := Aside0.mk ((HM.out.new _).drew.step hb)); clear hb HM; have HM := HN; clear HN; (try (rw [World.size_alloc] at HM)); (try (obtain ⟨⟨n0, n1, n2⟩, ⟨m0, m1, m2⟩, n3⟩ := HM.out.c3 0 rfl))))
    all_goals (go_wp2_with fail; go_meet; exact ⟨_, rfl, (by first | exact ⟨HM.out.set3 0 rfl _ _ _⟩ | exact ⟨HM.out.new _⟩)⟩)
  case rest =>
    obtain ⟨g7, rfl, HM⟩ := hcut
    unfold tb at HM
    obtain ⟨⟨n0, n1, n2⟩, ⟨n3, n4, n5⟩, n6⟩ := HM.out.c3 0 rfl
    obtain ⟨⟨c0, c1, c2⟩, ⟨c3, c4, c5⟩, c6⟩ := HM.out.c3 4 rfl
    go_wp2_with fail
    refine (HA.out _).mono ?_
    rintro e wz ⟨rfl, hb⟩
    clear n0 n1 n2 n3 n4 n5 n6 c0 c1 c2 c3 c4 c5 c6
    have HN := Aside0.mk (HM.out.step hb)
    clear hb HM
    have HM := HN
    clear HN
    obtain ⟨⟨n0, n1, n2⟩, ⟨n3, n4, n5⟩, n6⟩ := HM.out.c3 0 rfl
    obtain ⟨⟨c0, c1, c2⟩, ⟨c3, c4, c5⟩, c6⟩ := HM.out.c3 4 rfl
    obtain ⟨⟨r0, r1, r2⟩, ⟨r3, r4, r5⟩, r6⟩ := HM.out.c3 3 rfl
    go_wp2_with fail
    have HF := (HM.out.set3 4 rfl (.int .u64 0) (.int .i64 nx) (.pointer none)).set3 3 rfl (.int .u64 0) (.int .i64 nx) (.pointer none)
    have H3 := HF.at_ 3 (p := (w.heap.size + 1, .cells #[.int .u64 0, .int .i64 nx, .pointer none] 63 (0, 0))) rfl
    have HO := HF.out
    clear HF
    exact bodyPost_ret (results_cell_row rfl _ _ (w.heap.size + 1) 63 #[.int .u64 0, .int .i64 nx, .pointer none] (0, 0) _ rfl H3 Tryz.underlying63 rfl (by kernel_rfl)) rfl ⟨rfl, HO⟩
end Go.Proofs.YtjpcdkhapeejjaaGreatDoor.A
