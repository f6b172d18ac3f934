/- Steps of the proof of the law: contracts of functions of the given program, and plain lemmas about what they compute.
Conditions: none beyond those that each theorem names. -/
import Derived.Test.YtjpcdkhapeejjaaGreatDoorK11
set_option linter.unusedVariables false
set_option linter.unusedSimpArgs false
open Go.RowKit Go.Proofs.YtjpcdkhapeejjaaGreatDoorW.PrintWords Go.Proofs.YtjpcdkhapeejjaaGreatDoorW.PrintLast Go.Proofs.YtjpcdkhapeejjaaGreatDoorW.PrintMore
namespace Go.Proofs.YtjpcdkhapeejjaaGreatDoor.A
open Cal
set_option maxRecDepth 100000
attribute [local go_sem] hset_drewN halloc_drewN
set_option maxHeartbeats 4000000 in
theorem bumpR_3 (s : Int) (w : World) (h : InR s) (h2 : InR (s - 86400)) :
    Calls Tryz.prog 98 #[.agg #[.int .u64 0, .int .i64 s, .pointer none], .int .i64 3] w fun e w' => e = .returned (.agg #[.int .u64 0, .int .i64 (s / 86400 * 86400 - 1), .pointer none]) ∧ Below w.heap.size w w' := by
  have hu63 := Tryz.underlying63
  have hb0 : 1000000 ≤ s ∧ s ≤ 100000000000 := by unfold InR at h; omega
  have hy0 := year_bd s h
  have hm0 := mon_bd s
  have hd0 := day_bd s
  have eqA : mkS (yearS s) (monS s + 0) (dayS s + (-1)) (hourS s) (minS s) (secS s) = s - 86400 := by
    have := clock_rt s
    rw [Int.add_zero, mk_day]; omega
  have AD := fun W => AddDate_any s 0 (-1) W h hy0.1 hy0.2 (by omega) (by omega) (by omega) (by omega) (by omega) (by omega) (by omega) (by omega)
  rw [eqA] at AD
  have AA := Aside0.mk AD
  clear AD eqA hy0 hm0 hd0
  have hy := year_bd (s - 86400) h2
  have hm := mon_bd (s - 86400)
  have hd := day_bd (s - 86400)
  have hh := hour_bd (s - 86400)
  have hmi := min_bd (s - 86400)
  have hse := sec_bd (s - 86400)
  have eq : mkS (yearS (s - 86400)) (monS (s - 86400)) (dayS (s - 86400)) 23 59 59 = s / 86400 * 86400 - 1 := by rw [mk_date]; omega
  have DD := fun (g : Nat) (W : World) (hL : IsUTC W g) => Date_any (yearS (s - 86400)) (monS (s - 86400)) (dayS (s - 86400)) 23 59 59 g W hL hy.1 hy.2 hm.1 hm.2 (by omega) (by omega) (by omega) (by omega) (by omega) (by omega) (by omega) (by omega)
  rw [eq] at DD
  have DA := Aside0.mk DD
  have HI := Aside0.mk h2
  clear DD
  clear eq hy hm hd hh hmi hse h h2
  generalize s / 86400 * 86400 - 1 = nx at *
  go_enter Tryz.func98, Tryz.ntmps98
  go_wp2_with fail
  refine (Location_any s _).mono ?_
  rintro e w1 ⟨g, rfl, hL, hb, hg⟩
  have HM := Aside0.mk ((Mem.start2 w _ _).join hb hg hL)
  clear hL hb hg
  obtain ⟨⟨c0, c1, c2⟩, _, _⟩ := HM.out.c3 2 rfl
  go_wp2_with fail
  refine (AA.out _).mono ?_
  rintro e w2 ⟨rfl, hb⟩
  have HN := Aside0.mk (HM.out.step hb)
  clear HM hb c0 c1 c2
  have HM := HN
  clear HN
  go_wp2_with fail
  have HN := Aside0.mk (HM.out.new (tb (s - 86400)))
  unfold tb at HN
  clear HM
  have HM := HN
  clear HN
  obtain ⟨⟨d0, d1, d2⟩, _, _⟩ := HM.out.c3 0 rfl
  go_upto_region 14 with fail
  go_region_held3 (fun w' => w'.cell? ⟨w2.heap.size, 0, none⟩ = some (.int .u64 0) ∧ w'.cell? ⟨w2.heap.size, 1, none⟩ = some (.int .i64 (s - 86400)) ∧ w'.cell? ⟨w2.heap.size, 2, none⟩ = some (.pointer none))
    (first | exact (HM.out.drew.c3 0 rfl).1 | exact (HM.out.c3 0 rfl).1 | exact (HM.out.c3 1 rfl).1 | exact ((HM.out.new _).c3 1 rfl).1 | exact ((HM.out.drew.new _).c3 1 rfl).1 | exact ((HM.out.new _).drew.c3 1 rfl).1 | exact ((HM.out.set3 0 rfl _ _ _).c3 1 rfl).1 | exact ((HM.out.set3 3 rfl _ _ _).c3 0 rfl).1)
    (first
        | (go_at_call 63; with_reducible refine (Year_any _ _ HI.out).mono ?_; rintro e wz ⟨rfl, hb⟩; (first | have HN := Aside0.mk (HM.out.step hb) | have HN := Aside0.mk (HM.out.drew.step hb) | have HN := Aside0.mk ((HM.out.new _).step hb) | have HN := Aside0.mk ((HM.out.drew.new _).step hb) | have HN := Aside0.mk ((HM.out.new _).drew.step hb)); clear hb HM; have HM := HN; clear HN; (try (rw [World.size_alloc] at HM)))
        | (go_at_call 121; with_reducible refine (Month_any _ _ HI.out).mono ?_; rintro e wz ⟨rfl, hb⟩; (first | have HN := Aside0.mk (HM.out.step hb) | have HN := Aside0.mk (HM.out.drew.step hb) | have HN := Aside0.mk ((HM.out.new _).step hb) | have HN := Aside0.mk ((HM.out.drew.new _).step hb) | have HN := Aside0.mk ((HM.out.new _).drew.step hb)); clear hb HM; have HM := HN; clear HN; (try (rw [World.size_alloc] at HM)))
        | (go_at_call 122; with_reducible refine (Day_any _ _ HI.out).mono ?_; rintro e wz ⟨rfl, hb⟩; (first | have HN := Aside0.mk (HM.out.step hb) | have HN := Aside0.mk (HM.out.drew.step hb) | have HN := Aside0.mk ((HM.out.new _).step hb) | have HN := Aside0.mk ((HM.out.drew.new _).step hb) | have HN := Aside0.mk ((HM.out.new _).drew.step hb)); clear hb HM; have HM := HN; clear HN; (try (rw [World.size_alloc] at HM)))
        | (go_at_call 49; (first | (with_reducible refine (DA.out _ _ (HM.out.utc 1 rfl)).mono ?_) | (with_reducible refine (DA.out _ _ (HM.out.utc 2 rfl)).mono ?_) | (with_reducible refine (DA.out _ _ ((HM.out.new _).utc 2 rfl)).mono ?_) | (with_reducible refine (DA.out _ _ ((HM.out.drew.new _).utc 2 rfl)).mono ?_)); rintro e wz ⟨rfl, hb⟩; (first | have HN := Aside0.mk (HM.out.step hb) | have HN := Aside0.mk (HM.out.drew.step hb) | have HN := Aside0.mk ((HM.out.new _).step hb) | have HN := Aside0.mk ((HM.out.drew.new _).step hb) | have HN := Aside0.mk ((HM.out.new _).drew.step hb)); clear hb HM; have HM := HN; clear HN; (try (rw [World.size_alloc] at HM)); obtain ⟨⟨n0, n1, n2⟩, ⟨m0, m1, m2⟩, n3⟩ := HM.out.c3 3 rfl))
  have HN := Aside0.mk (HM.out.set3 3 rfl (.int .u64 0) (.int .i64 nx) (.pointer none))
  clear HM n0 n1 n2 m0 m1 m2 n3
  have HM := HN
  clear HN
  obtain ⟨⟨p0, p1, p2⟩, ⟨p3, p4, p5⟩, p6⟩ := HM.out.c3 3 rfl
  obtain ⟨⟨q0, q1, q2⟩, ⟨q3, q4, q5⟩, q6⟩ := HM.out.c3 2 rfl
  go_wp2_with fail
  have HF := HM.out.set3 2 rfl (.int .u64 0) (.int .i64 nx) (.pointer none)
  have H3 := HF.at_ 2 (p := (w.heap.size + 1, .cells #[.int .u64 0, .int .i64 nx, .pointer none] 63 (0, 0))) rfl
  have HO := HF.out
  clear HF
  exact bodyPost_ret (results_cell_row rfl _ _ (w.heap.size + 1) 63 #[.int .u64 0, .int .i64 nx, .pointer none] (0, 0) _ rfl H3 Tryz.underlying63 rfl (by kernel_rfl)) rfl ⟨rfl, HO⟩
set_option maxHeartbeats 4000000 in
theorem bumpR_5 (s : Int) (w : World) (h : InR s) (h2 : InR (s - 86400)) :
    Calls Tryz.prog 98 #[.agg #[.int .u64 0, .int .i64 s, .pointer none], .int .i64 5] w fun e w' => e = .returned (.agg #[.int .u64 0, .int .i64 (s / 86400 * 86400 - 1), .pointer none]) ∧ Below w.heap.size w w' := by
  have hu63 := Tryz.underlying63
  have hb0 : 1000000 ≤ s ∧ s ≤ 100000000000 := by unfold InR at h; omega
  have hy0 := year_bd s h
  have hm0 := mon_bd s
  have hd0 := day_bd s
  have eqA : mkS (yearS s) (monS s + 0) (dayS s + (-1)) (hourS s) (minS s) (secS s) = s - 86400 := by
    have := clock_rt s
    rw [Int.add_zero, mk_day]; omega
  have AD := fun W => AddDate_any s 0 (-1) W h hy0.1 hy0.2 (by omega) (by omega) (by omega) (by omega) (by omega) (by omega) (by omega) (by omega)
  rw [eqA] at AD
  have AA := Aside0.mk AD
  clear AD eqA hy0 hm0 hd0
  have hy := year_bd (s - 86400) h2
  have hm := mon_bd (s - 86400)
  have hd := day_bd (s - 86400)
  have hh := hour_bd (s - 86400)
  have hmi := min_bd (s - 86400)
  have hse := sec_bd (s - 86400)
  have eq : mkS (yearS (s - 86400)) (monS (s - 86400)) (dayS (s - 86400)) 23 59 59 = s / 86400 * 86400 - 1 := by rw [mk_date]; omega
  have DD := fun (g : Nat) (W : World) (hL : IsUTC W g) => Date_any (yearS (s - 86400)) (monS (s - 86400)) (dayS (s - 86400)) 23 59 59 g W hL hy.1 hy.2 hm.1 hm.2 (by omega) (by omega) (by omega) (by omega) (by omega) (by omega) (by omega) (by omega)
  rw [eq] at DD
  have DA := Aside0.mk DD
  have HI := Aside0.mk h2
  clear DD
  clear eq hy hm hd hh hmi hse h h2
  generalize s / 86400 * 86400 - 1 = nx at *
  go_enter Tryz.func98, Tryz.ntmps98
  go_wp2_with fail
  refine (Location_any s _).mono ?_
  rintro e w1 ⟨g, rfl, hL, hb, hg⟩
  have HM := Aside0.mk ((Mem.start2 w _ _).join hb hg hL)
  clear hL hb hg
  obtain ⟨⟨c0, c1, c2⟩, _, _⟩ := HM.out.c3 2 rfl
  go_wp2_with fail
  refine (AA.out _).mono ?_
  rintro e w2 ⟨rfl, hb⟩
  have HN := Aside0.mk (HM.out.step hb)
  clear HM hb c0 c1 c2
  have HM := HN
  clear HN
  go_wp2_with fail
  have HN := Aside0.mk (HM.out.new (tb (s - 86400)))
  unfold tb at HN
  clear HM
  have HM := HN
  clear HN
  obtain ⟨⟨d0, d1, d2⟩, _, _⟩ := HM.out.c3 0 rfl
  go_upto_region 14 with fail
  go_region_held3 (fun w' => w'.cell? ⟨w2.heap.size, 0, none⟩ = some (.int .u64 0) ∧ w'.cell? ⟨w2.heap.size, 1, none⟩ = some (.int .i64 (s - 86400)) ∧ w'.cell? ⟨w2.heap.size, 2, none⟩ = some (.pointer none))
    (first | exact (HM.out.drew.c3 0 rfl).1 | exact (HM.out.c3 0 rfl).1 | exact (HM.out.c3 1 rfl).1 | exact ((HM.out.new _).c3 1 rfl).1 | exact ((HM.out.drew.new _).c3 1 rfl).1 | exact ((HM.out.new _).drew.c3 1 rfl).1 | exact ((HM.out.set3 0 rfl _ _ _).c3 1 rfl).1 | exact ((HM.out.set3 3 rfl _ _ _).c3 0 rfl).1)
    (first
        | (go_at_call 63; with_reducible refine (Year_any _ _ HI.out).mono ?_; rintro e wz ⟨rfl, hb⟩; (first | have HN := Aside0.mk (HM.out.step hb) | have HN := Aside0.mk (HM.out.drew.step hb) | have HN := Aside0.mk ((HM.out.new _).step hb) | have HN := Aside0.mk ((HM.out.drew.new _).step hb) | have HN := Aside0.mk ((HM.out.new _).drew.step hb)); clear hb HM; have HM := HN; clear HN; (try (rw [World.size_alloc] at HM)))
        | (go_at_call 121; with_reducible refine (Month_any _ _ HI.out).mono ?_; rintro e wz ⟨rfl, hb⟩; (first | have HN := Aside0.mk (HM.out.step hb) | have HN := Aside0.mk (HM.out.drew.step hb) | have HN := Aside0.mk ((HM.out.new _).step hb) | have HN := Aside0.mk ((HM.out.drew.new _).step hb) | have HN := Aside0.mk ((HM.out.new _).drew.step hb)); clear hb HM; have HM := HN; clear HN; (try (rw [World.size_alloc] at HM)))
        | (go_at_call 122; with_reducible refine (Day_any _ _ HI.out).mono ?_; rintro e wz ⟨rfl, hb⟩; (first | have HN := Aside0.mk (HM.out.step hb) | have HN := Aside0.mk (HM.out.drew.step hb) | have HN := Aside0.mk ((HM.out.new _).step hb) | have HN := Aside0.mk ((HM.out.drew.new _).step hb) | have HN := Aside0.mk ((HM.out.new _).drew.step hb)); clear hb HM; have HM := HN; clear HN; (try (rw [World.size_alloc] at HM)))
        | (go_at_call 49; (first | (with_reducible refine (DA.out _ _ (HM.out.utc 1 rfl)).mono ?_) | (with_reducible refine (DA.out _ _ (HM.out.utc 2 rfl)).mono ?_) | (with_reducible refine (DA.out _ _ ((HM.out.new _).utc 2 rfl)).mono ?_) | (with_reducible refine (DA.out _ _ ((HM.out.drew.new _).utc 2 rfl)).mono ?_)); rintro e wz ⟨rfl, hb⟩; (first | have HN := Aside0.mk (HM.out.step hb) | have HN := Aside0.mk (HM.out.drew.step hb) | have HN := Aside0.mk ((HM.out.new _).step hb) | have HN := Aside0.mk ((HM.out.drew.new _).step hb) | have HN := Aside0.mk ((HM.out.new _).drew.step hb)); clear hb HM; have HM := HN; clear HN; (try (rw [World.size_alloc] at HM)); obtain ⟨⟨n0, n1, n2⟩, ⟨m0, m1, m2⟩, n3⟩ := HM.out.c3 3 rfl))
  have HN := Aside0.mk (HM.out.set3 3 rfl (.int .u64 0) (.int .i64 nx) (.pointer none))
  clear HM n0 n1 n2 m0 m1 m2 n3
  have HM := HN
  clear HN
  obtain ⟨⟨p0, p1, p2⟩, ⟨p3, p4, p5⟩, p6⟩ := HM.out.c3 3 rfl
  obtain ⟨⟨q0, q1, q2⟩, ⟨q3, q4, q5⟩, q6⟩ := HM.out.c3 2 rfl
  go_wp2_with fail
  have HF := HM.out.set3 2 rfl (.int .u64 0) (.int .i64 nx) (.pointer none)
  have H3 := HF.at_ 2 (p := (w.heap.size + 1, .cells #[.int .u64 0, .int .i64 nx, .pointer none] 63 (0, 0))) rfl
  have HO := HF.out
  clear HF
  exact bodyPost_ret (results_cell_row rfl _ _ (w.heap.size + 1) 63 #[.int .u64 0, .int .i64 nx, .pointer none] (0, 0) _ rfl H3 Tryz.underlying63 rfl (by kernel_rfl)) rfl ⟨rfl, HO⟩
end Go.Proofs.YtjpcdkhapeejjaaGreatDoor.A
