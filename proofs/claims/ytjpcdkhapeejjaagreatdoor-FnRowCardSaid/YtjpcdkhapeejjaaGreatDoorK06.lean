/- Steps of the proof of the law: contracts of functions of the given program, and plain lemmas about what they compute.
Conditions: none beyond those that each theorem names. -/
import Derived.Test.YtjpcdkhapeejjaaGreatDoorK05
set_option linter.unusedVariables false
set_option linter.unusedSimpArgs false
open Go.RowKit Go.Proofs.YtjpcdkhapeejjaaGreatDoorW.PrintWords Go.Proofs.YtjpcdkhapeejjaaGreatDoorW.PrintLast Go.Proofs.YtjpcdkhapeejjaaGreatDoorW.PrintMore
namespace Go.Proofs.YtjpcdkhapeejjaaGreatDoor.A
open Cal
set_option maxRecDepth 100000
attribute [local go_sem] hset_drewN halloc_drewN
theorem Date_13 (y d h mi se : Int) (g : Nat) (w : World) (hL : IsUTC w g) (y0 : 1988 ≤ y) (y1 : y ≤ 2108) (d0 : 0 ≤ d) (d1 : d ≤ 32) (h0 : 0 ≤ h) (h1 : h ≤ 23) (mi0 : 0 ≤ mi) (mi1 : mi ≤ 59) (s0 : 0 ≤ se) (s1 : se ≤ 59) :
    Calls Tryz.prog 49 #[.int .i64 y, .int .i64 13, .int .i64 d, .int .i64 h, .int .i64 mi, .int .i64 se, .int .i64 0, .pointer (some ⟨g, 0, none⟩)] w fun e w' => e = .returned (.agg #[.int .u64 0, .int .i64 (mkS (y + 1) 1 d h mi se), .pointer none]) ∧ Below w.heap.size w w' := by
  have hu63 := Tryz.underlying63
  have hbz := bzne
  have HL := Aside0.mk hL
  obtain ⟨c0, c2⟩ := hL.cell
  have hlt := hL.lt
  have hlt1 : g < w.heap.size + 1 := by omega
  have hlt2 : g < w.heap.size + 1 + 1 := by omega
  have hlt3 : g < w.heap.size + 1 + 1 + 1 := by omega
  have HA := Aside0.mk (toAbs_f (y + 1) 1 d (by omega) (by omega) (by omega) (by omega) d0 (by omega))
  have ho : 700000 ≤ ordE (y + 1) 1 d ∧ ordE (y + 1) 1 d ≤ 771000 := by unfold ordE; rw [if_pos (by omega)]; omega
  clear hL
  go_enter Tryz.func49, Tryz.ntmps49
  go_wp2_with (first | (go_at_call 72; go_in) | (go_at_call 73; refine (gotime_dateToAbsDays.calls (y + 1) 1 d _ _ HA.out).mono ?_; rintro e w' ⟨rfl, ⟨nd, rfl⟩⟩))
  refine (lookup_any _ g _ (HL.out.below (by repeat (with_reducible first | exact Below.refl _ _ | apply below_alloc | apply pw_below_drewN | apply below_drew1)))).mono ?_
  rintro e w' ⟨rfl, rfl⟩
  go_wp2
  refine bodyPost_ret (v := .agg #[.int .u64 0, .int .i64 ((ordE (y + 1) 1 d + 106751990353932) * 86400 + (h * 3600 + mi * 60 + se) + -9223372028741760000 + 62135596800), .pointer none]) (by simp [results, Tryz.results75, go_sem]) rfl ?_
  go_wp2
  go_end0
  go_wp2
  go_end0
  go_wp2
  refine bodyPost_ret (v := .agg #[.int .u64 0, .int .i64 ((ordE (y + 1) 1 d + 106751990353932) * 86400 + (h * 3600 + mi * 60 + se) + -9223372028741760000 + 62135596800), .pointer none]) (by simp [results, Tryz.results49, go_sem]) rfl ⟨?_, ?_⟩
  · have e : (ordE (y + 1) 1 d + 106751990353932) * 86400 + (h * 3600 + mi * 60 + se) + -9223372028741760000 + 62135596800 = mkS (y + 1) 1 d h mi se := by unfold mkS; omega
    rw [e]
  · repeat (with_reducible first | exact Below.refl _ _ | apply below_alloc | apply pw_below_drewN | apply below_drew1 | refine below_set ?_ (by omega))
set_option maxHeartbeats 1000000 in
theorem AddDate_13 (s : Int) (w : World) (h : InR s) (y0 : 1988 ≤ yearS s) (y1 : yearS s ≤ 2108) (hm : monS s = 12) (d0 : 0 ≤ dayS s) (d1 : dayS s ≤ 32) :
    Calls Tryz.prog 125 #[.agg #[.int .u64 0, .int .i64 s, .pointer none], .int .i64 0, .int .i64 1, .int .i64 0] w fun e w' => e = .returned (.agg #[.int .u64 0, .int .i64 (mkS (yearS s + 1) 1 (dayS s) (hourS s) (minS s) (secS s)), .pointer none]) ∧ Below w.heap.size w w' := by
  have hu63 := Tryz.underlying63
  have hh : 0 ≤ hourS s ∧ hourS s ≤ 23 := by unfold hourS; omega
  have hmi : 0 ≤ minS s ∧ minS s ≤ 59 := by unfold minS; omega
  have hse : 0 ≤ secS s ∧ secS s ≤ 59 := by unfold secS; omega
  have DD := fun (g : Nat) (W : World) (hL : IsUTC W g) => Date_13 (yearS s) (dayS s) (hourS s) (minS s) (secS s) g W hL y0 y1 d0 d1 hh.1 hh.2 hmi.1 hmi.2 hse.1 hse.2
  have DA := Aside0.mk DD
  have HI := Aside0.mk h
  have HT := Aside0.mk (fun W => by have t := TDate_any s W h; rw [hm] at t; exact t)
  clear hm
  clear DD
  go_enter Tryz.func125, Tryz.ntmps125
  go_wp2_with fail
  refine (HT.out _).mono ?_
  rintro e w1 ⟨rfl, hb⟩
  have B0 := blk_below (new0 w _ _) hb
  have B1 := blk_below (new1 w _ _) hb
  have HB := Aside0.mk (below_step (below_alloc (below_alloc (Below.refl _ _) _) _) hb)
  clear hb
  obtain ⟨⟨c0, c1, c2⟩, _, _⟩ := cells3 B0
  go_wp2_with fail
  refine (Clock_any s _ HI.out).mono ?_
  rintro e w2 ⟨rfl, hb⟩
  clear c0 c1 c2
  have B02 := blk_below B0 hb
  have B12 := blk_below B1 hb
  have HB2 := Aside0.mk (below_step HB.out hb)
  clear hb B0 B1 HB
  obtain ⟨⟨c0, c1, c2⟩, _, lt0⟩ := cells3 B02
  have BB0 := Aside0.mk B02
  have BB1 := Aside0.mk B12
  clear B02 B12
  go_wp2_with fail
  have x1 : IntKind.i64.wrap (yearS s) = yearS s := by rw [IntKind.wrap_i64]; omega
  have x3 : IntKind.i64.wrap (dayS s) = dayS s := by rw [IntKind.wrap_i64]; omega
  go_region_with (first
    | (go_at_call 83; refine (nsec_any _ _ (by exact c0)).mono ?_; rintro e w' ⟨rfl, rfl⟩)
    | (go_at_call 120; refine (Location_any s _).mono ?_; rintro e w3 ⟨g, rfl, hL, hb3, hg3⟩; have B03 := blk_below (by exact BB0.out) hb3; have B13 := Aside0.mk (blk_below (by exact BB1.out) hb3); have HL := Aside0.mk hL; have HB3 := Aside0.mk (below_step (by exact HB2.out.drew) hb3); obtain ⟨⟨p0, p1, p2⟩, _, _⟩ := cells3 B03; clear hL hb3 B03)
    | (go_at_call 49; refine (DA.out _ _ HL.out).mono ?_; rintro e w4 ⟨rfl, hb4⟩; have B14 := blk_below B13.out hb4; have HB4 := Aside0.mk (below_step HB3.out hb4); obtain ⟨⟨q0, q1, q2⟩, ⟨r0, r1, r2⟩, _⟩ := cells3 B14; have BB4 := Aside0.mk B14; clear B14 hb4))
  all_goals (clear x1 x3; go_wp2)
  all_goals
    refine bodyPost_ret (results_cell_row rfl _ _ (w.heap.size + 1) 63 #[.int .u64 0, .int .i64 (mkS (yearS s + 1) 1 (dayS s) (hourS s) (minS s) (secS s)), .pointer none] (0, 0) _ rfl (put3 BB4.out _ _ _) Tryz.underlying63 rfl (by kernel_rfl)) rfl ⟨rfl, ?_⟩
    repeat (with_reducible first | exact HB4.out | refine below_set ?_ (by omega))
end Go.Proofs.YtjpcdkhapeejjaaGreatDoor.A
