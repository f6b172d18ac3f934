/- Steps of the proof of the law: contracts of functions of the given program, and plain lemmas about what they compute.
Conditions: none beyond those that each theorem names. -/
import Derived.Test.YtjpcdkhapeejjaaGreatDoorK02
import Derived.Test.YtjpcdkhapeejjaaGreatDoorK29
import Derived.Test.YtjpcdkhapeejjaaGreatDoorKA
import Derived.Test.YtjpcdkhapeejjaaGreatDoorP01
set_option linter.unusedVariables false
set_option linter.unusedSimpArgs false
section
namespace Go.Proofs.YtjpcdkhapeejjaaGreatDoor.A
open Go.RowKit Cal Go.Proofs.YtjpcdkhapeejjaaGreatDoorW.PrintWords Go.Proofs.YtjpcdkhapeejjaaGreatDoorW.PrintLast Go.Proofs.YtjpcdkhapeejjaaGreatDoorW.PrintMore
section
variable {f0 f1 f2 f3 f4 f5 : List S54}
def dayB (f3 f4 f5 : List S54) (b : Int) : Bool := hasF 3 f3 (dayE (b + 306)) && (hasF 4 f4 (monE (b + 306)) && hasF 5 f5 (wdE (b + 306)))
theorem fit_split (s : Int) : fitB f0 f1 f2 f3 f4 f5 s = true ↔ dayB f3 f4 f5 (s / 86400) = true ∧ fit3 f0 f1 f2 (s % 86400) = true := by
  have e1 : s % 86400 / 60 % 60 = s % 3600 / 60 := by omega
  have e2 : s % 86400 % 60 = s % 60 := by omega
  unfold fitB dayB fit3
  rw [e1, e2]
  have a : wdS s = wdE (s / 86400 + 306) := rfl
  have b : monS s = monE (s / 86400 + 306) := rfl
  have c : dayS s = dayE (s / 86400 + 306) := rfl
  have d : hourS s = s % 86400 / 3600 := rfl
  have e : minS s = s % 3600 / 60 := rfl
  have f : secS s = s % 60 := rfl
  rw [a, b, c, d, e, f]
  simp only [Bool.and_eq_true]
  exact ⟨fun ⟨x, y, z, u, v, w⟩ => ⟨⟨z, y, x⟩, u, v, w⟩, fun ⟨⟨z, y, x⟩, u, v, w⟩ => ⟨x, y, z, u, v, w⟩⟩
theorem dayfits_b (h : GoodE f0 f1 f2 f3 f4 f5) (sec : Bool) (b x y z : Int) (b0 : 700000 ≤ b + 306) (b1 : b + 306 ≤ 800000) (k : Nat) (hk : 20 ≤ k) :
    spec_DayFits.f k (fsOf f0 f1 f2 f3 f4 f5) sec (yearE (b + 306)) (monE (b + 306)) (dayE (b + 306)) x y z = some (dayB f3 f4 f5 b) := by
  have hy := year_in _ b0 b1
  obtain ⟨m0, m1, d0, d1⟩ := valid_date _ b0 b1
  have hd := dim_bd (yearE (b + 306)) _ m0 m1
  rw [dayfits_f f0 f1 f2 f3 f4 f5 h sec _ _ _ x y z (by omega) (by omega) m0 m1 d0 (by omega) k hk, ord_rt]
  rfl
def NearDown (f0 f1 f2 f3 f4 f5 : List S54) (x t : Int) : Prop := t ≤ x ∧ fitB f0 f1 f2 f3 f4 f5 t = true ∧ ∀ q, t < q → q ≤ x → ¬ fitB f0 f1 f2 f3 f4 f5 q = true
def six (t : Int) : Int × Int × Int × Int × Int × Int × Bool := (yearS t, monS t, dayS t, hourS t, minS t, secS t, true)
theorem at_six (t b r : Int) (h : t = b * 86400 + r) (r0 : 0 ≤ r) (r1 : r < 86400) : (spec_At.f (yearE (b + 306)) (monE (b + 306)) (dayE (b + 306)) (0 : Int) 0 0 r).bind (fun q => some (q.1, q.2.1, q.2.2.1, q.2.2.2.1, q.2.2.2.2.1, q.2.2.2.2.2, true)) = some (six t) := by
  unfold spec_At.f six
  rw [Option.bind_some, tdiv_eq _ _ r0, tdiv_eq _ _ r0, w64' (r / 3600) (by omega) (by omega), w64' (r / 60) (by omega) (by omega), tmod_eq _ _ r0, tmod_eq _ _ (show 0 ≤ r / 60 by omega)]
  have eb : t / 86400 = b := by omega
  have e1 : yearS t = yearE (b + 306) := by rw [← eb]; rfl
  have e2 : monS t = monE (b + 306) := by rw [← eb]; rfl
  have e3 : dayS t = dayE (b + 306) := by rw [← eb]; rfl
  have e4 : hourS t = r / 3600 := by unfold hourS; omega
  have e5 : minS t = r / 60 % 60 := by unfold minS; omega
  have e6 : secS t = r % 60 := by unfold secS; omega
  rw [e1, e2, e3, e4, e5, e6]
theorem prev_l (h : GoodE f0 f1 f2 f3 f4 f5) (sec : Bool) (t : Int) : ∀ (n : Nat) (b from_ i x y z : Int) (k : Nat), 700010 ≤ b + 306 - n → b + 306 ≤ 800000 → -1 ≤ from_ → from_ < 86400 → 0 ≤ i → i + n < 800 → b - t / 86400 = (n : Int) → NearDown f0 f1 f2 f3 f4 f5 (b * 86400 + from_) t → 2 * n + 180000 < k →
    spec_Prev.l0 k from_ i (fsOf f0 f1 f2 f3 f4 f5) sec (yearE (b + 306)) (monE (b + 306)) (dayE (b + 306)) x y z = some (six t)
  | n, b, from_, i, x, y, z, 0, _, _, _, _, _, _, _, _, hk => by omega
  | n, b, from_, i, x, y, z, 1, _, _, _, _, _, _, _, _, hk => by omega
  | n, b, from_, i, x, y, z, k + 2, b0, b1, r0, r1, i0, i1, hn, hN, hk => by
    have hxt := hN.1
    have ft := (fit_split t).1 hN.2.1
    have go : n ≠ 0 → (spec_DayPrev.f (yearE (b + 306)) (monE (b + 306)) (dayE (b + 306)) x y z).bind (fun bt => spec_Prev.l0 k 86399 (wrap64 (i + 1)) (fsOf f0 f1 f2 f3 f4 f5) sec bt.1 bt.2.1 bt.2.2.1 bt.2.2.2.1 bt.2.2.2.2.1 bt.2.2.2.2.2) = some (six t) := by
      intro hne
      obtain ⟨m, rfl⟩ : ∃ m, n = m + 1 := ⟨n - 1, by omega⟩
      rw [dayprev_f (b + 306) x y z (by omega) (by omega), Option.bind_some, w64' (i + 1) (by omega) (by omega)]
      have := prev_l h sec t m (b - 1) 86399 (i + 1) 0 0 0 k (by omega) (by omega) (by omega) (by omega) (by omega) (by omega) (by omega) ⟨by omega, hN.2.1, fun q a c => hN.2.2 q a (by omega)⟩ (by omega)
      rw [show b - 1 + 306 = b + 306 - 1 by omega] at this
      exact this
    rw [spec_Prev.l0, if_pos (by omega)]
    by_cases hf : 0 ≤ from_
    · rw [if_pos (show from_ ≥ 0 from hf), dayfits_b h sec b x y z (by omega) (by omega) (k + 1) (by omega), Option.bind_some, spec_Prev.j2]
      by_cases hd : dayB f3 f4 f5 b = true
      · rw [if_pos hd]
        obtain ⟨r, hr, hc⟩ := in_down h sec 86400 from_ k r0 r1 (by omega) (by omega)
        have hr : spec_InDay.f k (fsOf f0 f1 f2 f3 f4 f5) sec from_ true = some r := hr
        rw [hr, Option.bind_some]
        rcases hc with ⟨a, c, d, e⟩ | ⟨a, e⟩
        · have hfit : fitB f0 f1 f2 f3 f4 f5 (b * 86400 + r) = true := (fit_split _).2 ⟨by rw [show (b * 86400 + r) / 86400 = b by omega]; exact hd, by rw [show (b * 86400 + r) % 86400 = r by omega]; exact d⟩
          have ht1 : b * 86400 + r ≤ t := by
            by_cases q : t < b * 86400 + r
            · exact absurd hfit (hN.2.2 _ q (by omega))
            · omega
          have ht2 : t ≤ b * 86400 + r := by
            by_cases q : b * 86400 + r < t
            · have := e (t % 86400) (by omega) (by omega)
              rw [ft.2] at this; cases this
            · omega
          rw [if_pos (by omega)]
          exact at_six t b r (by omega) (by omega) (by omega)
        · rw [if_neg (by omega)]
          refine go fun h0 => ?_
          have := e (t % 86400) (by omega) (by omega)
          rw [ft.2] at this; cases this
      · rw [if_neg hd]
        refine go fun h0 => hd ?_
        rw [show b = t / 86400 by omega]
        exact ft.1
    · rw [if_neg (by omega), spec_Prev.j2, if_neg (by decide)]
      exact go (by omega)
theorem secs_f (s : Int) (a b c : Int) : spec_Seconds.f a b c (hourS s) (minS s) (secS s) = some (s % 86400) := by
  have h := hour_bd s
  have m := min_bd s
  have e := sec_bd s
  have cr := clock_rt s
  unfold spec_Seconds.f
  rw [w64' (hourS s * 3600) (by omega) (by omega), w64' (minS s * 60) (by omega) (by omega), w64' (hourS s * 3600 + minS s * 60) (by omega) (by omega), w64' _ (by omega) (by omega), cr]
/-- The reference's previous moment. -/
theorem prev_f (h : GoodE f0 f1 f2 f3 f4 f5) (sec incl : Bool) (s t : Int) (s0 : lo0 ≤ t) (s1 : s ≤ hi0) (hN : NearDown f0 f1 f2 f3 f4 f5 (if incl = true then s else s - 1) t) (hD : s / 86400 - t / 86400 ≤ 450) (k : Nat) (hk : 190000 ≤ k) :
    spec_Prev.f k (fsOf f0 f1 f2 f3 f4 f5) sec (yearS s) (monS s) (dayS s) (hourS s) (minS s) (secS s) incl = some (six t) := by
  obtain ⟨k, rfl⟩ : ∃ k', k = k' + 1 := ⟨k - 1, by omega⟩
  have hx := hN.1
  unfold lo0 at s0
  unfold hi0 at s1
  unfold spec_Prev.f
  rw [secs_f, Option.bind_some]
  have hst : t ≤ s := by split at hx <;> omega
  have base := fun (from_ : Int) (q0 : -1 ≤ from_) (q1 : from_ < 86400) (q : NearDown f0 f1 f2 f3 f4 f5 (s / 86400 * 86400 + from_) t) => prev_l h sec t (s / 86400 - t / 86400).toNat (s / 86400) from_ 0 (hourS s) (minS s) (secS s) k (by omega) (by omega) q0 q1 (by omega) (by omega) (by omega) q (by omega)
  cases incl with
  | true =>
    rw [if_pos rfl, spec_Prev.j0]
    exact base (s % 86400) (by omega) (by omega) (by rw [show s / 86400 * 86400 + s % 86400 = s by omega]; exact hN)
  | false =>
    rw [if_neg (by decide), spec_Prev.j0, w64' _ (by omega) (by omega)]
    exact base (s % 86400 - 1) (by omega) (by omega) (by rw [show s / 86400 * 86400 + (s % 86400 - 1) = s - 1 by omega]; exact hN)
theorem down_of (x t : Int) : Least (fitE true f0 f1 f2 f3 f4 f5) x t ↔ NearDown f0 f1 f2 f3 f4 f5 (-1 - x) (-1 - t) := by
  unfold Least NearDown
  constructor
  · intro ⟨a, b, c⟩
    refine ⟨by omega, (fit_iff (rev := true) t).1 b, fun q q0 q1 hq => c (-1 - q) (by omega) (by omega) ((fit_iff (rev := true) (-1 - q)).2 ?_)⟩
    rw [co_t, show -1 - (-1 - q) = q by omega]; exact hq
  · intro ⟨a, b, c⟩
    exact ⟨by omega, (fit_iff (rev := true) t).2 b, fun q q0 q1 hq => c (-1 - q) (by omega) (by omega) ((fit_iff (rev := true) q).1 hq)⟩
/-- The previous moment: the program's and the reference's. -/
theorem prev_both (h : GoodE f0 f1 f2 f3 f4 f5) (sec incl : Bool) (s : Int) (s0 : lo0 + 34905600 ≤ s) (s1 : s ≤ hi0) (k : Nat) (hk : 190000 ≤ k) : ∃ t, t ≤ s ∧ s ≤ t + 34905600 ∧ NearDown f0 f1 f2 f3 f4 f5 (if incl = true then s else s - 1) t ∧
    spec_Prev.f k (fsOf f0 f1 f2 f3 f4 f5) sec (yearS s) (monS s) (dayS s) (hourS s) (minS s) (secS s) incl = some (six t) ∧ tickOf k true incl (segsOf f0 f1 f2 f3 f4 f5) s = some t := by
  cases incl with
  | true =>
    obtain ⟨t, ht, hd, hh⟩ := least_E true f0 f1 f2 f3 f4 f5 h (-1 - s) (by rw [loD_t]; omega) (by rw [hiD_t]; omega)
    have hu := (down_of (-1 - s) t).1 ht
    rw [show -1 - (-1 - s) = s by omega] at hu
    have hx := ht.1
    have hh' := hh
    rw [hiD_t] at hh'
    refine ⟨-1 - t, by omega, by omega, hu, prev_f h sec true s (-1 - t) (by omega) s1 hu (by omega) k hk, ?_⟩
    have := tick_incl (k := k) h (by omega) (-1 - s) t ht (by rw [loD_t]; omega) hh (by omega)
    rw [co_t, co_t, show -1 - (-1 - s) = s by omega] at this
    exact this
  | false =>
    obtain ⟨t, ht, hd, hh⟩ := least_E true f0 f1 f2 f3 f4 f5 h (-1 - s + 1) (by rw [loD_t]; omega) (by rw [hiD_t]; omega)
    have hu := (down_of (-1 - s + 1) t).1 ht
    rw [show -1 - (-1 - s + 1) = s - 1 by omega] at hu
    have hx := ht.1
    have hh' := hh
    rw [hiD_t] at hh'
    refine ⟨-1 - t, by omega, by omega, hu, prev_f h sec false s (-1 - t) (by omega) s1 hu (by omega) k hk, ?_⟩
    have := tick_behind (k := k) h (by omega) (-1 - s) t ht (by rw [loD_t]; omega) hh (by omega)
    rw [co_t, co_t, show -1 - (-1 - s) = s by omega] at this
    exact this
end
end Go.Proofs.YtjpcdkhapeejjaaGreatDoor.A
end
section
namespace Go.Proofs.YtjpcdkhapeejjaaGreatDoor.A
open Go.RowKit Go.Proofs.YtjpcdkhapeejjaaGreatDoorW.PrintWords Go.Proofs.YtjpcdkhapeejjaaGreatDoorW.PrintLast Go.Proofs.YtjpcdkhapeejjaaGreatDoorW.PrintMore
def laws_moment.f (a0_0 : Int) (a0_1 : Int) (a0_2 : Int) (a0_3 : Int) (a0_4 : Int) (a0_5 : Int) : Option (Int × Int × Int × Int × Int × Int) := some (a0_0, a0_1, a0_2, a0_3, a0_4, a0_5)
set_option maxHeartbeats 8000000 in
set_option maxRecDepth 100000 in
theorem laws_moment.calls (a0_0 : Int) (a0_1 : Int) (a0_2 : Int) (a0_3 : Int) (a0_4 : Int) (a0_5 : Int) (r1 : Int) (r2 : Int) (r3 : Int) (r4 : Int) (r5 : Int) (r6 : Int) (w : World) (h : laws_moment.f a0_0 a0_1 a0_2 a0_3 a0_4 a0_5 = some (r1, r2, r3, r4, r5, r6)) :
    Calls Tryz.prog 14 #[.agg #[.int .i64 a0_0, .int .i64 a0_1, .int .i64 a0_2, .int .i64 a0_3, .int .i64 a0_4, .int .i64 a0_5]] w fun e w' => e = .returned (.agg #[.int .i64 r1, .int .i64 r2, .int .i64 r3, .int .i64 r4, .int .i64 r5, .int .i64 r6]) ∧ Below w.heap.size w w' := by
 have hu26 := Tryz.underlying26
 have hu33 := Tryz.underlying33
 have HB := Aside0.mk (Below.refl w.heap.size w)
 have H : (some (a0_0, a0_1, a0_2, a0_3, a0_4, a0_5)) = some (r1, r2, r3, r4, r5, r6) := h
 clear h
 simp only [Option.some.injEq, Prod.mk.injEq] at H
 obtain ⟨rfl, rfl, rfl, rfl, rfl, rfl⟩ := H
 go_enter Tryz.func14, Tryz.ntmps14
 go_wp2_with (first | ((with_reducible refine gate_dst (N := 1) rfl ?_); refine box_event ?hg (N := 1) ?hd (cs := #[.int .i64 a0_0, .int .i64 a0_1, .int .i64 a0_2, .int .i64 a0_3, .int .i64 a0_4, .int .i64 a0_5]) (t := 26) ?hr ?_; (case hd => rfl); (case hg => rfl); (case hr => first | (go_simp; done) | (go_simp; rfl)); intro gb119 hg w2 hbox hb; have n0_ := Aside0.mk (below_step (by repeat (with_reducible first | exact HB.out | apply below_alloc | apply pw_below_drewN | apply below_drew1)) hb); have n1_ := Aside0.mk (hbox); have n2_ := Aside0.mk ((by rw [hg]; exact (below_size (by repeat (with_reducible first | exact HB.out | apply below_alloc | apply pw_below_drewN | apply below_drew1))) : w.heap.size ≤ gb119)); have n3_ := Aside0.mk ((by rw [hg]; exact (below_size (by repeat (with_reducible first | exact HB.out | apply below_alloc | apply pw_below_drewN | apply below_drew1))) : w.heap.size ≤ gb119)); clear HB; have HB := n0_; have BK119 := n1_; have GW119 := n2_; have GE119 := n3_; clear n0_ n1_ n2_ n3_; clear hb hbox hg) | ((with_reducible refine gate_dst (N := 2) rfl ?_); refine box_event ?hg (N := 2) ?hd (cs := #[.int .i64 0, .int .i64 0, .int .i64 0, .int .i64 0, .int .i64 0, .int .i64 0]) (t := 33) ?hr ?_; (case hd => rfl); (case hg => rfl); (case hr => first | (go_simp; done) | (go_simp; rfl)); intro gb120 hg w3 hbox hb; have n0_ := Aside0.mk (blk_below (g := gb119) (o := .cells #[.int .i64 a0_0, .int .i64 a0_1, .int .i64 a0_2, .int .i64 a0_3, .int .i64 a0_4, .int .i64 a0_5] 26 (0, 0)) (by (with_reducible repeat (first | refine blk_drewN ?_ _ | refine blk_drew ?_ | refine blk_alloc ?_ _)); exact BK119.out) hb); have n1_ := Aside0.mk (below_step (by repeat (with_reducible first | exact HB.out | apply below_alloc | apply pw_below_drewN | apply below_drew1 | refine below_set ?_ GE119.out)) hb); have n2_ := Aside0.mk (hbox); have n3_ := Aside0.mk ((by rw [hg]; exact (below_size (by repeat (with_reducible first | exact HB.out | apply below_alloc | apply pw_below_drewN | apply below_drew1 | refine below_set ?_ GE119.out))) : w.heap.size ≤ gb120)); have n4_ := Aside0.mk ((by rw [hg]; exact (below_size (by repeat (with_reducible first | exact HB.out | apply below_alloc | apply pw_below_drewN | apply below_drew1 | refine below_set ?_ GE119.out))) : w.heap.size ≤ gb120)); have n5_ := Aside0.mk ((by rw [hg]; exact Nat.ne_of_lt (blk_lt (g := gb119) (o := .cells #[.int .i64 a0_0, .int .i64 a0_1, .int .i64 a0_2, .int .i64 a0_3, .int .i64 a0_4, .int .i64 a0_5] 26 (0, 0)) (by (with_reducible repeat (first | refine blk_drewN ?_ _ | refine blk_drew ?_ | refine blk_alloc ?_ _)); exact BK119.out)) : gb119 ≠ gb120)); have n6_ := Aside0.mk ((by rw [hg]; exact Nat.ne_of_gt (blk_lt (g := gb119) (o := .cells #[.int .i64 a0_0, .int .i64 a0_1, .int .i64 a0_2, .int .i64 a0_3, .int .i64 a0_4, .int .i64 a0_5] 26 (0, 0)) (by (with_reducible repeat (first | refine blk_drewN ?_ _ | refine blk_drew ?_ | refine blk_alloc ?_ _)); exact BK119.out)) : gb120 ≠ gb119)); clear BK119; clear HB; have BK119 := n0_; have HB := n1_; have BK120 := n2_; have GW120 := n3_; have GE120 := n4_; have NB119_120 := n5_; have NB120_119 := n6_; clear n0_ n1_ n2_ n3_ n4_ n5_ n6_; clear hb hbox hg; have hnb4 := NB119_120.out; have hnc4 := NB120_119.out; have hcz5_0 : w3.cell? ⟨gb119, 0, none⟩ = some (.int .i64 a0_0) := (blk_cell BK119.out 0).trans rfl; have hcz5_1 : w3.cell? ⟨gb119, 1, none⟩ = some (.int .i64 a0_1) := (blk_cell BK119.out 1).trans rfl; have hcz5_2 : w3.cell? ⟨gb119, 2, none⟩ = some (.int .i64 a0_2) := (blk_cell BK119.out 2).trans rfl; have hcz5_3 : w3.cell? ⟨gb119, 3, none⟩ = some (.int .i64 a0_3) := (blk_cell BK119.out 3).trans rfl; have hcz5_4 : w3.cell? ⟨gb119, 4, none⟩ = some (.int .i64 a0_4) := (blk_cell BK119.out 4).trans rfl; have hcz5_5 : w3.cell? ⟨gb119, 5, none⟩ = some (.int .i64 a0_5) := (blk_cell BK119.out 5).trans rfl; have hfz5_0 := blk_frozen BK119.out 0; have hfz5_1 := blk_frozen BK119.out 1; have hfz5_2 := blk_frozen BK119.out 2; have hfz5_3 := blk_frozen BK119.out 3; have hfz5_4 := blk_frozen BK119.out 4; have hfz5_5 := blk_frozen BK119.out 5; have hcz6_0 : w3.cell? ⟨gb120, 0, none⟩ = some (.int .i64 0) := (blk_cell BK120.out 0).trans rfl; have hcz6_1 : w3.cell? ⟨gb120, 1, none⟩ = some (.int .i64 0) := (blk_cell BK120.out 1).trans rfl; have hcz6_2 : w3.cell? ⟨gb120, 2, none⟩ = some (.int .i64 0) := (blk_cell BK120.out 2).trans rfl; have hcz6_3 : w3.cell? ⟨gb120, 3, none⟩ = some (.int .i64 0) := (blk_cell BK120.out 3).trans rfl; have hcz6_4 : w3.cell? ⟨gb120, 4, none⟩ = some (.int .i64 0) := (blk_cell BK120.out 4).trans rfl; have hcz6_5 : w3.cell? ⟨gb120, 5, none⟩ = some (.int .i64 0) := (blk_cell BK120.out 5).trans rfl; have hfz6_0 := blk_frozen BK120.out 0; have hfz6_1 := blk_frozen BK120.out 1; have hfz6_2 := blk_frozen BK120.out 2; have hfz6_3 := blk_frozen BK120.out 3; have hfz6_4 := blk_frozen BK120.out 4; have hfz6_5 := blk_frozen BK120.out 5))
 refine bodyPost_ret (results_cell_row rfl _ _ gb120 33 #[.int .i64 a0_0, .int .i64 a0_1, .int .i64 a0_2, .int .i64 a0_3, .int .i64 a0_4, .int .i64 a0_5] (0, 0) _ rfl (by (with_reducible repeat (first | refine blk_drewN ?_ _ | refine blk_drew ?_ | refine blk_alloc ?_ _)); refine blk_put (cs := #[.int .i64 a0_0, .int .i64 a0_1, .int .i64 a0_2, .int .i64 a0_3, .int .i64 a0_4, .int .i64 0]) ?_ 5 _ rfl; (with_reducible repeat (first | refine blk_drewN ?_ _ | refine blk_drew ?_ | refine blk_alloc ?_ _)); refine blk_put (cs := #[.int .i64 a0_0, .int .i64 a0_1, .int .i64 a0_2, .int .i64 a0_3, .int .i64 0, .int .i64 0]) ?_ 4 _ rfl; (with_reducible repeat (first | refine blk_drewN ?_ _ | refine blk_drew ?_ | refine blk_alloc ?_ _)); refine blk_put (cs := #[.int .i64 a0_0, .int .i64 a0_1, .int .i64 a0_2, .int .i64 0, .int .i64 0, .int .i64 0]) ?_ 3 _ rfl; (with_reducible repeat (first | refine blk_drewN ?_ _ | refine blk_drew ?_ | refine blk_alloc ?_ _)); refine blk_put (cs := #[.int .i64 a0_0, .int .i64 a0_1, .int .i64 0, .int .i64 0, .int .i64 0, .int .i64 0]) ?_ 2 _ rfl; (with_reducible repeat (first | refine blk_drewN ?_ _ | refine blk_drew ?_ | refine blk_alloc ?_ _)); refine blk_put (cs := #[.int .i64 a0_0, .int .i64 0, .int .i64 0, .int .i64 0, .int .i64 0, .int .i64 0]) ?_ 1 _ rfl; (with_reducible repeat (first | refine blk_drewN ?_ _ | refine blk_drew ?_ | refine blk_alloc ?_ _)); refine blk_put (cs := #[.int .i64 0, .int .i64 0, .int .i64 0, .int .i64 0, .int .i64 0, .int .i64 0]) ?_ 0 _ rfl; (with_reducible repeat (first | refine blk_drewN ?_ _ | refine blk_drew ?_ | refine blk_alloc ?_ _)); exact BK120.out) Tryz.underlying33 rfl (by kernel_rfl)) rfl ?_
 exact ⟨by first | rfl | (simp [errW_none, errW_some] <;> rfl) | (simp [*, errW_none, errW_some] <;> rfl), by repeat (with_reducible first | exact HB.out | apply below_alloc | apply pw_below_drewN | apply below_drew1 | refine below_set ?_ GE119.out | refine below_set ?_ GE120.out)⟩
end Go.Proofs.YtjpcdkhapeejjaaGreatDoor.A
end
section
namespace Go.Proofs.YtjpcdkhapeejjaaGreatDoor.A
open Go.RowKit Go.Proofs.YtjpcdkhapeejjaaGreatDoorW.PrintWords Go.Proofs.YtjpcdkhapeejjaaGreatDoorW.PrintLast Go.Proofs.YtjpcdkhapeejjaaGreatDoorW.PrintMore
def laws_asked.f (k : Nat) (l0_0 : List (List (S54))) (a0_1 : Bool) (a1_0 : Int) (a1_1 : Int) (a1_2 : Int) (a1_3 : Int) (a1_4 : Int) (a1_5 : Int) : Option (Bool) := (spec_ExprGood.f k l0_0 a0_1).bind fun t144 => (if t144 = true then ((laws_moment.f a1_0 a1_1 a1_2 a1_3 a1_4 a1_5).bind fun bt145 => ((spec_MomentGood.f bt145.1 bt145.2.1 bt145.2.2.1 bt145.2.2.2.1 bt145.2.2.2.2.1 bt145.2.2.2.2.2).bind fun t151 => (some t151))) else (some false))
set_option maxHeartbeats 8000000 in
set_option maxRecDepth 100000 in
theorem laws_asked.calls (k : Nat) (A0_0 : Option Addr) (c0_0 : Nat) (l0_0 : List (List (S54))) (a0_1 : Bool) (a1_0 : Int) (a1_1 : Int) (a1_2 : Int) (a1_3 : Int) (a1_4 : Int) (a1_5 : Int) (r : Bool) (w : World) (hr0_0 : Kd.C (Kd.slice 54 k54) w A0_0 l0_0.length l0_0) (hc0_0 : l0_0.length ≤ c0_0) (h : laws_asked.f k l0_0 a0_1 a1_0 a1_1 a1_2 a1_3 a1_4 a1_5 = some r) :
    Calls Tryz.prog 12 #[.agg #[.slice A0_0 l0_0.length c0_0, .bool a0_1], .agg #[.int .i64 a1_0, .int .i64 a1_1, .int .i64 a1_2, .int .i64 a1_3, .int .i64 a1_4, .int .i64 a1_5]] w fun e w' => e = .returned (.bool r) ∧ Below w.heap.size w w' := by
 have hu30 := Tryz.underlying30
 have hu26 := Tryz.underlying26
 have HR0_0 := Aside0.mk hr0_0
 have HC0_0 := Aside0.mk hc0_0
 clear hr0_0 hc0_0
 have HB := Aside0.mk (Below.refl w.heap.size w)
 have H : ((spec_ExprGood.f k l0_0 a0_1).bind fun t144 => (if t144 = true then ((laws_moment.f a1_0 a1_1 a1_2 a1_3 a1_4 a1_5).bind fun bt145 => ((spec_MomentGood.f bt145.1 bt145.2.1 bt145.2.2.1 bt145.2.2.2.1 bt145.2.2.2.2.1 bt145.2.2.2.2.2).bind fun t151 => (some t151))) else (some false))) = some r := h
 clear h
 replace H := Option.bind_eq_some_iff.mp H
 obtain ⟨t144, A30, H⟩ := H
 try dsimp only at H
 have A3 := Aside0.mk A30
 clear A30
 refine (Classical.em (t144 = true)).elim (fun c4 => ?a1_) (fun c4 => ?b1_)
 case' a1_ =>
  subst c4
  rw [if_pos rfl] at H
  replace H := Option.bind_eq_some_iff.mp H
  obtain ⟨⟨t145, t146, t147, t148, t149, t150⟩, A50, H⟩ := H
  try dsimp only at H
  have A5 := Aside0.mk A50
  clear A50
  replace H := Option.bind_eq_some_iff.mp H
  obtain ⟨t151, A60, H⟩ := H
  try dsimp only at H
  have A6 := Aside0.mk A60
  clear A60
  obtain rfl := Option.some.inj H
 case' b1_ =>
  replace c4 := Bool.eq_false_iff.mpr c4
  subst c4
  rw [if_neg (show ¬ (false = true) by decide)] at H
  obtain rfl := Option.some.inj H
 case a1_ | b1_ =>
  go_enter Tryz.func12, Tryz.ntmps12
  go_wp2_with (first | ((with_reducible refine gate_callee (f := 25) rfl ?_); refine goesL_ (some 6) rfl rfl Tryz.func25 (by kernel_rfl) rfl #[.agg #[.slice A0_0 l0_0.length c0_0, .bool a0_1]] rfl (by (try simp only [List.map_toArray, List.map_cons, List.map_nil]); first | done | rfl | (simp only [List.length_drop, List.length_take]; rfl)) ?_; (with_reducible refine (spec_ExprGood.calls k _ _ l0_0 a0_1 true _ ?side1 ?side2 A3.out).mono ?_); (case side1 => repeat (first | exact (Kd.C_below HR0_0.out HB.out) | (with_reducible refine Kd.C_alloc ?_ _) | (with_reducible refine Kd.C_drewN ?_ _) | (with_reducible refine Kd.C_drew ?_))); (case side2 => exact HC0_0.out); rintro e w11 ⟨rfl, hb⟩; refine ⟨_, rfl, ?_⟩; have n0_ := Aside0.mk (blk_below (g := gb142) (o := .cells #[.slice A0_0 l0_0.length c0_0, .bool a0_1] 30 (0, 0)) (by (with_reducible repeat (first | refine blk_drewN ?_ _ | refine blk_drew ?_ | refine blk_alloc ?_ _)); exact BK142.out) hb); have n1_ := Aside0.mk (blk_below (g := gb143) (o := .cells #[.int .i64 a1_0, .int .i64 a1_1, .int .i64 a1_2, .int .i64 a1_3, .int .i64 a1_4, .int .i64 a1_5] 26 (0, 0)) (by (with_reducible repeat (first | refine blk_drewN ?_ _ | refine blk_drew ?_ | refine blk_alloc ?_ _)); exact BK143.out) hb); have n2_ := Aside0.mk (below_step (by repeat (with_reducible first | exact HB.out | apply below_alloc | apply pw_below_drewN | apply below_drew1 | refine below_set ?_ GE142.out | refine below_set ?_ GE143.out)) hb); clear BK142; clear BK143; clear HB; have BK142 := n0_; have BK143 := n1_; have HB := n2_; clear n0_ n1_ n2_; (try clear hb); (try clear hb2); (try clear hk); (try clear hi); have hcz12_0 : w11.cell? ⟨gb143, 0, none⟩ = some (.int .i64 a1_0) := (blk_cell BK143.out 0).trans rfl; have hcz12_1 : w11.cell? ⟨gb143, 1, none⟩ = some (.int .i64 a1_1) := (blk_cell BK143.out 1).trans rfl; have hcz12_2 : w11.cell? ⟨gb143, 2, none⟩ = some (.int .i64 a1_2) := (blk_cell BK143.out 2).trans rfl; have hcz12_3 : w11.cell? ⟨gb143, 3, none⟩ = some (.int .i64 a1_3) := (blk_cell BK143.out 3).trans rfl; have hcz12_4 : w11.cell? ⟨gb143, 4, none⟩ = some (.int .i64 a1_4) := (blk_cell BK143.out 4).trans rfl; have hcz12_5 : w11.cell? ⟨gb143, 5, none⟩ = some (.int .i64 a1_5) := (blk_cell BK143.out 5).trans rfl; have hfz12_0 := blk_frozen BK143.out 0; have hfz12_1 := blk_frozen BK143.out 1; have hfz12_2 := blk_frozen BK143.out 2; have hfz12_3 := blk_frozen BK143.out 3; have hfz12_4 := blk_frozen BK143.out 4; have hfz12_5 := blk_frozen BK143.out 5) | ((with_reducible refine gate_dst (N := 3) rfl ?_); refine box_event ?hg (N := 3) ?hd (cs := #[.int .i64 a1_0, .int .i64 a1_1, .int .i64 a1_2, .int .i64 a1_3, .int .i64 a1_4, .int .i64 a1_5]) (t := 26) ?hr ?_; (case hd => rfl); (case hg => rfl); (case hr => first | (go_simp; done) | (go_simp; rfl)); intro gb143 hg w16 hbox hb; have n0_ := Aside0.mk (blk_below (g := gb142) (o := .cells #[.slice A0_0 l0_0.length c0_0, .bool a0_1] 30 (0, 0)) (by (with_reducible repeat (first | refine blk_drewN ?_ _ | refine blk_drew ?_ | refine blk_alloc ?_ _)); exact BK142.out) hb); have n1_ := Aside0.mk (below_step (by repeat (with_reducible first | exact HB.out | apply below_alloc | apply pw_below_drewN | apply below_drew1 | refine below_set ?_ GE142.out)) hb); have n2_ := Aside0.mk (hbox); have n3_ := Aside0.mk ((by rw [hg]; exact (below_size (by repeat (with_reducible first | exact HB.out | apply below_alloc | apply pw_below_drewN | apply below_drew1 | refine below_set ?_ GE142.out))) : w.heap.size ≤ gb143)); have n4_ := Aside0.mk ((by rw [hg]; exact (below_size (by repeat (with_reducible first | exact HB.out | apply below_alloc | apply pw_below_drewN | apply below_drew1 | refine below_set ?_ GE142.out))) : w.heap.size ≤ gb143)); have n5_ := Aside0.mk ((by rw [hg]; exact Nat.ne_of_lt (blk_lt (g := gb142) (o := .cells #[.slice A0_0 l0_0.length c0_0, .bool a0_1] 30 (0, 0)) (by (with_reducible repeat (first | refine blk_drewN ?_ _ | refine blk_drew ?_ | refine blk_alloc ?_ _)); exact BK142.out)) : gb142 ≠ gb143)); have n6_ := Aside0.mk ((by rw [hg]; exact Nat.ne_of_gt (blk_lt (g := gb142) (o := .cells #[.slice A0_0 l0_0.length c0_0, .bool a0_1] 30 (0, 0)) (by (with_reducible repeat (first | refine blk_drewN ?_ _ | refine blk_drew ?_ | refine blk_alloc ?_ _)); exact BK142.out)) : gb143 ≠ gb142)); clear BK142; clear HB; have BK142 := n0_; have HB := n1_; have BK143 := n2_; have GW143 := n3_; have GE143 := n4_; have NB142_143 := n5_; have NB143_142 := n6_; clear n0_ n1_ n2_ n3_ n4_ n5_ n6_; clear hb hbox hg; have hnb17 := NB142_143.out; have hnc17 := NB143_142.out; have hcz18_0 : w16.cell? ⟨gb142, 0, none⟩ = some (.slice A0_0 l0_0.length c0_0) := (blk_cell BK142.out 0).trans rfl; have hcz18_1 : w16.cell? ⟨gb142, 1, none⟩ = some (.bool a0_1) := (blk_cell BK142.out 1).trans rfl; have hfz18_0 := blk_frozen BK142.out 0; have hfz18_1 := blk_frozen BK142.out 1) | ((with_reducible refine gate_dst (N := 3) rfl ?_); refine box_event ?hg (N := 3) ?hd (cs := #[.int .i64 a1_0, .int .i64 a1_1, .int .i64 a1_2, .int .i64 a1_3, .int .i64 a1_4, .int .i64 a1_5]) (t := 26) ?hr ?_; (case hd => rfl); (case hg => rfl); (case hr => first | (go_simp; done) | (go_simp; rfl)); intro gb143 hg w8 hbox hb; have n0_ := Aside0.mk (blk_below (g := gb142) (o := .cells #[.slice A0_0 l0_0.length c0_0, .bool a0_1] 30 (0, 0)) (by (with_reducible repeat (first | refine blk_drewN ?_ _ | refine blk_drew ?_ | refine blk_alloc ?_ _)); exact BK142.out) hb); have n1_ := Aside0.mk (below_step (by repeat (with_reducible first | exact HB.out | apply below_alloc | apply pw_below_drewN | apply below_drew1 | refine below_set ?_ GE142.out)) hb); have n2_ := Aside0.mk (hbox); have n3_ := Aside0.mk ((by rw [hg]; exact (below_size (by repeat (with_reducible first | exact HB.out | apply below_alloc | apply pw_below_drewN | apply below_drew1 | refine below_set ?_ GE142.out))) : w.heap.size ≤ gb143)); have n4_ := Aside0.mk ((by rw [hg]; exact (below_size (by repeat (with_reducible first | exact HB.out | apply below_alloc | apply pw_below_drewN | apply below_drew1 | refine below_set ?_ GE142.out))) : w.heap.size ≤ gb143)); have n5_ := Aside0.mk ((by rw [hg]; exact Nat.ne_of_lt (blk_lt (g := gb142) (o := .cells #[.slice A0_0 l0_0.length c0_0, .bool a0_1] 30 (0, 0)) (by (with_reducible repeat (first | refine blk_drewN ?_ _ | refine blk_drew ?_ | refine blk_alloc ?_ _)); exact BK142.out)) : gb142 ≠ gb143)); have n6_ := Aside0.mk ((by rw [hg]; exact Nat.ne_of_gt (blk_lt (g := gb142) (o := .cells #[.slice A0_0 l0_0.length c0_0, .bool a0_1] 30 (0, 0)) (by (with_reducible repeat (first | refine blk_drewN ?_ _ | refine blk_drew ?_ | refine blk_alloc ?_ _)); exact BK142.out)) : gb143 ≠ gb142)); clear BK142; clear HB; have BK142 := n0_; have HB := n1_; have BK143 := n2_; have GW143 := n3_; have GE143 := n4_; have NB142_143 := n5_; have NB143_142 := n6_; clear n0_ n1_ n2_ n3_ n4_ n5_ n6_; clear hb hbox hg; have hnb9 := NB142_143.out; have hnc9 := NB143_142.out; have hcz10_0 : w8.cell? ⟨gb142, 0, none⟩ = some (.slice A0_0 l0_0.length c0_0) := (blk_cell BK142.out 0).trans rfl; have hcz10_1 : w8.cell? ⟨gb142, 1, none⟩ = some (.bool a0_1) := (blk_cell BK142.out 1).trans rfl; have hfz10_0 := blk_frozen BK142.out 0; have hfz10_1 := blk_frozen BK142.out 1) | ((with_reducible refine gate_callee (f := 25) rfl ?_); refine goesL_ (some 6) rfl rfl Tryz.func25 (by kernel_rfl) rfl #[.agg #[.slice A0_0 l0_0.length c0_0, .bool a0_1]] rfl (by (try simp only [List.map_toArray, List.map_cons, List.map_nil]); first | done | rfl | (simp only [List.length_drop, List.length_take]; rfl)) ?_; (with_reducible refine (spec_ExprGood.calls k _ _ l0_0 a0_1 false _ ?side1 ?side2 A3.out).mono ?_); (case side1 => repeat (first | exact (Kd.C_below HR0_0.out HB.out) | (with_reducible refine Kd.C_alloc ?_ _) | (with_reducible refine Kd.C_drewN ?_ _) | (with_reducible refine Kd.C_drew ?_))); (case side2 => exact HC0_0.out); rintro e w19 ⟨rfl, hb⟩; refine ⟨_, rfl, ?_⟩; have n0_ := Aside0.mk (blk_below (g := gb142) (o := .cells #[.slice A0_0 l0_0.length c0_0, .bool a0_1] 30 (0, 0)) (by (with_reducible repeat (first | refine blk_drewN ?_ _ | refine blk_drew ?_ | refine blk_alloc ?_ _)); exact BK142.out) hb); have n1_ := Aside0.mk (blk_below (g := gb143) (o := .cells #[.int .i64 a1_0, .int .i64 a1_1, .int .i64 a1_2, .int .i64 a1_3, .int .i64 a1_4, .int .i64 a1_5] 26 (0, 0)) (by (with_reducible repeat (first | refine blk_drewN ?_ _ | refine blk_drew ?_ | refine blk_alloc ?_ _)); exact BK143.out) hb); have n2_ := Aside0.mk (below_step (by repeat (with_reducible first | exact HB.out | apply below_alloc | apply pw_below_drewN | apply below_drew1 | refine below_set ?_ GE142.out | refine below_set ?_ GE143.out)) hb); clear BK142; clear BK143; clear HB; have BK142 := n0_; have BK143 := n1_; have HB := n2_; clear n0_ n1_ n2_; (try clear hb); (try clear hb2); (try clear hk); (try clear hi)) | (go_at_call 14; (with_reducible refine (laws_moment.calls a1_0 a1_1 a1_2 a1_3 a1_4 a1_5 t145 t146 t147 t148 t149 t150 _ A5.out).mono ?_); rintro e w13 ⟨rfl, hb⟩; have n0_ := Aside0.mk (blk_below (g := gb142) (o := .cells #[.slice A0_0 l0_0.length c0_0, .bool a0_1] 30 (0, 0)) (by (with_reducible repeat (first | refine blk_drewN ?_ _ | refine blk_drew ?_ | refine blk_alloc ?_ _)); exact BK142.out) hb); have n1_ := Aside0.mk (blk_below (g := gb143) (o := .cells #[.int .i64 a1_0, .int .i64 a1_1, .int .i64 a1_2, .int .i64 a1_3, .int .i64 a1_4, .int .i64 a1_5] 26 (0, 0)) (by (with_reducible repeat (first | refine blk_drewN ?_ _ | refine blk_drew ?_ | refine blk_alloc ?_ _)); exact BK143.out) hb); have n2_ := Aside0.mk (below_step (by repeat (with_reducible first | exact HB.out | apply below_alloc | apply pw_below_drewN | apply below_drew1 | refine below_set ?_ GE142.out | refine below_set ?_ GE143.out)) hb); clear BK142; clear BK143; clear HB; have BK142 := n0_; have BK143 := n1_; have HB := n2_; clear n0_ n1_ n2_; (try clear hb); (try clear hb2); (try clear hk); (try clear hi)) | (go_at_call 26; (with_reducible refine (spec_MomentGood.calls t145 t146 t147 t148 t149 t150 t151 _ A6.out).mono ?_); rintro e w14 ⟨rfl, hb⟩; have n0_ := Aside0.mk (blk_below (g := gb142) (o := .cells #[.slice A0_0 l0_0.length c0_0, .bool a0_1] 30 (0, 0)) (by (with_reducible repeat (first | refine blk_drewN ?_ _ | refine blk_drew ?_ | refine blk_alloc ?_ _)); exact BK142.out) hb); have n1_ := Aside0.mk (blk_below (g := gb143) (o := .cells #[.int .i64 a1_0, .int .i64 a1_1, .int .i64 a1_2, .int .i64 a1_3, .int .i64 a1_4, .int .i64 a1_5] 26 (0, 0)) (by (with_reducible repeat (first | refine blk_drewN ?_ _ | refine blk_drew ?_ | refine blk_alloc ?_ _)); exact BK143.out) hb); have n2_ := Aside0.mk (below_step (by repeat (with_reducible first | exact HB.out | apply below_alloc | apply pw_below_drewN | apply below_drew1 | refine below_set ?_ GE142.out | refine below_set ?_ GE143.out)) hb); clear BK142; clear BK143; clear HB; have BK142 := n0_; have BK143 := n1_; have HB := n2_; clear n0_ n1_ n2_; (try clear hb); (try clear hb2); (try clear hk); (try clear hi)) | ((with_reducible refine gate_dst (N := 2) rfl ?_); refine box_event ?hg (N := 2) ?hd (cs := #[.slice A0_0 l0_0.length c0_0, .bool a0_1]) (t := 30) ?hr ?_; (case hd => rfl); (case hg => rfl); (case hr => first | (go_simp; done) | (go_simp; rfl)); intro gb142 hg w7 hbox hb; have n0_ := Aside0.mk (below_step (by repeat (with_reducible first | exact HB.out | apply below_alloc | apply pw_below_drewN | apply below_drew1)) hb); have n1_ := Aside0.mk (hbox); have n2_ := Aside0.mk ((by rw [hg]; exact (below_size (by repeat (with_reducible first | exact HB.out | apply below_alloc | apply pw_below_drewN | apply below_drew1))) : w.heap.size ≤ gb142)); have n3_ := Aside0.mk ((by rw [hg]; exact (below_size (by repeat (with_reducible first | exact HB.out | apply below_alloc | apply pw_below_drewN | apply below_drew1))) : w.heap.size ≤ gb142)); clear HB; have HB := n0_; have BK142 := n1_; have GW142 := n2_; have GE142 := n3_; clear n0_ n1_ n2_ n3_; clear hb hbox hg))
  go_ret
  exact ⟨by first | rfl | (simp [errW_none, errW_some] <;> rfl) | (simp [*, errW_none, errW_some] <;> rfl), by repeat (with_reducible first | exact HB.out | apply below_alloc | apply pw_below_drewN | apply below_drew1 | refine below_set ?_ GE142.out | refine below_set ?_ GE143.out)⟩
end Go.Proofs.YtjpcdkhapeejjaaGreatDoor.A
end
