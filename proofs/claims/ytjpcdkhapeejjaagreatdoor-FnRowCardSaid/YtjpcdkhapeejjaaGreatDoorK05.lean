/- Steps of the proof of the law: contracts of functions of the given program, and plain lemmas about what they compute.
Conditions: none beyond those that each theorem names. -/
import Derived.Test.YtjpcdkhapeejjaaGreatDoorK04
set_option linter.unusedVariables false
set_option linter.unusedSimpArgs false
open Go.RowKit Go.Proofs.YtjpcdkhapeejjaaGreatDoorW.PrintWords Go.Proofs.YtjpcdkhapeejjaaGreatDoorW.PrintLast Go.Proofs.YtjpcdkhapeejjaaGreatDoorW.PrintMore
namespace Go.Proofs.YtjpcdkhapeejjaaGreatDoor.A
open Cal
set_option maxRecDepth 100000
attribute [local go_sem] hset_drewN halloc_drewN
/-- A block of three cells, as the walk reads and writes it. -/
theorem cells3 {W : World} {g : Nat} {t : TypeId} {a b c : Value} (h : W.heap[g]? = some (.cells #[a, b, c] t (0, 0))) :
    (W.cell? ⟨g, 0, none⟩ = some a ∧ W.cell? ⟨g, 1, none⟩ = some b ∧ W.cell? ⟨g, 2, none⟩ = some c) ∧ (W.frozen? ⟨g, 0, none⟩ = false ∧ W.frozen? ⟨g, 1, none⟩ = false ∧ W.frozen? ⟨g, 2, none⟩ = false) ∧ g < W.heap.size :=
  ⟨⟨blk_cell h 0, blk_cell h 1, blk_cell h 2⟩, ⟨blk_frozen h 0, blk_frozen h 1, blk_frozen h 2⟩, blk_lt h⟩
/-- A moment's cells put into a block. -/
theorem put3 {W : World} {g : Nat} {t : TypeId} {x y z : Value} (h : W.heap[g]? = some (.cells #[x, y, z] t (0, 0))) (a b c : Value) :
    (((W.setCell ⟨g, 0, none⟩ a).setCell ⟨g, 1, none⟩ b).setCell ⟨g, 2, none⟩ c).heap[g]? = some (.cells #[a, b, c] t (0, 0)) :=
  blk_put (blk_put (blk_put h 0 a rfl) 1 b rfl) 2 c rfl
theorem new1 (w : World) (o p : Obj) : ((w.alloc o).alloc p).heap[w.heap.size + 1]? = some p := by
  rw [← World.size_alloc w o]; exact heap_alloc_new _ _
theorem new0 (w : World) (o p : Obj) : ((w.alloc o).alloc p).heap[w.heap.size]? = some o := blk_alloc (heap_alloc_new w o) p
set_option maxHeartbeats 1000000 in
theorem Truncate_any (s : Int) (w : World) (h0 : 1000000 ≤ s) (h1 : s ≤ 100000000000) :
    Calls Tryz.prog 43 #[.agg #[.int .u64 0, .int .i64 s, .pointer none], .int .i64 1000000000] w fun e w' => e = .returned (.agg #[.int .u64 0, .int .i64 s, .pointer none]) ∧ Below w.heap.size w w' := by
  have hu63 := Tryz.underlying63
  have hbz := bzne
  go_enter Tryz.func43, Tryz.ntmps43
  go_wp2
  go_end0
  go_wp2_with fail
  refine (div_any s _ h0 h1).mono ?_
  rintro e w1 ⟨q, rfl, hb⟩
  have B0 := blk_below (new0 w _ _) hb
  have B1 := blk_below (new1 w _ _) hb
  have HB := Aside0.mk (below_step (below_alloc (below_alloc (Below.refl _ _) _) _) hb)
  clear hb
  obtain ⟨⟨c0, c1, c2⟩, _, _⟩ := cells3 B0
  go_wp2_with fail
  refine (Add_0 s _ h0 h1).mono ?_
  rintro e w2 ⟨rfl, hb⟩
  have B2 := blk_below B1 hb
  have HB2 := Aside0.mk (below_step HB.out hb)
  obtain ⟨⟨d0, d1, d2⟩, ⟨f0, f1, f2⟩, _⟩ := cells3 B2
  have BB := Aside0.mk B2
  clear B0 B1 B2 hb
  go_wp2_with fail
  refine bodyPost_ret (results_cell_row rfl _ _ (w.heap.size + 1) 63 #[.int .u64 0, .int .i64 s, .pointer none] (0, 0) _ rfl (put3 BB.out _ _ _) Tryz.underlying63 rfl (by kernel_rfl)) rfl ⟨rfl, ?_⟩
  repeat (with_reducible first | exact HB2.out | refine below_set ?_ (by omega))
theorem After_yes (s u : Int) (w : World) (h : u < s) :
    Calls Tryz.prog 69 #[.agg #[.int .u64 0, .int .i64 s, .pointer none], .agg #[.int .u64 0, .int .i64 u, .pointer none]] w fun e w' => e = .returned (.bool true) ∧ Below w.heap.size w w' := by
  have hu63 := Tryz.underlying63
  have hbz := bzne
  have hb2 : bits BinOp.and IntKind.u64 0 0 = 0 := by kernel_rfl
  have e5 : bits BinOp.and IntKind.u64 0 1073741823 = 0 := by kernel_rfl
  have hd : decide (u < s) = true := decide_eq_true h
  go_enter Tryz.func69, Tryz.ntmps69
  go_wp2
  go_ret
  exact ⟨rfl, by repeat (with_reducible first | exact Below.refl _ _ | apply below_alloc)⟩
theorem nsec_any (g : Nat) (w : World) (h : w.cell? ⟨g, 0, none⟩ = some (.int .u64 0)) :
    Calls Tryz.prog 83 #[.pointer (some ⟨g, 0, none⟩)] w fun e w' => e = .returned (.int .i32 0) ∧ w = w' := by
  have e5 : bits BinOp.and IntKind.u64 0 1073741823 = 0 := by kernel_rfl
  go_enter Tryz.func83, Tryz.ntmps83
  go_wp2
  go_ret
  exact ⟨rfl, rfl⟩
set_option maxHeartbeats 1000000 in
theorem AddDate_any (s mo da : Int) (w : World) (h : InR s) (y0 : 1988 ≤ yearS s) (y1 : yearS s ≤ 2109) (m0 : 1 ≤ monS s + mo) (m1 : monS s + mo ≤ 12) (d0 : 0 ≤ dayS s + da) (d1 : dayS s + da ≤ 32) (k0 : -1 ≤ mo) (k1 : mo ≤ 1) (l0 : -1 ≤ da) (l1 : da ≤ 1) :
    Calls Tryz.prog 125 #[.agg #[.int .u64 0, .int .i64 s, .pointer none], .int .i64 0, .int .i64 mo, .int .i64 da] w fun e w' => e = .returned (.agg #[.int .u64 0, .int .i64 (mkS (yearS s) (monS s + mo) (dayS s + da) (hourS s) (minS s) (secS s)), .pointer none]) ∧ Below w.heap.size w w' := by
  have hu63 := Tryz.underlying63
  have hh : 0 ≤ hourS s ∧ hourS s ≤ 23 := by unfold hourS; omega
  have hmi : 0 ≤ minS s ∧ minS s ≤ 59 := by unfold minS; omega
  have hse : 0 ≤ secS s ∧ secS s ≤ 59 := by unfold secS; omega
  have DD := fun (g : Nat) (W : World) (hL : IsUTC W g) => Date_any (yearS s) (monS s + mo) (dayS s + da) (hourS s) (minS s) (secS s) g W hL y0 y1 m0 m1 d0 d1 hh.1 hh.2 hmi.1 hmi.2 hse.1 hse.2
  have DA := Aside0.mk DD
  have HI := Aside0.mk h
  clear DD
  go_enter Tryz.func125, Tryz.ntmps125
  go_wp2_with fail
  refine (TDate_any s _ HI.out).mono ?_
  rintro e w1 ⟨rfl, hb⟩
  have B0 := blk_below (new0 w _ _) hb
  have B1 := blk_below (new1 w _ _) hb
  have HB := Aside0.mk (below_step (below_alloc (below_alloc (Below.refl _ _) _) _) hb)
  clear hb
  obtain ⟨⟨c0, c1, c2⟩, _, _⟩ := cells3 B0
  go_wp2_with fail
  refine (Clock_any s _ HI.out).mono ?_
  rintro e w2 ⟨rfl, hb⟩
  clear c0 c1 c2
  have B02 := blk_below B0 hb
  have B12 := blk_below B1 hb
  have HB2 := Aside0.mk (below_step HB.out hb)
  clear hb B0 B1 HB
  obtain ⟨⟨c0, c1, c2⟩, _, lt0⟩ := cells3 B02
  have BB0 := Aside0.mk B02
  have BB1 := Aside0.mk B12
  clear B02 B12
  go_wp2_with fail
  have x1 : IntKind.i64.wrap (yearS s) = yearS s := by rw [IntKind.wrap_i64]; omega
  have x2 : IntKind.i64.wrap (monS s + mo) = monS s + mo := by rw [IntKind.wrap_i64]; omega
  have x3 : IntKind.i64.wrap (dayS s + da) = dayS s + da := by rw [IntKind.wrap_i64]; omega
  go_region_with (first
    | (go_at_call 83; refine (nsec_any _ _ (by exact c0)).mono ?_; rintro e w' ⟨rfl, rfl⟩)
    | (go_at_call 120; refine (Location_any s _).mono ?_; rintro e w3 ⟨g, rfl, hL, hb3, hg3⟩; have B03 := blk_below (by exact BB0.out) hb3; have B13 := Aside0.mk (blk_below (by exact BB1.out) hb3); have HL := Aside0.mk hL; have HB3 := Aside0.mk (below_step (by exact HB2.out.drew) hb3); obtain ⟨⟨p0, p1, p2⟩, _, _⟩ := cells3 B03; clear hL hb3 B03)
    | (go_at_call 49; refine (DA.out _ _ HL.out).mono ?_; rintro e w4 ⟨rfl, hb4⟩; have B14 := blk_below B13.out hb4; have HB4 := Aside0.mk (below_step HB3.out hb4); obtain ⟨⟨q0, q1, q2⟩, ⟨r0, r1, r2⟩, _⟩ := cells3 B14; have BB4 := Aside0.mk B14; clear B14 hb4))
  all_goals (clear x1 x2 x3; go_wp2)
  all_goals
    refine bodyPost_ret (results_cell_row rfl _ _ (w.heap.size + 1) 63 #[.int .u64 0, .int .i64 (mkS (yearS s) (monS s + mo) (dayS s + da) (hourS s) (minS s) (secS s)), .pointer none] (0, 0) _ rfl (put3 BB4.out _ _ _) Tryz.underlying63 rfl (by kernel_rfl)) rfl ⟨rfl, ?_⟩
    repeat (with_reducible first | exact HB4.out | refine below_set ?_ (by omega))
end Go.Proofs.YtjpcdkhapeejjaaGreatDoor.A
