/- Steps of the proof of the law: contracts of functions of the given program, and plain lemmas about what they compute.
Conditions: none beyond those that each theorem names. -/
import Derived.Test.YtjpcdkhapeejjaaGreatDoorK41
set_option linter.unusedVariables false
set_option linter.unusedSimpArgs false
open Go.RowKit Go.Proofs.YtjpcdkhapeejjaaGreatDoorW.PrintWords Go.Proofs.YtjpcdkhapeejjaaGreatDoorW.PrintLast Go.Proofs.YtjpcdkhapeejjaaGreatDoorW.PrintMore
namespace Go.Proofs.YtjpcdkhapeejjaaGreatDoor.A
open Cal
set_option maxRecDepth 100000
attribute [local go_sem] hset_drewN halloc_drewN
theorem Mem.perm {w W : World} {L L' : List (Nat × Obj)} (h : Mem w L W) (p : L'.Perm L) : Mem w L' W :=
  ⟨h.below, fun q hq => h.blk q (p.mem_iff.1 hq), ((p.map Prod.fst).nodup_iff).2 h.nodup⟩
theorem loop6_any (k gG gC cap i j m : Nat) (ad : Addr) (cur : Array Value) (segs : List ByteArray) (s s0 r : Int) (rev incl : Bool) (L : List (Nat × Obj)) (w W : World) (hm : Mem w L W)
    (hC : L[i]? = some (gC, ckO s0)) (hG : L[j]? = some (gG, grO gC)) (hR : L[m]? = some (ad.block, .cells cur 9 (0, 0))) (hij : i ≠ j) (him : i ≠ m)
    (hA : SegAt cur ad segs) (hl : segs.length = 6) (hstd : StdAt w ∨ incl = true) (h : lop k rev incl s segs 500 s = some r) :
    Calls Tryz.prog 47 #[.pointer (some ⟨gG, 0, none⟩), .slice (some ad) 6 cap, .agg #[.int .u64 0, .int .i64 s, .pointer none], .bool incl, .bool rev] W fun e w' =>
      e = .returned (.tuple #[.agg #[.int .u64 0, .int .i64 r, .pointer none], .nilIface]) ∧ ∃ sc, Mem w (L.set i (gC, ckO sc)) w' := by
  have := loop_any k gG gC cap i j m ad cur segs s s0 r rev incl L w W hm hC hG hR hij him hA (by omega) hstd h
  rw [hl] at this
  exact this
theorem Mem.ne {w W : World} {L : List (Nat × Obj)} (h : Mem w L W) (i j : Nat) {p q : Nat × Obj} (hi : L[i]? = some p) (hj : L[j]? = some q) (hij : i ≠ j) : p.1 ≠ q.1 := fun e =>
  hij ((List.getElem?_inj (by rw [List.length_map]; exact (List.getElem?_eq_some_iff.1 hi).1) h.nodup).1 (by rw [List.getElem?_map, List.getElem?_map, hi, hj]; show some p.1 = some q.1; rw [e]))
/-- The tick: the moment itself, if it is due and taken in; else where the search ends. -/
def tickOf (k : Nat) (rev incl : Bool) (segs : List ByteArray) (s : Int) : Option Int :=
  (sdue k segs s segs.length).bind fun b => if b = true ∧ incl = true then some s else lop k rev incl s segs 500 s
set_option maxHeartbeats 16000000 in
theorem NextTick_any (k : Nat) (ex : ByteArray) (segs : List ByteArray) (s r : Int) (incl : Bool) (w : World) (hI : InR s) (hstd : StdAt w ∨ incl = true)
    (hs : gronx_Segments.f k ex = some (segs, none)) (hn : 0 < segs.length) (hl : segs.length = 6) (h : tickOf k false incl segs s = some r) :
    Calls Tryz.prog 30 #[.string ex, .agg #[.int .u64 0, .int .i64 s, .pointer none], .bool incl] w fun e w' => e = .returned (.tuple #[.agg #[.int .u64 0, .int .i64 r, .pointer none], .nilIface]) ∧ Below w.heap.size w w' := by
  have hu63 := Tryz.underlying63
  have hu65 := Tryz.underlying65
  have hb1 : 1000000 ≤ s := by unfold InR at hI; omega
  have hb2 : s ≤ 100000000000 := by unfold InR at hI; omega
  have HM := Aside0.mk (((Mem.start w).new (tb s)).new (tb 0))
  rw [World.size_alloc] at HM
  unfold tickOf at h
  replace h := Option.bind_eq_some_iff.mp h
  obtain ⟨b, hd, h⟩ := h
  have HD := Aside0.mk hd
  have HSg := Aside0.mk hs
  have HNn := Aside0.mk hn
  have HL6 := Aside0.mk hl
  have HL7 : Aside0 (segs.length ≤ 7) := ⟨by omega⟩
  have HStd := Aside0.mk hstd
  have HH := Aside0.mk h
  clear hd hs hn hl hstd h hI
  have K0 := HM.out.c3 1 rfl
  obtain ⟨⟨d0, d1, d2⟩, _, _⟩ := K0
  go_enter Tryz.func30, Tryz.ntmps30
  go_upto_region 1 with fail
  go_cut [8, 9] (fun s8 s9 wx => ∃ gG gC b9, s8 = .pointer (some ⟨gG, 0, none⟩) ∧ s9 = .pointer (some ⟨b9, 0, none⟩) ∧ Aside0 (Mem w [(b9, tb s), (gG, grO gC), (gC, ckO 0), (w.heap.size + 1, tb 0), (w.heap.size, tb s)] wx))
  case first =>
    go_region_held3 (fun w' => w'.cell? ⟨w.heap.size, 0, none⟩ = some (.int .u64 0) ∧ w'.cell? ⟨w.heap.size, 1, none⟩ = some (.int .i64 s) ∧ w'.cell? ⟨w.heap.size, 2, none⟩ = some (.pointer none))
      (first | exact (HM.out.c3 1 rfl).1 | exact (HM.out.c3 2 rfl).1 | exact (HM.out.c3 3 rfl).1 | exact (HM.out.c3 4 rfl).1 | exact (HM.out.drew.c3 1 rfl).1 | exact (HM.out.drew.c3 2 rfl).1 | exact (HM.out.drew.c3 3 rfl).1 | exact (HM.out.drew.c3 4 rfl).1 | exact ((HM.out.new (tb 0)).c3 1 rfl).1 | exact ((HM.out.new (tb 0)).c3 2 rfl).1 | exact ((HM.out.new (tb 0)).c3 3 rfl).1 | exact ((HM.out.new (tb 0)).c3 4 rfl).1 | exact ((HM.out.new (tb 0)).drew.c3 1 rfl).1 | exact ((HM.out.new (tb 0)).drew.c3 2 rfl).1 | exact ((HM.out.new (tb 0)).drew.c3 3 rfl).1 | exact ((HM.out.new (tb 0)).drew.c3 4 rfl).1 | exact ((HM.out.new (tb s)).c3 1 rfl).1 | exact ((HM.out.new (tb s)).c3 2 rfl).1 | exact ((HM.out.new (tb s)).c3 3 rfl).1 | exact ((HM.out.new (tb s)).c3 4 rfl).1 | exact ((HM.out.new (tb s)).drew.c3 1 rfl).1 | exact ((HM.out.new (tb s)).drew.c3 2 rfl).1 | exact ((HM.out.new (tb s)).drew.c3 3 rfl).1 | exact ((HM.out.new (tb s)).drew.c3 4 rfl).1 | exact ((HM.out.set3 0 rfl (.int .u64 0) (.int .i64 s) (.pointer none)).c3 1 rfl).1 | exact ((HM.out.set3 0 rfl (.int .u64 0) (.int .i64 s) (.pointer none)).c3 2 rfl).1 | exact ((HM.out.set3 0 rfl (.int .u64 0) (.int .i64 s) (.pointer none)).c3 3 rfl).1 | exact ((HM.out.set3 0 rfl (.int .u64 0) (.int .i64 s) (.pointer none)).c3 4 rfl).1 | exact ((HM.out.set3 0 rfl (.int .u64 0) (.int .i64 s) (.pointer none)).drew.c3 1 rfl).1 | exact ((HM.out.set3 0 rfl (.int .u64 0) (.int .i64 s) (.pointer none)).drew.c3 2 rfl).1 | exact ((HM.out.set3 0 rfl (.int .u64 0) (.int .i64 s) (.pointer none)).drew.c3 3 rfl).1 | exact ((HM.out.set3 0 rfl (.int .u64 0) (.int .i64 s) (.pointer none)).drew.c3 4 rfl).1 | exact ((HM.out.set3 2 rfl (.int .u64 0) (.int .i64 s) (.pointer none)).c3 1 rfl).1 | exact ((HM.out.set3 2 rfl (.int .u64 0) (.int .i64 s) (.pointer none)).c3 2 rfl).1 | exact ((HM.out.set3 2 rfl (.int .u64 0) (.int .i64 s) (.pointer none)).c3 3 rfl).1 | exact ((HM.out.set3 2 rfl (.int .u64 0) (.int .i64 s) (.pointer none)).c3 4 rfl).1 | exact ((HM.out.set3 2 rfl (.int .u64 0) (.int .i64 s) (.pointer none)).drew.c3 1 rfl).1 | exact ((HM.out.set3 2 rfl (.int .u64 0) (.int .i64 s) (.pointer none)).drew.c3 2 rfl).1 | exact ((HM.out.set3 2 rfl (.int .u64 0) (.int .i64 s) (.pointer none)).drew.c3 3 rfl).1 | exact ((HM.out.set3 2 rfl (.int .u64 0) (.int .i64 s) (.pointer none)).drew.c3 4 rfl).1)
      (first
        | (go_at_call 36; (with_reducible refine (New_o _).mono ?_); rintro e wz ⟨gG, gC, rfl, hmm⟩; (first | have HN := Aside0.mk (hmm _ _ HM.out) | have HN := Aside0.mk (hmm _ _ HM.out.drew) | have HN := Aside0.mk (hmm _ _ (HM.out.new (tb 0))) | have HN := Aside0.mk (hmm _ _ (HM.out.new (tb 0)).drew) | have HN := Aside0.mk (hmm _ _ (HM.out.drewN _)) | have HN := Aside0.mk (hmm _ _ ((HM.out.new (tb 0)).drewN _))); clear HM hmm; have HM := HN; clear HN; (try (rw [World.size_alloc, World.size_alloc] at HM)); (first | obtain ⟨⟨a0, a1, a2⟩, ⟨a3, a4, a5⟩, a6⟩ := HM.out.c3 0 rfl | obtain ⟨⟨a0, a1, a2⟩, ⟨a3, a4, a5⟩, a6⟩ := HM.out.c3 2 rfl))
        | (go_at_call 43; (with_reducible refine (Truncate_any s _ hb1 hb2).mono ?_); rintro e wz ⟨rfl, hb⟩; (first | have HN := Aside0.mk (HM.out.step hb) | have HN := Aside0.mk (HM.out.drew.step hb) | have HN := Aside0.mk ((HM.out.new (tb 0)).step hb) | have HN := Aside0.mk ((HM.out.new (tb 0)).drew.step hb) | have HN := Aside0.mk ((HM.out.drewN _).step hb) | have HN := Aside0.mk (((HM.out.new (tb 0)).drewN _).step hb)); clear HM hb; have HM := HN; clear HN; (try (rw [World.size_alloc, World.size_alloc] at HM)); (first | obtain ⟨⟨a0, a1, a2⟩, ⟨a3, a4, a5⟩, a6⟩ := HM.out.c3 0 rfl | obtain ⟨⟨a0, a1, a2⟩, ⟨a3, a4, a5⟩, a6⟩ := HM.out.c3 2 rfl)))
    all_goals
      first
        | (go_wp2_with fail; go_meet; exact ⟨_, _, _, rfl, rfl, ⟨by first | exact HM.out.new (tb s) | exact (HM.out.new (tb s)).drew | exact (HM.out.new (tb s)).drewN _⟩⟩)
        | (obtain ⟨⟨a0, a1, a2⟩, ⟨a3, a4, a5⟩, a6⟩ := HM.out.c3 0 rfl; go_wp2_with fail; go_meet; exact ⟨_, _, _, rfl, rfl, ⟨by first | exact (HM.out.set3 0 rfl _ _ _) | exact (HM.out.set3 0 rfl _ _ _).drew | exact ((HM.out.set3 0 rfl _ _ _).drewN _)⟩⟩)
        | (obtain ⟨⟨a0, a1, a2⟩, ⟨a3, a4, a5⟩, a6⟩ := HM.out.c3 2 rfl; go_wp2_with fail; go_meet; exact ⟨_, _, _, rfl, rfl, ⟨by first | exact (HM.out.set3 2 rfl _ _ _).perm ((List.Perm.swap _ _ _).trans ((List.Perm.swap _ _ _).cons _)) | exact (HM.out.set3 2 rfl _ _ _).drew.perm ((List.Perm.swap _ _ _).trans ((List.Perm.swap _ _ _).cons _)) | exact ((HM.out.set3 2 rfl _ _ _).drewN _).perm ((List.Perm.swap _ _ _).trans ((List.Perm.swap _ _ _).cons _))⟩⟩)
  case rest =>
    obtain ⟨gG, gC, b9, rfl, rfl, HM⟩ := hcut
    clear d0 d1 d2
    obtain ⟨⟨a0, a1, a2⟩, ⟨a3, a4, a5⟩, a6⟩ := HM.out.c3 0 rfl
    obtain ⟨⟨e0, e1, e2⟩, ⟨e3, e4, e5⟩, e6⟩ := HM.out.c3 3 rfl
    obtain ⟨⟨d0, d1, d2⟩, _, _⟩ := HM.out.c3 4 rfl
    have H := HH.out
    clear HH
    cases b with
    | false =>
      rw [if_neg (fun hq => by cases hq.1)] at H
      have HLop := Aside0.mk H
      clear H
      go_upto_region 6 with (first
        | (go_at_call 37; (first | (with_reducible refine (IsDue_any k gG gC _ 3 2 0 ex segs s 0 false _ w _ (HM.out.new (tb s)) rfl rfl rfl (by decide) (by decide) HSg.out HNn.out HL7.out HD.out).mono ?_) | (refine (IsDue_any k gG gC _ 3 2 0 ex segs s 0 false _ w _ (HM.out.new (tb s)) rfl rfl rfl (by decide) (by decide) HSg.out HNn.out HL7.out HD.out).mono ?_)); rintro e wz ⟨rfl, hmz⟩; have HN : Aside0 (Mem w [(b9, tb s), (gG, grO gC), (gC, ckO s), (w.heap.size + 1, tb 0), (w.heap.size, tb s)] wz) := Aside0.mk (hmz.drop 1); clear HM hmz; have HM := HN; clear HN; clear a0 a1 a2 a3 a4 a5 a6 e0 e1 e2 e3 e4 e5 e6 d0 d1 d2; obtain ⟨⟨a0, a1, a2⟩, ⟨a3, a4, a5⟩, a6⟩ := HM.out.c3 0 rfl; obtain ⟨⟨e0, e1, e2⟩, ⟨e3, e4, e5⟩, e6⟩ := HM.out.c3 3 rfl; obtain ⟨⟨d0, d1, d2⟩, _, _⟩ := HM.out.c3 4 rfl)
        | (go_at_call 44; (with_reducible refine (gronx_Segments.calls k ex segs none _ HSg.out).mono ?_); rintro e wz ⟨v0, rfl, ho, hb⟩; obtain ⟨ad, cap, cur, rfl, hba, hS, hA⟩ := seg_at ho HNn.out; rw [HL6.out]; have HSA := Aside0.mk hA; have HN : Aside0 (Mem w [(ad.block, .cells cur 9 (0, 0)), (b9, tb s), (gG, grO gC), (gC, ckO s), (w.heap.size + 1, tb 0), (w.heap.size, tb s)] wz) := Aside0.mk (HM.out.join hb hba hS); clear HM hb hba hS hA ho; have HM := HN; clear HN; clear a0 a1 a2 a3 a4 a5 a6 e0 e1 e2 e3 e4 e5 e6 d0 d1 d2; obtain ⟨⟨a0, a1, a2⟩, ⟨a3, a4, a5⟩, a6⟩ := HM.out.c3 1 rfl; obtain ⟨⟨e0, e1, e2⟩, ⟨e3, e4, e5⟩, e6⟩ := HM.out.c3 4 rfl; obtain ⟨⟨d0, d1, d2⟩, _, _⟩ := HM.out.c3 5 rfl; (try simp only [errW_none])))
      go_cut [49] (fun s49 wx => s49 = .bool false ∧ Aside0 (Mem w [(ad.block, .cells cur 9 (0, 0)), (b9, tb s), (gG, grO gC), (gC, ckO s), (w.heap.size + 1, tb 0), (w.heap.size, tb s)] wx))
      case first =>
        go_quiet (fail)
        all_goals (go_wp2_with fail; go_meet; exact ⟨rfl, ⟨by first | exact HM.out | exact HM.out.drew | exact HM.out.drewN _⟩⟩)
      case rest =>
        obtain ⟨rfl, HM⟩ := hcut
        clear a0 a1 a2 a3 a4 a5 a6 e0 e1 e2 e3 e4 e5 e6 d0 d1 d2
        obtain ⟨⟨a0, a1, a2⟩, ⟨a3, a4, a5⟩, a6⟩ := HM.out.c3 1 rfl
        obtain ⟨⟨e0, e1, e2⟩, ⟨e3, e4, e5⟩, e6⟩ := HM.out.c3 4 rfl
        obtain ⟨⟨d0, d1, d2⟩, _, _⟩ := HM.out.c3 5 rfl
        go_wp2_with (first
          | (go_at_call 47; (with_reducible refine (loop6_any k gG gC cap 3 2 0 ad cur segs s s r false incl [(ad.block, .cells cur 9 (0, 0)), (b9, tb s), (gG, grO gC), (gC, ckO s), (w.heap.size + 1, tb 0), (w.heap.size, tb s)] w _ HM.out rfl rfl rfl (by decide) (by decide) HSA.out HL6.out HStd.out HLop.out).mono ?_); rintro e wz ⟨rfl, sc, hmz⟩; have HN := Aside0.mk hmz; clear HM hmz; have HM := HN; clear HN; clear a0 a1 a2 a3 a4 a5 a6 e0 e1 e2 e3 e4 e5 e6 d0 d1 d2; obtain ⟨⟨a0, a1, a2⟩, ⟨a3, a4, a5⟩, a6⟩ := HM.out.c3 1 rfl; obtain ⟨⟨e0, e1, e2⟩, ⟨e3, e4, e5⟩, e6⟩ := HM.out.c3 4 rfl; obtain ⟨⟨d0, d1, d2⟩, _, _⟩ := HM.out.c3 5 rfl; have g9 : w.heap.size ≤ b9 := HM.out.ge 1 rfl; have n1 : (b9 = w.heap.size + 1) = False := eq_false (HM.out.ne 1 4 rfl rfl (by decide)); have n2 : (w.heap.size + 1 = b9) = False := eq_false (HM.out.ne 4 1 rfl rfl (by decide))))
        refine bodyPost_ret (v := .tuple #[.agg #[.int .u64 0, .int .i64 r, .pointer none], .nilIface]) (by simp [results, Tryz.results30, go_sem, *]) rfl ⟨rfl, ?_⟩
        repeat (with_reducible first | exact HM.out.below | apply below_alloc | apply pw_below_drewN | apply below_drew1 | refine below_set ?_ (by omega))
    | true =>
      cases incl with
      | false =>
        rw [if_neg (fun hq => by cases hq.2)] at H
        have HLop := Aside0.mk H
        clear H
        go_upto_region 6 with (first
          | (go_at_call 37; (first | (with_reducible refine (IsDue_any k gG gC _ 3 2 0 ex segs s 0 true _ w _ (HM.out.new (tb s)) rfl rfl rfl (by decide) (by decide) HSg.out HNn.out HL7.out HD.out).mono ?_) | (refine (IsDue_any k gG gC _ 3 2 0 ex segs s 0 true _ w _ (HM.out.new (tb s)) rfl rfl rfl (by decide) (by decide) HSg.out HNn.out HL7.out HD.out).mono ?_)); rintro e wz ⟨rfl, hmz⟩; have HN : Aside0 (Mem w [(b9, tb s), (gG, grO gC), (gC, ckO s), (w.heap.size + 1, tb 0), (w.heap.size, tb s)] wz) := Aside0.mk (hmz.drop 1); clear HM hmz; have HM := HN; clear HN; clear a0 a1 a2 a3 a4 a5 a6 e0 e1 e2 e3 e4 e5 e6 d0 d1 d2; obtain ⟨⟨a0, a1, a2⟩, ⟨a3, a4, a5⟩, a6⟩ := HM.out.c3 0 rfl; obtain ⟨⟨e0, e1, e2⟩, ⟨e3, e4, e5⟩, e6⟩ := HM.out.c3 3 rfl; obtain ⟨⟨d0, d1, d2⟩, _, _⟩ := HM.out.c3 4 rfl)
          | (go_at_call 44; (with_reducible refine (gronx_Segments.calls k ex segs none _ HSg.out).mono ?_); rintro e wz ⟨v0, rfl, ho, hb⟩; obtain ⟨ad, cap, cur, rfl, hba, hS, hA⟩ := seg_at ho HNn.out; rw [HL6.out]; have HSA := Aside0.mk hA; have HN : Aside0 (Mem w [(ad.block, .cells cur 9 (0, 0)), (b9, tb s), (gG, grO gC), (gC, ckO s), (w.heap.size + 1, tb 0), (w.heap.size, tb s)] wz) := Aside0.mk (HM.out.join hb hba hS); clear HM hb hba hS hA ho; have HM := HN; clear HN; clear a0 a1 a2 a3 a4 a5 a6 e0 e1 e2 e3 e4 e5 e6 d0 d1 d2; obtain ⟨⟨a0, a1, a2⟩, ⟨a3, a4, a5⟩, a6⟩ := HM.out.c3 1 rfl; obtain ⟨⟨e0, e1, e2⟩, ⟨e3, e4, e5⟩, e6⟩ := HM.out.c3 4 rfl; obtain ⟨⟨d0, d1, d2⟩, _, _⟩ := HM.out.c3 5 rfl; (try simp only [errW_none])))
        go_cut [49] (fun s49 wx => s49 = .bool false ∧ Aside0 (Mem w [(ad.block, .cells cur 9 (0, 0)), (b9, tb s), (gG, grO gC), (gC, ckO s), (w.heap.size + 1, tb 0), (w.heap.size, tb s)] wx))
        case first =>
          go_quiet (fail)
          all_goals (go_wp2_with fail; go_meet; exact ⟨rfl, ⟨by first | exact HM.out | exact HM.out.drew | exact HM.out.drewN _⟩⟩)
        case rest =>
          obtain ⟨rfl, HM⟩ := hcut
          clear a0 a1 a2 a3 a4 a5 a6 e0 e1 e2 e3 e4 e5 e6 d0 d1 d2
          obtain ⟨⟨a0, a1, a2⟩, ⟨a3, a4, a5⟩, a6⟩ := HM.out.c3 1 rfl
          obtain ⟨⟨e0, e1, e2⟩, ⟨e3, e4, e5⟩, e6⟩ := HM.out.c3 4 rfl
          obtain ⟨⟨d0, d1, d2⟩, _, _⟩ := HM.out.c3 5 rfl
          go_wp2_with (first
            | (go_at_call 47; (with_reducible refine (loop6_any k gG gC cap 3 2 0 ad cur segs s s r false false [(ad.block, .cells cur 9 (0, 0)), (b9, tb s), (gG, grO gC), (gC, ckO s), (w.heap.size + 1, tb 0), (w.heap.size, tb s)] w _ HM.out rfl rfl rfl (by decide) (by decide) HSA.out HL6.out HStd.out HLop.out).mono ?_); rintro e wz ⟨rfl, sc, hmz⟩; have HN := Aside0.mk hmz; clear HM hmz; have HM := HN; clear HN; clear a0 a1 a2 a3 a4 a5 a6 e0 e1 e2 e3 e4 e5 e6 d0 d1 d2; obtain ⟨⟨a0, a1, a2⟩, ⟨a3, a4, a5⟩, a6⟩ := HM.out.c3 1 rfl; obtain ⟨⟨e0, e1, e2⟩, ⟨e3, e4, e5⟩, e6⟩ := HM.out.c3 4 rfl; obtain ⟨⟨d0, d1, d2⟩, _, _⟩ := HM.out.c3 5 rfl; have g9 : w.heap.size ≤ b9 := HM.out.ge 1 rfl; have n1 : (b9 = w.heap.size + 1) = False := eq_false (HM.out.ne 1 4 rfl rfl (by decide)); have n2 : (w.heap.size + 1 = b9) = False := eq_false (HM.out.ne 4 1 rfl rfl (by decide))))
          refine bodyPost_ret (v := .tuple #[.agg #[.int .u64 0, .int .i64 r, .pointer none], .nilIface]) (by simp [results, Tryz.results30, go_sem, *]) rfl ⟨rfl, ?_⟩
          repeat (with_reducible first | exact HM.out.below | apply below_alloc | apply pw_below_drewN | apply below_drew1 | refine below_set ?_ (by omega))
      | true =>
        rw [if_pos ⟨rfl, rfl⟩] at H
        cases H
        go_wp2_with (first
          | (go_at_call 37; (first | (with_reducible refine (IsDue_any k gG gC _ 3 2 0 ex segs s 0 true _ w _ (HM.out.new (tb s)) rfl rfl rfl (by decide) (by decide) HSg.out HNn.out HL7.out HD.out).mono ?_) | (refine (IsDue_any k gG gC _ 3 2 0 ex segs s 0 true _ w _ (HM.out.new (tb s)) rfl rfl rfl (by decide) (by decide) HSg.out HNn.out HL7.out HD.out).mono ?_)); rintro e wz ⟨rfl, hmz⟩; have HN : Aside0 (Mem w [(b9, tb s), (gG, grO gC), (gC, ckO s), (w.heap.size + 1, tb 0), (w.heap.size, tb s)] wz) := Aside0.mk (hmz.drop 1); clear HM hmz; have HM := HN; clear HN; clear a0 a1 a2 a3 a4 a5 a6 e0 e1 e2 e3 e4 e5 e6 d0 d1 d2; obtain ⟨⟨a0, a1, a2⟩, ⟨a3, a4, a5⟩, a6⟩ := HM.out.c3 0 rfl; obtain ⟨⟨e0, e1, e2⟩, ⟨e3, e4, e5⟩, e6⟩ := HM.out.c3 3 rfl; obtain ⟨⟨d0, d1, d2⟩, _, _⟩ := HM.out.c3 4 rfl))
        refine bodyPost_ret (v := .tuple #[.agg #[.int .u64 0, .int .i64 s, .pointer none], .nilIface]) (by simp [results, Tryz.results30, go_sem, *]) rfl ⟨rfl, ?_⟩
        repeat (with_reducible first | exact HM.out.below | apply below_alloc | apply pw_below_drewN | apply below_drew1 | refine below_set ?_ (by omega))
end Go.Proofs.YtjpcdkhapeejjaaGreatDoor.A
