/- Steps of the proof of the law: contracts of functions of the given program, and plain lemmas about what they compute.
Conditions: none beyond those that each theorem names. -/
import Derived.Handy
import Derived.Test.YtjpcdkhapeejjaaGreatDoorK22
set_option linter.unusedVariables false
set_option linter.unusedSimpArgs false
open Go.RowKit Go.Proofs.YtjpcdkhapeejjaaGreatDoorW.PrintWords Go.Proofs.YtjpcdkhapeejjaaGreatDoorW.PrintLast Go.Proofs.YtjpcdkhapeejjaaGreatDoorW.PrintMore
namespace Go.Proofs.YtjpcdkhapeejjaaGreatDoor.A
open Cal
set_option maxRecDepth 100000
attribute [local go_sem] hset_drewN halloc_drewN
theorem get2 {L : List (Nat × Obj)} {i : Nat} {p : Nat × Obj} (a b : Nat × Obj) (h : L[i]? = some p) : (a :: b :: L)[i + 2]? = some p := by rw [List.getElem?_cons_succ, List.getElem?_cons_succ]; exact h
theorem set2 {L : List (Nat × Obj)} {i : Nat} {p : Nat × Obj} (a b : Nat × Obj) : (a :: b :: L).set (i + 2) p = a :: b :: L.set i p := rfl
theorem get_set {L : List (Nat × Obj)} {i : Nat} {p : Nat × Obj} (q : Nat × Obj) (h : L[i]? = some p) : (L.set i q)[i]? = some q := by
  rw [List.getElem?_set, if_pos rfl, if_pos (List.getElem?_eq_some_iff.1 h).1]
set_option maxHeartbeats 8000000 in
theorem bumpUntilDue_any (k g i : Nat) (seg : ByteArray) (s p s0 s' : Int) (m : Bool) (L : List (Nat × Obj)) (w W : World) (hm : Mem w L W) (hc : L[i]? = some (g, ckO s0)) (h : bumpU k false seg p s = some (s', m)) :
    Calls Tryz.prog 68 #[.iface 97 (.pointer (some ⟨g, 0, none⟩)), .string seg, .int .i64 p, .agg #[.int .u64 0, .int .i64 s, .pointer none], .bool false] W fun e w' => e = .returned (.tuple #[.agg #[.int .u64 0, .int .i64 s', .pointer none], .bool m, .nilIface]) ∧ Mem w (L.set i (g, ckO s')) w' := by
  have hu63 := Tryz.underlying63
  have hu65 := Tryz.underlying65
  unfold bumpU at h
  replace h := Option.bind_eq_some_iff.mp h
  obtain ⟨n, hn, h⟩ := h
  by_cases hn2 : 0 ≤ n ∧ n ≤ 1000
  case neg => rw [if_neg hn2] at h; cases h
  rw [if_pos hn2] at h
  rw [if_neg (by decide)] at h
  have HLim := Aside0.mk hn
  have HN2 := Aside0.mk hn2
  have HA := Aside0.mk h
  have HC := Aside0.mk hc
  have HM := Aside0.mk ((hm.new (tb s)).new (tb 0))
  rw [World.size_alloc] at HM
  clear hm hc h hn hn2
  go_enter Tryz.func68, Tryz.ntmps68
  go_wp2_with (first | (go_at_call 97; with_reducible refine (gronx_limit.calls p n _ HLim.out).mono ?_; rintro e wz ⟨rfl, ⟨nd, rfl⟩⟩; have HN := Aside0.mk (HM.out.drewN nd); clear HM; have HM := HN; clear HN))
  go_loopg [13] n.toNat (fun kq v13 wq => ∃ (sq sc : Int) (Lq : List (Nat × Obj)), v13 = .int .i64 (kq : Int) ∧ Aside0 (kq ≤ n.toNat) ∧ Aside0 (bud (dueA k seg p) (nxF p) kq sq (decide (kq ≠ n.toNat)) = some (s', m)) ∧ Aside0 (Lq[i]? = some (g, ckO sc) ∧ Lq.set i (g, ckO s') = L.set i (g, ckO s')) ∧ Aside0 (Mem w ((W.heap.size + 1, tb 0) :: (W.heap.size, tb sq) :: Lq) wq))
  case atStart =>
    refine ⟨s, s0, L, ?_, ⟨Nat.le_refl _⟩, ⟨?_⟩, ⟨HC.out, rfl⟩, HM⟩
    · have := HN2.out; rw [show ((n.toNat : Nat) : Int) = n from by omega]
    · rw [show decide (n.toNat ≠ n.toNat) = false from by simp]; exact HA.out
  case round =>
    clear HA HC HM
    obtain ⟨sq, sc, Lq, rfl, HK, HA, HL, HM⟩ := hrel
    cases gk with
    | zero => exact absurd HA.out (by simp [bud])
    | succ k1 =>
      have H := HA.out
      clear HA
      unfold bud at H
      replace H := Option.bind_eq_some_iff.mp H
      obtain ⟨d, hd, H⟩ := H
      unfold dueA at hd
      by_cases hI : InR sq ∧ 0 ≤ p ∧ p ≤ 6
      case neg => rw [if_neg hI] at hd; cases hd
      rw [if_pos hI] at hd
      have AD := Aside0.mk hd
      have AI := Aside0.mk hI
      clear hd hI
      have h0 : decide (((k1 + 1 : Nat) : Int) > 0) = true := decide_eq_true (by omega)
      obtain ⟨⟨c0, c1, c2⟩, _, _⟩ := HM.out.c3 1 rfl
      cases d with
      | true =>
        rw [if_pos rfl] at H
        simp only [Option.some.injEq, Prod.mk.injEq] at H
        obtain ⟨hss, hmb⟩ := H
        subst hss
        go_upto_region 6 with (first
          | (go_at_call 204; with_reducible refine (SetRef_any g (i + 2) sq sc _ w _ HM.out (get2 _ _ HL.out.1)).mono ?_; rintro e wz ⟨rfl, hmz⟩; rw [set2] at hmz; clear HM; have HM := Aside0.mk hmz; clear hmz)
          | (go_at_call 202; with_reducible refine (CheckDue_any k g seg sq p true _ AI.out.1 AI.out.2.1 AI.out.2.2 (HM.out.at_ (i + 2) (get2 _ _ (get_set _ HL.out.1))) AD.out).mono ?_; rintro e wz ⟨rfl, hb⟩; have HN := Aside0.mk (HM.out.step hb); clear HM hb; have HM := HN; clear HN; clear c0 c1 c2; obtain ⟨⟨c0, c1, c2⟩, ⟨c3, c4, c5⟩, c6⟩ := HM.out.c3 1 rfl; obtain ⟨⟨d0, d1, d2⟩, ⟨d3, d4, d5⟩, d6⟩ := HM.out.c3 0 rfl))
        go_cut [11, 12] (fun s11 s12 wx => s11 = .bool m ∧ s12 = .nilIface ∧ Aside0 (Mem w ((W.heap.size + 1, tb sq) :: (W.heap.size, tb sq) :: Lq.set i (g, ckO sq)) wx))
        case first =>
          have hmb2 : ((k1 : Int) + 1 != n) = m := by rw [← hmb]; have := HN2.out; by_cases e : k1 + 1 = n.toNat <;> simp [e] <;> omega
          go_region_held3 (fun w' => w'.cell? ⟨W.heap.size, 0, none⟩ = some (.int .u64 0) ∧ w'.cell? ⟨W.heap.size, 1, none⟩ = some (.int .i64 sq) ∧ w'.cell? ⟨W.heap.size, 2, none⟩ = some (.pointer none))
            (first | exact (HM.out.drew.c3 1 rfl).1 | exact (HM.out.c3 1 rfl).1 | exact ((HM.out.drewN _).c3 1 rfl).1 | exact (((HM.out.set3 0 rfl _ _ _).drewN _).c3 1 rfl).1 | exact ((HM.out.set3 0 rfl _ _ _).c3 1 rfl).1 | exact ((HM.out.set3 0 rfl _ _ _).drew.c3 1 rfl).1)
            (first
              | (go_at_call 97; with_reducible refine (gronx_limit.calls p n _ HLim.out).mono ?_; rintro e wz ⟨rfl, ⟨nd2, rfl⟩⟩))
          all_goals (go_wp2_with fail; go_meet; exact ⟨by rw [← hmb2], rfl, ⟨by first | exact (HM.out.set3 0 rfl _ _ _).drewN _ | exact (HM.out.set3 0 rfl _ _ _).drew | exact HM.out.set3 0 rfl _ _ _⟩⟩)
        case rest =>
          obtain ⟨rfl, rfl, HM⟩ := hcut
          unfold tb at HM
          obtain ⟨⟨c0, c1, c2⟩, ⟨c3, c4, c5⟩, c6⟩ := HM.out.c3 0 rfl
          go_wp2
          have HF := HM.out.drop 2
          have HE : L.set i (g, ckO sq) = Lq.set i (g, ckO sq) := HL.out.2.symm
          refine bodyPost_ret (v := .tuple #[.agg #[.int .u64 0, .int .i64 sq, .pointer none], .bool m, .nilIface]) (by simp [results, Tryz.results68, go_sem, *]) rfl ⟨rfl, ?_⟩
          rw [HE]
          exact HF
      | false =>
        rw [if_neg (by decide)] at H
        replace H := Option.bind_eq_some_iff.mp H
        obtain ⟨sn, hsn, H⟩ := H
        have AN := Aside0.mk hsn
        have AH := Aside0.mk H
        clear hsn H
        go_wp2_with (first
          | (go_at_call 204; with_reducible refine (SetRef_any g (i + 2) sq sc _ w _ HM.out (get2 _ _ HL.out.1)).mono ?_; rintro e wz ⟨rfl, hmz⟩; rw [set2] at hmz; clear HM; have HM := Aside0.mk hmz; clear hmz)
          | (go_at_call 202; with_reducible refine (CheckDue_any k g seg sq p false _ AI.out.1 AI.out.2.1 AI.out.2.2 (HM.out.at_ (i + 2) (get2 _ _ (get_set _ HL.out.1))) AD.out).mono ?_; rintro e wz ⟨rfl, hb⟩; have HN := Aside0.mk (HM.out.step hb); clear HM hb; have HM := HN; clear HN; clear c0 c1 c2; obtain ⟨⟨c0, c1, c2⟩, ⟨c3, c4, c5⟩, c6⟩ := HM.out.c3 1 rfl)
          | (go_at_call 99; with_reducible refine (bump_any p sq sn _ AN.out).mono ?_; rintro e wz ⟨rfl, hb⟩; have HN := Aside0.mk (HM.out.step hb); clear HM hb; have HM := HN; clear HN; clear c0 c1 c2 c3 c4 c5 c6; obtain ⟨⟨c0, c1, c2⟩, ⟨c3, c4, c5⟩, c6⟩ := HM.out.c3 1 rfl))
        go_roundg k1
        case measure => have := HK.out; omega
        case rel =>
          refine ⟨sn, sq, Lq.set i (g, ckO sq), ?_, ⟨by have := HK.out; omega⟩, ⟨?_⟩, ⟨get_set _ HL.out.1, by rw [List.set_set]; exact HL.out.2⟩, ⟨HM.out.set3 1 rfl _ _ _⟩⟩
          · rw [show wrap64 (k1 : Int) = (k1 : Int) from by have := HK.out; have := HN2.out; unfold wrap64; omega]
          · rw [show decide (k1 ≠ n.toNat) = true from decide_eq_true (by have := HK.out; omega)]; exact AH.out
set_option maxHeartbeats 8000000 in
theorem bumpUntilDueR_any (k g i : Nat) (seg : ByteArray) (s p s0 s' : Int) (m : Bool) (L : List (Nat × Obj)) (w W : World) (hm : Mem w L W) (hc : L[i]? = some (g, ckO s0)) (h : bumpU k true seg p s = some (s', m)) :
    Calls Tryz.prog 68 #[.iface 97 (.pointer (some ⟨g, 0, none⟩)), .string seg, .int .i64 p, .agg #[.int .u64 0, .int .i64 s, .pointer none], .bool true] W fun e w' => e = .returned (.tuple #[.agg #[.int .u64 0, .int .i64 s', .pointer none], .bool m, .nilIface]) ∧ Mem w (L.set i (g, ckO s')) w' := by
  have hu63 := Tryz.underlying63
  have hu65 := Tryz.underlying65
  unfold bumpU at h
  replace h := Option.bind_eq_some_iff.mp h
  obtain ⟨n, hn, h⟩ := h
  by_cases hn2 : 0 ≤ n ∧ n ≤ 1000
  case neg => rw [if_neg hn2] at h; cases h
  rw [if_pos hn2] at h
  rw [if_pos rfl] at h
  have HLim := Aside0.mk hn
  have HN2 := Aside0.mk hn2
  have HA := Aside0.mk h
  have HC := Aside0.mk hc
  have HM := Aside0.mk ((hm.new (tb s)).new (tb 0))
  rw [World.size_alloc] at HM
  clear hm hc h hn hn2
  go_enter Tryz.func68, Tryz.ntmps68
  go_wp2_with (first | (go_at_call 97; with_reducible refine (gronx_limit.calls p n _ HLim.out).mono ?_; rintro e wz ⟨rfl, ⟨nd, rfl⟩⟩; have HN := Aside0.mk (HM.out.drewN nd); clear HM; have HM := HN; clear HN))
  go_loopg [13] n.toNat (fun kq v13 wq => ∃ (sq sc : Int) (Lq : List (Nat × Obj)), v13 = .int .i64 (kq : Int) ∧ Aside0 (kq ≤ n.toNat) ∧ Aside0 (bud (dueA k seg p) (nxR p) kq sq (decide (kq ≠ n.toNat)) = some (s', m)) ∧ Aside0 (Lq[i]? = some (g, ckO sc) ∧ Lq.set i (g, ckO s') = L.set i (g, ckO s')) ∧ Aside0 (Mem w ((W.heap.size + 1, tb 0) :: (W.heap.size, tb sq) :: Lq) wq))
  case atStart =>
    refine ⟨s, s0, L, ?_, ⟨Nat.le_refl _⟩, ⟨?_⟩, ⟨HC.out, rfl⟩, HM⟩
    · have := HN2.out; rw [show ((n.toNat : Nat) : Int) = n from by omega]
    · rw [show decide (n.toNat ≠ n.toNat) = false from by simp]; exact HA.out
  case round =>
    clear HA HC HM
    obtain ⟨sq, sc, Lq, rfl, HK, HA, HL, HM⟩ := hrel
    cases gk with
    | zero => exact absurd HA.out (by simp [bud])
    | succ k1 =>
      have H := HA.out
      clear HA
      unfold bud at H
      replace H := Option.bind_eq_some_iff.mp H
      obtain ⟨d, hd, H⟩ := H
      unfold dueA at hd
      by_cases hI : InR sq ∧ 0 ≤ p ∧ p ≤ 6
      case neg => rw [if_neg hI] at hd; cases hd
      rw [if_pos hI] at hd
      have AD := Aside0.mk hd
      have AI := Aside0.mk hI
      clear hd hI
      have h0 : decide (((k1 + 1 : Nat) : Int) > 0) = true := decide_eq_true (by omega)
      obtain ⟨⟨c0, c1, c2⟩, _, _⟩ := HM.out.c3 1 rfl
      cases d with
      | true =>
        rw [if_pos rfl] at H
        simp only [Option.some.injEq, Prod.mk.injEq] at H
        obtain ⟨hss, hmb⟩ := H
        subst hss
        go_upto_region 6 with (first
          | (go_at_call 204; with_reducible refine (SetRef_any g (i + 2) sq sc _ w _ HM.out (get2 _ _ HL.out.1)).mono ?_; rintro e wz ⟨rfl, hmz⟩; rw [set2] at hmz; clear HM; have HM := Aside0.mk hmz; clear hmz)
          | (go_at_call 202; with_reducible refine (CheckDue_any k g seg sq p true _ AI.out.1 AI.out.2.1 AI.out.2.2 (HM.out.at_ (i + 2) (get2 _ _ (get_set _ HL.out.1))) AD.out).mono ?_; rintro e wz ⟨rfl, hb⟩; have HN := Aside0.mk (HM.out.step hb); clear HM hb; have HM := HN; clear HN; clear c0 c1 c2; obtain ⟨⟨c0, c1, c2⟩, ⟨c3, c4, c5⟩, c6⟩ := HM.out.c3 1 rfl; obtain ⟨⟨d0, d1, d2⟩, ⟨d3, d4, d5⟩, d6⟩ := HM.out.c3 0 rfl))
        go_cut [11, 12] (fun s11 s12 wx => s11 = .bool m ∧ s12 = .nilIface ∧ Aside0 (Mem w ((W.heap.size + 1, tb sq) :: (W.heap.size, tb sq) :: Lq.set i (g, ckO sq)) wx))
        case first =>
          have hmb2 : ((k1 : Int) + 1 != n) = m := by rw [← hmb]; have := HN2.out; by_cases e : k1 + 1 = n.toNat <;> simp [e] <;> omega
          go_region_held3 (fun w' => w'.cell? ⟨W.heap.size, 0, none⟩ = some (.int .u64 0) ∧ w'.cell? ⟨W.heap.size, 1, none⟩ = some (.int .i64 sq) ∧ w'.cell? ⟨W.heap.size, 2, none⟩ = some (.pointer none))
            (first | exact (HM.out.drew.c3 1 rfl).1 | exact (HM.out.c3 1 rfl).1 | exact ((HM.out.drewN _).c3 1 rfl).1 | exact (((HM.out.set3 0 rfl _ _ _).drewN _).c3 1 rfl).1 | exact ((HM.out.set3 0 rfl _ _ _).c3 1 rfl).1 | exact ((HM.out.set3 0 rfl _ _ _).drew.c3 1 rfl).1)
            (first
              | (go_at_call 97; with_reducible refine (gronx_limit.calls p n _ HLim.out).mono ?_; rintro e wz ⟨rfl, ⟨nd2, rfl⟩⟩))
          all_goals (go_wp2_with fail; go_meet; exact ⟨by rw [← hmb2], rfl, ⟨by first | exact (HM.out.set3 0 rfl _ _ _).drewN _ | exact (HM.out.set3 0 rfl _ _ _).drew | exact HM.out.set3 0 rfl _ _ _⟩⟩)
        case rest =>
          obtain ⟨rfl, rfl, HM⟩ := hcut
          unfold tb at HM
          obtain ⟨⟨c0, c1, c2⟩, ⟨c3, c4, c5⟩, c6⟩ := HM.out.c3 0 rfl
          go_wp2
          have HF := HM.out.drop 2
          have HE : L.set i (g, ckO sq) = Lq.set i (g, ckO sq) := HL.out.2.symm
          refine bodyPost_ret (v := .tuple #[.agg #[.int .u64 0, .int .i64 sq, .pointer none], .bool m, .nilIface]) (by simp [results, Tryz.results68, go_sem, *]) rfl ⟨rfl, ?_⟩
          rw [HE]
          exact HF
      | false =>
        rw [if_neg (by decide)] at H
        replace H := Option.bind_eq_some_iff.mp H
        obtain ⟨sn, hsn, H⟩ := H
        have AN := Aside0.mk hsn
        have AH := Aside0.mk H
        clear hsn H
        go_wp2_with (first
          | (go_at_call 204; with_reducible refine (SetRef_any g (i + 2) sq sc _ w _ HM.out (get2 _ _ HL.out.1)).mono ?_; rintro e wz ⟨rfl, hmz⟩; rw [set2] at hmz; clear HM; have HM := Aside0.mk hmz; clear hmz)
          | (go_at_call 202; with_reducible refine (CheckDue_any k g seg sq p false _ AI.out.1 AI.out.2.1 AI.out.2.2 (HM.out.at_ (i + 2) (get2 _ _ (get_set _ HL.out.1))) AD.out).mono ?_; rintro e wz ⟨rfl, hb⟩; have HN := Aside0.mk (HM.out.step hb); clear HM hb; have HM := HN; clear HN; clear c0 c1 c2; obtain ⟨⟨c0, c1, c2⟩, ⟨c3, c4, c5⟩, c6⟩ := HM.out.c3 1 rfl)
          | (go_at_call 98; with_reducible refine (bumpR_any p sq sn _ AN.out).mono ?_; rintro e wz ⟨rfl, hb⟩; have HN := Aside0.mk (HM.out.step hb); clear HM hb; have HM := HN; clear HN; clear c0 c1 c2 c3 c4 c5 c6; obtain ⟨⟨c0, c1, c2⟩, ⟨c3, c4, c5⟩, c6⟩ := HM.out.c3 1 rfl))
        go_roundg k1
        case measure => have := HK.out; omega
        case rel =>
          refine ⟨sn, sq, Lq.set i (g, ckO sq), ?_, ⟨by have := HK.out; omega⟩, ⟨?_⟩, ⟨get_set _ HL.out.1, by rw [List.set_set]; exact HL.out.2⟩, ⟨HM.out.set3 1 rfl _ _ _⟩⟩
          · rw [show wrap64 (k1 : Int) = (k1 : Int) from by have := HK.out; have := HN2.out; unfold wrap64; omega]
          · rw [show decide (k1 ≠ n.toNat) = true from decide_eq_true (by have := HK.out; omega)]; exact AH.out
end Go.Proofs.YtjpcdkhapeejjaaGreatDoor.A
