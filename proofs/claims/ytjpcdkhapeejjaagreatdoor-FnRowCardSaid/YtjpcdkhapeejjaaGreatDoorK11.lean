/- Steps of the proof of the law: contracts of functions of the given program, and plain lemmas about what they compute.
Conditions: none beyond those that each theorem names. -/
import Derived.Test.YtjpcdkhapeejjaaGreatDoorK09
import Derived.Test.YtjpcdkhapeejjaaGreatDoorK10
set_option linter.unusedVariables false
set_option linter.unusedSimpArgs false
open Go.RowKit Go.Proofs.YtjpcdkhapeejjaaGreatDoorW.PrintWords Go.Proofs.YtjpcdkhapeejjaaGreatDoorW.PrintLast Go.Proofs.YtjpcdkhapeejjaaGreatDoorW.PrintMore
namespace Go.Proofs.YtjpcdkhapeejjaaGreatDoor.A
open Cal
set_option maxRecDepth 100000
attribute [local go_sem] hset_drewN halloc_drewN
def offVal (n v p : Int) : Bool := (n == v) || (p == 5 && (n == 7 && v == 0))
def offDue (k : Nat) (off : ByteArray) (v p : Int) : Option Bool :=
  if off.toList = ([42] : List UInt8) then some true else if off.toList = ([63] : List UInt8) then some true else
  (gronx_boundsByPos.f k p).bind fun bd => if bd.length = 2 then
  (gronx_zzContains.f k off ⟨#[47]⟩).bind fun c =>
  if c = true then (gronx_inStep.f k v off bd (p == 5)).bind fun r => if r.2 = none then some r.1 else none
  else (gronx_zzContains.f k off ⟨#[45]⟩).bind fun c2 =>
  if c2 = true then (gronx_inRange.f k v off bd (p == 5)).bind fun r => if r.2 = none then some r.1 else none
  else (strconv_Atoi.f off).bind fun n => if n.2 = none ∧ rd bd 0 ≤ n.1 ∧ n.1 ≤ rd bd 1 then some (offVal n.1 v p) else none
  else none
set_option maxHeartbeats 4000000 in
theorem isOffsetDue_any (k : Nat) (off : ByteArray) (v p : Int) (g : Value) (b : Bool) (w : World) (h : offDue k off v p = some b) :
    Calls Tryz.prog 207 #[g, .string off, .int .i64 v, .int .i64 p] w fun e w' => e = .returned (.tuple #[.bool b, .nilIface]) ∧ Below w.heap.size w w' := by
  have hu65 := Tryz.underlying65
  unfold offDue at h
  by_cases c1 : off.toList = ([42] : List UInt8)
  · rw [if_pos c1] at h
    cases h
    have c2 : (off.toList == ([42] : List UInt8)) = true := beq_iff_eq.mpr c1
    clear c1
    go_enter Tryz.func207, Tryz.ntmps207
    go_wp2
    go_ret2
    exact ⟨rfl, by repeat (with_reducible first | exact Below.refl _ _ | apply below_alloc | apply pw_below_drewN | apply below_drew1)⟩
  rw [if_neg c1] at h
  have d1 : (off.toList == ([42] : List UInt8)) = false := beq_eq_false_iff_ne.mpr c1
  clear c1
  by_cases c1 : off.toList = ([63] : List UInt8)
  · rw [if_pos c1] at h
    cases h
    have c2 : (off.toList == ([63] : List UInt8)) = true := beq_iff_eq.mpr c1
    clear c1
    go_enter Tryz.func207, Tryz.ntmps207
    go_wp2
    go_ret2
    exact ⟨rfl, by repeat (with_reducible first | exact Below.refl _ _ | apply below_alloc | apply pw_below_drewN | apply below_drew1)⟩
  rw [if_neg c1] at h
  have d2 : (off.toList == ([63] : List UInt8)) = false := beq_eq_false_iff_ne.mpr c1
  clear c1
  replace h := Option.bind_eq_some_iff.mp h
  obtain ⟨bd, hbd, h⟩ := h
  by_cases hl : bd.length = 2
  case neg => rw [if_neg hl] at h; cases h
  rw [if_pos hl] at h
  replace h := Option.bind_eq_some_iff.mp h
  obtain ⟨c, hc, h⟩ := h
  have A1 := Aside0.mk hbd
  have A2 := Aside0.mk hc
  have AL := Aside0.mk hl
  clear hbd hc hl
  cases c with
  | true =>
    rw [if_pos rfl] at h
    replace h := Option.bind_eq_some_iff.mp h
    obtain ⟨⟨r1, r2⟩, hr, h⟩ := h
    by_cases h2 : r2 = none
    case neg => rw [if_neg h2] at h; cases h
    rw [if_pos h2] at h
    subst h2
    cases h
    have A3 := Aside0.mk hr
    clear hr
    go_enter Tryz.func207, Tryz.ntmps207
    go_wp2_with (first
      | (go_at_call 212; with_reducible refine (gronx_boundsByPos.calls k p bd _ A1.out).mono ?_; rintro e w1 ⟨v0, rfl, ho, hb⟩; obtain ⟨Ao, co, eo⟩ := Kd.R_slice ho; subst eo; have HO := Aside0.mk ho; have HB := Aside0.mk hb; clear ho hb)
      | (go_at_call 213; with_reducible refine (gronx_zzContains.calls k off ⟨#[47]⟩ true _ A2.out).mono ?_; rintro e w2 ⟨rfl, ⟨nd, rfl⟩⟩)
      | (go_at_call 214; have HS := Kd.R_reads' (Kd.R_drewN HO.out nd); with_reducible refine (gronx_inStep.calls k v off Ao co bd (p == 5) r1 none _ HS.2.2 HS.2.1 A3.out).mono ?_; rintro e w3 ⟨rfl, hb3⟩; clear HS; (try simp only [errW_none])))
    go_ret2
    exact ⟨rfl, below_step (pw_below_drewN HB.out _) hb3⟩
  | false =>
    rw [if_neg (by decide)] at h
    replace h := Option.bind_eq_some_iff.mp h
    obtain ⟨c, hc, h⟩ := h
    have A3 := Aside0.mk hc
    clear hc
    cases c with
    | true =>
      rw [if_pos rfl] at h
      replace h := Option.bind_eq_some_iff.mp h
      obtain ⟨⟨r1, r2⟩, hr, h⟩ := h
      by_cases h2 : r2 = none
      case neg => rw [if_neg h2] at h; cases h
      rw [if_pos h2] at h
      subst h2
      cases h
      have A4 := Aside0.mk hr
      clear hr
      go_enter Tryz.func207, Tryz.ntmps207
      go_wp2_with (first
        | (go_at_call 212; with_reducible refine (gronx_boundsByPos.calls k p bd _ A1.out).mono ?_; rintro e w1 ⟨v0, rfl, ho, hb⟩; obtain ⟨Ao, co, eo⟩ := Kd.R_slice ho; subst eo; have HO := Aside0.mk ho; have HB := Aside0.mk hb; clear ho hb)
        | (go_at_call 213; with_reducible refine (gronx_zzContains.calls k off ⟨#[47]⟩ false _ A2.out).mono ?_; rintro e w2 ⟨rfl, ⟨nd, rfl⟩⟩)
        | (go_at_call 213; with_reducible refine (gronx_zzContains.calls k off ⟨#[45]⟩ true _ A3.out).mono ?_; rintro e w2 ⟨rfl, ⟨nd2, rfl⟩⟩)
        | (go_at_call 215; have HS := Kd.R_reads' (Kd.R_drewN HO.out (nd + nd2)); with_reducible refine (gronx_inRange.calls k v off Ao co bd (p == 5) r1 none _ HS.2.2 HS.2.1 A4.out).mono ?_; rintro e w3 ⟨rfl, hb3⟩; clear HS; (try simp only [errW_none])))
      go_ret2
      exact ⟨rfl, below_step (pw_below_drewN HB.out _) hb3⟩
    | false =>
      rw [if_neg (by decide)] at h
      replace h := Option.bind_eq_some_iff.mp h
      obtain ⟨⟨n, r2⟩, hr, h⟩ := h
      by_cases h2 : r2 = none ∧ rd bd 0 ≤ n ∧ n ≤ rd bd 1
      case neg => rw [if_neg h2] at h; cases h
      rw [if_pos h2] at h
      obtain ⟨rfl, h3, h4⟩ := h2
      cases h
      have A4 := Aside0.mk hr
      clear hr
      have f3 : decide (n < rd bd 0) = false := decide_eq_false (by omega)
      have f4 : decide (n > rd bd 1) = false := decide_eq_false (by omega)
      clear h3 h4
      unfold offVal
      by_cases e5 : p = 5
      · have e5b : (p == 5) = true := beq_iff_eq.mpr e5
        clear e5
        go_enter Tryz.func207, Tryz.ntmps207
        go_wp2_with (first
          | (go_at_call 212; with_reducible refine (gronx_boundsByPos.calls k p bd _ A1.out).mono ?_; rintro e w1 ⟨v0, rfl, ho, hb⟩; obtain ⟨Ao, co, eo⟩ := Kd.R_slice ho; subst eo; have HO := Aside0.mk ho; have HB := Aside0.mk hb; clear ho hb)
          | (go_at_call 213; with_reducible refine (gronx_zzContains.calls k off ⟨#[47]⟩ false _ A2.out).mono ?_; rintro e w2 ⟨rfl, ⟨nd, rfl⟩⟩)
          | (go_at_call 213; with_reducible refine (gronx_zzContains.calls k off ⟨#[45]⟩ false _ A3.out).mono ?_; rintro e w2 ⟨rfl, ⟨nd2, rfl⟩⟩)
          | (go_at_call 67; with_reducible refine (strconv_Atoi.calls off _ none _ A4.out).mono ?_; rintro e w3 ⟨rfl, hb3⟩; (try simp only [errW_none]); have HS := (Kd.R_reads' (Kd.R_below (Kd.R_drewN HO.out (nd + nd2)) hb3)).2.2; have hl := AL.out; obtain ⟨ad, e0, hx0⟩ := Kd.at_int HS 0 (by omega) (by omega); cases e0; obtain ⟨ad2, e1, hx1⟩ := Kd.at_int HS 1 (by omega) (by omega); cases e1; rw [show ((0 : Int)).toNat = 0 from rfl, Addr.add_zero'] at hx0; rw [show ((1 : Int)).toNat = 1 from rfl] at hx1; simp only [Go.Addr.add, Nat.one_ne_zero, ↓reduceIte] at hx1; have q1 : (0 < bd.length) = True := eq_true (by omega); have q2 : (1 < bd.length) = True := eq_true (by omega); have q3 : (0 < (bd.length : Int)) = True := eq_true (by omega); have q4 : (1 < (bd.length : Int)) = True := eq_true (by omega); clear HS hl))
        all_goals
          go_ret2
          refine ⟨?_, below_step (pw_below_drewN HB.out _) hb3⟩
          (first | rfl | (simp [e5b]; done) | (simp [*]; done) | (simp_all; done) | (simp_all [Bool.and_comm]; done) | (trace_state; simp_all; omega))
      · have e5b : (p == 5) = false := beq_eq_false_iff_ne.mpr e5
        clear e5
        by_cases v0 : v = 0
        · by_cases n0 : n = 0
          · subst v0; subst n0
            go_enter Tryz.func207, Tryz.ntmps207
            go_wp2_with (first
              | (go_at_call 212; with_reducible refine (gronx_boundsByPos.calls k p bd _ A1.out).mono ?_; rintro e w1 ⟨v0, rfl, ho, hb⟩; obtain ⟨Ao, co, eo⟩ := Kd.R_slice ho; subst eo; have HO := Aside0.mk ho; have HB := Aside0.mk hb; clear ho hb)
              | (go_at_call 213; with_reducible refine (gronx_zzContains.calls k off ⟨#[47]⟩ false _ A2.out).mono ?_; rintro e w2 ⟨rfl, ⟨nd, rfl⟩⟩)
              | (go_at_call 213; with_reducible refine (gronx_zzContains.calls k off ⟨#[45]⟩ false _ A3.out).mono ?_; rintro e w2 ⟨rfl, ⟨nd2, rfl⟩⟩)
              | (go_at_call 67; with_reducible refine (strconv_Atoi.calls off _ none _ A4.out).mono ?_; rintro e w3 ⟨rfl, hb3⟩; (try simp only [errW_none]); have HS := (Kd.R_reads' (Kd.R_below (Kd.R_drewN HO.out (nd + nd2)) hb3)).2.2; have hl := AL.out; obtain ⟨ad, e0, hx0⟩ := Kd.at_int HS 0 (by omega) (by omega); cases e0; obtain ⟨ad2, e1, hx1⟩ := Kd.at_int HS 1 (by omega) (by omega); cases e1; rw [show ((0 : Int)).toNat = 0 from rfl, Addr.add_zero'] at hx0; rw [show ((1 : Int)).toNat = 1 from rfl] at hx1; simp only [Go.Addr.add, Nat.one_ne_zero, ↓reduceIte] at hx1; have q1 : (0 < bd.length) = True := eq_true (by omega); have q2 : (1 < bd.length) = True := eq_true (by omega); have q3 : (0 < (bd.length : Int)) = True := eq_true (by omega); have q4 : (1 < (bd.length : Int)) = True := eq_true (by omega); clear HS hl))
            all_goals
              go_ret2
              refine ⟨?_, below_step (pw_below_drewN HB.out _) hb3⟩
              (first | rfl | (simp [e5b]; done) | (simp [*]; done) | (simp_all; done) | (simp_all [Bool.and_comm]; done) | (trace_state; simp_all; omega))
          · have v1 : (n == 0) = false := beq_eq_false_iff_ne.mpr n0
            subst v0
            go_enter Tryz.func207, Tryz.ntmps207
            go_wp2_with (first
              | (go_at_call 212; with_reducible refine (gronx_boundsByPos.calls k p bd _ A1.out).mono ?_; rintro e w1 ⟨v0, rfl, ho, hb⟩; obtain ⟨Ao, co, eo⟩ := Kd.R_slice ho; subst eo; have HO := Aside0.mk ho; have HB := Aside0.mk hb; clear ho hb)
              | (go_at_call 213; with_reducible refine (gronx_zzContains.calls k off ⟨#[47]⟩ false _ A2.out).mono ?_; rintro e w2 ⟨rfl, ⟨nd, rfl⟩⟩)
              | (go_at_call 213; with_reducible refine (gronx_zzContains.calls k off ⟨#[45]⟩ false _ A3.out).mono ?_; rintro e w2 ⟨rfl, ⟨nd2, rfl⟩⟩)
              | (go_at_call 67; with_reducible refine (strconv_Atoi.calls off _ none _ A4.out).mono ?_; rintro e w3 ⟨rfl, hb3⟩; (try simp only [errW_none]); have HS := (Kd.R_reads' (Kd.R_below (Kd.R_drewN HO.out (nd + nd2)) hb3)).2.2; have hl := AL.out; obtain ⟨ad, e0, hx0⟩ := Kd.at_int HS 0 (by omega) (by omega); cases e0; obtain ⟨ad2, e1, hx1⟩ := Kd.at_int HS 1 (by omega) (by omega); cases e1; rw [show ((0 : Int)).toNat = 0 from rfl, Addr.add_zero'] at hx0; rw [show ((1 : Int)).toNat = 1 from rfl] at hx1; simp only [Go.Addr.add, Nat.one_ne_zero, ↓reduceIte] at hx1; have q1 : (0 < bd.length) = True := eq_true (by omega); have q2 : (1 < bd.length) = True := eq_true (by omega); have q3 : (0 < (bd.length : Int)) = True := eq_true (by omega); have q4 : (1 < (bd.length : Int)) = True := eq_true (by omega); clear HS hl))
            all_goals
              go_ret2
              refine ⟨?_, below_step (pw_below_drewN HB.out _) hb3⟩
              (first | rfl | (simp [e5b]; done) | (simp [*]; done) | (simp_all; done) | (simp_all [Bool.and_comm]; done) | (trace_state; simp_all; omega))
        · have v1 : (v == 0) = false := beq_eq_false_iff_ne.mpr v0
          by_cases n0 : n = 0
          · have v2 : (0 == v) = false := beq_eq_false_iff_ne.mpr (Ne.symm v0)
            clear v0
            subst n0
            go_enter Tryz.func207, Tryz.ntmps207
            go_wp2_with (first
              | (go_at_call 212; with_reducible refine (gronx_boundsByPos.calls k p bd _ A1.out).mono ?_; rintro e w1 ⟨v0, rfl, ho, hb⟩; obtain ⟨Ao, co, eo⟩ := Kd.R_slice ho; subst eo; have HO := Aside0.mk ho; have HB := Aside0.mk hb; clear ho hb)
              | (go_at_call 213; with_reducible refine (gronx_zzContains.calls k off ⟨#[47]⟩ false _ A2.out).mono ?_; rintro e w2 ⟨rfl, ⟨nd, rfl⟩⟩)
              | (go_at_call 213; with_reducible refine (gronx_zzContains.calls k off ⟨#[45]⟩ false _ A3.out).mono ?_; rintro e w2 ⟨rfl, ⟨nd2, rfl⟩⟩)
              | (go_at_call 67; with_reducible refine (strconv_Atoi.calls off _ none _ A4.out).mono ?_; rintro e w3 ⟨rfl, hb3⟩; (try simp only [errW_none]); have HS := (Kd.R_reads' (Kd.R_below (Kd.R_drewN HO.out (nd + nd2)) hb3)).2.2; have hl := AL.out; obtain ⟨ad, e0, hx0⟩ := Kd.at_int HS 0 (by omega) (by omega); cases e0; obtain ⟨ad2, e1, hx1⟩ := Kd.at_int HS 1 (by omega) (by omega); cases e1; rw [show ((0 : Int)).toNat = 0 from rfl, Addr.add_zero'] at hx0; rw [show ((1 : Int)).toNat = 1 from rfl] at hx1; simp only [Go.Addr.add, Nat.one_ne_zero, ↓reduceIte] at hx1; have q1 : (0 < bd.length) = True := eq_true (by omega); have q2 : (1 < bd.length) = True := eq_true (by omega); have q3 : (0 < (bd.length : Int)) = True := eq_true (by omega); have q4 : (1 < (bd.length : Int)) = True := eq_true (by omega); clear HS hl))
            all_goals
              go_ret2
              refine ⟨?_, below_step (pw_below_drewN HB.out _) hb3⟩
              (first | rfl | (simp [e5b]; done) | (simp [*]; done) | (simp_all; done) | (simp_all [Bool.and_comm]; done) | (trace_state; simp_all; omega))
          · have n1 : (n == 0) = false := beq_eq_false_iff_ne.mpr n0
            clear v0 n0
            go_enter Tryz.func207, Tryz.ntmps207
            go_wp2_with (first
              | (go_at_call 212; with_reducible refine (gronx_boundsByPos.calls k p bd _ A1.out).mono ?_; rintro e w1 ⟨v0, rfl, ho, hb⟩; obtain ⟨Ao, co, eo⟩ := Kd.R_slice ho; subst eo; have HO := Aside0.mk ho; have HB := Aside0.mk hb; clear ho hb)
              | (go_at_call 213; with_reducible refine (gronx_zzContains.calls k off ⟨#[47]⟩ false _ A2.out).mono ?_; rintro e w2 ⟨rfl, ⟨nd, rfl⟩⟩)
              | (go_at_call 213; with_reducible refine (gronx_zzContains.calls k off ⟨#[45]⟩ false _ A3.out).mono ?_; rintro e w2 ⟨rfl, ⟨nd2, rfl⟩⟩)
              | (go_at_call 67; with_reducible refine (strconv_Atoi.calls off _ none _ A4.out).mono ?_; rintro e w3 ⟨rfl, hb3⟩; (try simp only [errW_none]); have HS := (Kd.R_reads' (Kd.R_below (Kd.R_drewN HO.out (nd + nd2)) hb3)).2.2; have hl := AL.out; obtain ⟨ad, e0, hx0⟩ := Kd.at_int HS 0 (by omega) (by omega); cases e0; obtain ⟨ad2, e1, hx1⟩ := Kd.at_int HS 1 (by omega) (by omega); cases e1; rw [show ((0 : Int)).toNat = 0 from rfl, Addr.add_zero'] at hx0; rw [show ((1 : Int)).toNat = 1 from rfl] at hx1; simp only [Go.Addr.add, Nat.one_ne_zero, ↓reduceIte] at hx1; have q1 : (0 < bd.length) = True := eq_true (by omega); have q2 : (1 < bd.length) = True := eq_true (by omega); have q3 : (0 < (bd.length : Int)) = True := eq_true (by omega); have q4 : (1 < (bd.length : Int)) = True := eq_true (by omega); clear HS hl))
            all_goals
              go_ret2
              refine ⟨?_, below_step (pw_below_drewN HB.out _) hb3⟩
              (first | rfl | (simp [e5b]; done) | (simp [*]; done) | (simp_all; done) | (simp_all [Bool.and_comm]; done) | (trace_state; simp_all; omega))
/-- The checker's block: its moment. -/
def ckO (s : Int) : Obj := .cells #[.int .u64 0, .int .i64 s, .pointer none] 99 (0, 0)
set_option maxHeartbeats 4000000 in
theorem GetRef_any (g : Nat) (s : Int) (w : World) (hc : w.heap[g]? = some (ckO s)) :
    Calls Tryz.prog 203 #[.pointer (some ⟨g, 0, none⟩)] w fun e w' => e = .returned (.agg #[.int .u64 0, .int .i64 s, .pointer none]) ∧ Below w.heap.size w w' := by
  have hu63 := Tryz.underlying63
  have hu99 := Tryz.underlying99
  have hlt := blk_lt hc
  have HM := Aside0.mk ((Mem.start w).new (tb 0))
  unfold tb at HM
  obtain ⟨⟨c0, c1, c2⟩, ⟨f0, f1, f2⟩, _⟩ := cells3 (blk_alloc hc (.cells #[.int .u64 0, .int .i64 0, .pointer none] 63 (0, 0)))
  obtain ⟨⟨d0, d1, d2⟩, ⟨g0, g1, g2⟩, _⟩ := HM.out.c3 0 rfl
  have hne : (w.heap.size == g) = false := beq_eq_false_iff_ne.mpr (by omega)
  go_enter Tryz.func203, Tryz.ntmps203
  go_wp2_with fail
  have HF := (Mem.start w).new (tb s)
  unfold tb at HF
  have H3 := HF.at_ 0 (p := (w.heap.size, .cells #[.int .u64 0, .int .i64 s, .pointer none] 63 (0, 0))) rfl
  exact bodyPost_ret (results_cell_row rfl _ _ w.heap.size 63 #[.int .u64 0, .int .i64 s, .pointer none] (0, 0) _ rfl H3 Tryz.underlying63 rfl (by kernel_rfl)) rfl ⟨rfl, HF.out⟩
set_option maxHeartbeats 4000000 in
theorem SetRef_any (g i : Nat) (s s0 : Int) (L : List (Nat × Obj)) (w W : World) (hm : Mem w L W) (hc : L[i]? = some (g, ckO s0)) :
    Calls Tryz.prog 204 #[.pointer (some ⟨g, 0, none⟩), .agg #[.int .u64 0, .int .i64 s, .pointer none]] W fun e w' => e = .returned (.tuple #[]) ∧ Mem w (L.set i (g, ckO s)) w' := by
  have hu63 := Tryz.underlying63
  have hu99 := Tryz.underlying99
  have HM := Aside0.mk (hm.alloc (tb s))
  have HS := Aside0.mk ((Mem.start W).new (tb s))
  have HC := Aside0.mk hc
  unfold tb at HM HS
  unfold ckO at HC
  clear hm hc
  obtain ⟨⟨c0, c1, c2⟩, ⟨f0, f1, f2⟩, c3⟩ := HM.out.c3 i HC.out
  obtain ⟨⟨d0, d1, d2⟩, _, _⟩ := HS.out.c3 0 rfl
  go_enter Tryz.func204, Tryz.ntmps204
  go_wp2_with fail
  go_end0
  exact ⟨rfl, HM.out.set3 i HC.out _ _ _⟩
end Go.Proofs.YtjpcdkhapeejjaaGreatDoor.A
namespace Go.Proofs.YtjpcdkhapeejjaaGreatDoor.A
mutual
def gronx_zzContainsAny.l0 : Nat → ByteArray → ByteArray → Int → Option (Bool)
  | 0, _, _, _ => none
  | k + 1, x0, x1, x5 => if x5 < (x0.size : Int) then (gronx_zzContainsAny.l1 k x0 x1 x5 0) else (some false)
def gronx_zzContainsAny.l1 : Nat → ByteArray → ByteArray → Int → Int → Option (Bool)
  | 0, _, _, _, _ => none
  | k + 1, x0, x1, x5, x6 => if x6 < (x1.size : Int) then (if 0 ≤ x5 then (if x5 < (x0.size : Int) then (if 0 ≤ x6 then (if (bt x0 x5) = (bt x1 x6) then (some true) else (gronx_zzContainsAny.l1 k x0 x1 x5 (wrap64 (x6 + 1)))) else (none)) else (none)) else (none)) else (gronx_zzContainsAny.l0 k x0 x1 (wrap64 (x5 + 1)))
end
def gronx_zzContainsAny.f (k : Nat) (a0 : ByteArray) (a1 : ByteArray) : Option (Bool) := gronx_zzContainsAny.l0 k a0 a1 0
set_option maxHeartbeats 8000000 in
set_option maxRecDepth 100000 in
theorem gronx_zzContainsAny.calls (k : Nat) (a0 : ByteArray) (a1 : ByteArray) (r : Bool) (w : World) (h : gronx_zzContainsAny.f k a0 a1 = some r) :
    Calls Tryz.prog 206 #[.string a0, .string a1] w fun e w' => e = .returned (.bool r) ∧ Drawn0 w w' := by
 have H : (gronx_zzContainsAny.l0 k a0 a1 0) = some r := h
 clear h
 have H' := Aside0.mk H
 clear H
 go_enter Tryz.func206, Tryz.ntmps206
 go_wp2
 repeat (go_quiet (fail); try go_wp2)
 go_loopg [5] k (fun kq v5 w' => ∃ (x5_1 : Int), v5 = .int .i64 x5_1 ∧ Aside0 (gronx_zzContainsAny.l0 kq a0 a1 x5_1 = some r) ∧ Aside0 (kq ≤ k) ∧ Drawn0 w w')
 case atStart => exact ⟨(0), (by first | rfl | (simp; done) | (simp [*]; done)), H', ⟨Nat.le_refl _⟩, by repeat (first | exact Drawn0.refl _ | apply Drawn0.step)⟩
 case round =>
  clear H'
  obtain ⟨x5_1, rfl, HA, HK1, ⟨m1, rfl⟩⟩ := hrel
  cases gk with
  | zero => exact absurd HA.out (by simp [gronx_zzContainsAny.l0])
  | succ k1 =>
   have H := HA.out
   clear HA
   simp only [gronx_zzContainsAny.l0] at H
   refine (Classical.em (x5_1 < (a0.size : Int))).elim (fun c3 => ?a1_) (fun c3 => ?b1_)
   case a1_ =>
    rw [if_pos c3] at H
    have c3b0 : decide (x5_1 < (a0.size : Int)) = true := decide_eq_true c3
    clear c3
    have H' := Aside0.mk H
    clear H
    go_wp2
    repeat (go_quiet (fail); try go_wp2)
    go_loopg [6] k1 (fun kq v6 w' => ∃ (x6_2 : Int), v6 = .int .i64 x6_2 ∧ Aside0 (gronx_zzContainsAny.l1 kq a0 a1 x5_1 x6_2 = some r) ∧ Aside0 (kq ≤ k1) ∧ Drawn0 w w')
    case atStart => exact ⟨(0), (by first | rfl | (simp; done) | (simp [*]; done)), H', ⟨Nat.le_refl _⟩, by repeat (first | exact Drawn0.refl _ | apply Drawn0.step)⟩
    case round =>
     clear H'
     try clear c3
     try clear c3b0
     obtain ⟨x6_2, rfl, HA, HK2, ⟨m2, rfl⟩⟩ := hrel
     cases gk with
     | zero => exact absurd HA.out (by simp [gronx_zzContainsAny.l1])
     | succ k2 =>
      have H := HA.out
      clear HA
      simp only [gronx_zzContainsAny.l1] at H
      refine (Classical.em (x6_2 < (a1.size : Int))).elim (fun c4 => ?a2_) (fun c4 => ?b2_)
      case' a2_ =>
       rw [if_pos c4] at H
       have c4b0 : decide (x6_2 < (a1.size : Int)) = true := decide_eq_true c4
       clear c4
       refine (Classical.em (0 ≤ x5_1)).elim (fun c5 => ?a3_) (fun c5 => ?b3_)
      case' a3_ =>
       rw [if_pos c5] at H
       have c5b0 : decide (0 ≤ x5_1) = true := decide_eq_true c5
       clear c5
       refine (Classical.em (x5_1 < (a0.size : Int))).elim (fun c6 => ?a4_) (fun c6 => ?b4_)
      case' a4_ =>
       rw [if_pos c6] at H
       have c6b0 : decide (x5_1 < (a0.size : Int)) = true := decide_eq_true c6
       clear c6
       refine (Classical.em (0 ≤ x6_2)).elim (fun c8 => ?a5_) (fun c8 => ?b5_)
      case' a5_ =>
       rw [if_pos c8] at H
       have c8b0 : decide (0 ≤ x6_2) = true := decide_eq_true c8
       clear c8
       refine (Classical.em ((bt a0 x5_1) = (bt a1 x6_2))).elim (fun c10 => ?a6_) (fun c10 => ?b6_)
      case a6_ =>
       rw [if_pos c10] at H
       have c10b0 : ((bt a0 x5_1) == (bt a1 x6_2)) = true := beq_iff_eq.mpr c10
       have c10b1 : ((bt a0 x5_1) != (bt a1 x6_2)) = false := bne_eq_false_iff_eq.mpr c10
       clear c10
       obtain rfl := Option.some.inj H
       have p7 : 0 ≤ (x5_1 : Int) := of_decide_eq_true (by first | (with_reducible assumption) | assumption)
       have q7 : x5_1 < (a0.size : Int) := of_decide_eq_true (by first | (with_reducible assumption) | assumption)
       have hx7 := bt_at a0 x5_1
       replace p7 := eq_true p7
       replace q7 := eq_true q7
       have p9 : 0 ≤ (x6_2 : Int) := of_decide_eq_true (by first | (with_reducible assumption) | assumption)
       have q9 : x6_2 < (a1.size : Int) := of_decide_eq_true (by first | (with_reducible assumption) | assumption)
       have hx9 := bt_at a1 x6_2
       replace p9 := eq_true p9
       replace q9 := eq_true q9
       go_wp2
       repeat (go_quiet (fail); try go_wp2)
       go_ret
       exact ⟨by first | rfl | (simp; done) | (simp [*]; done), by repeat (first | exact Drawn0.refl _ | apply Drawn0.step)⟩
      case b6_ =>
       rw [if_neg c10] at H
       have c10b0 : ((bt a0 x5_1) == (bt a1 x6_2)) = false := beq_eq_false_iff_ne.mpr c10
       have c10b1 : ((bt a0 x5_1) != (bt a1 x6_2)) = true := bne_iff_ne.mpr c10
       have H' := Aside0.mk H
       clear H
       have p7 : 0 ≤ (x5_1 : Int) := of_decide_eq_true (by first | (with_reducible assumption) | assumption)
       have q7 : x5_1 < (a0.size : Int) := of_decide_eq_true (by first | (with_reducible assumption) | assumption)
       have hx7 := bt_at a0 x5_1
       replace p7 := eq_true p7
       replace q7 := eq_true q7
       have p9 : 0 ≤ (x6_2 : Int) := of_decide_eq_true (by first | (with_reducible assumption) | assumption)
       have q9 : x6_2 < (a1.size : Int) := of_decide_eq_true (by first | (with_reducible assumption) | assumption)
       have hx9 := bt_at a1 x6_2
       replace p9 := eq_true p9
       replace q9 := eq_true q9
       go_wp2
       repeat (go_quiet (fail); try go_wp2)
       go_roundg k2
       case measure => have := HK1.out; have := HK2.out; omega
       case rel => exact ⟨(wrap64 (x6_2 + 1)), (by first | rfl | (simp; done) | (simp [*]; done)), H', ⟨by have := HK1.out; have := HK2.out; omega⟩, by repeat (first | exact Drawn0.refl _ | apply Drawn0.step)⟩
      case b5_ =>
       rw [if_neg c8] at H
       exact absurd H (by simp)
      case b4_ =>
       rw [if_neg c6] at H
       exact absurd H (by simp)
      case b3_ =>
       rw [if_neg c5] at H
       exact absurd H (by simp)
      case b2_ =>
       rw [if_neg c4] at H
       have c4b0 : decide (x6_2 < (a1.size : Int)) = false := decide_eq_false c4
       clear c4
       have H' := Aside0.mk H
       clear H
       go_wp2
       repeat (go_quiet (fail); try go_wp2)
       go_roundg k2
       case measure => have := HK1.out; have := HK2.out; omega
       case rel => exact ⟨(wrap64 (x5_1 + 1)), (by first | rfl | (simp; done) | (simp [*]; done)), H', ⟨by have := HK1.out; have := HK2.out; omega⟩, by repeat (first | exact Drawn0.refl _ | apply Drawn0.step)⟩
   case b1_ =>
    rw [if_neg c3] at H
    have c3b0 : decide (x5_1 < (a0.size : Int)) = false := decide_eq_false c3
    clear c3
    obtain rfl := Option.some.inj H
    go_wp2
    repeat (go_quiet (fail); try go_wp2)
    go_ret
    exact ⟨by first | rfl | (simp; done) | (simp [*]; done), by repeat (first | exact Drawn0.refl _ | apply Drawn0.step)⟩
end Go.Proofs.YtjpcdkhapeejjaaGreatDoor.A
namespace Go.Proofs.YtjpcdkhapeejjaaGreatDoor.A
open Cal
set_option maxRecDepth 100000
attribute [local go_sem] hset_drewN halloc_drewN
/-- Does a part hold a letter for special days? Asked of days alone. -/
def modOf (k : Nat) (o : ByteArray) (p : Int) : Option Bool := if p = 3 ∨ p = 5 then gronx_zzContainsAny.f k o ⟨#[76, 87, 35]⟩ else some false
def chkL (k : Nat) (v p : Int) : List ByteArray → Option Bool
  | [] => some false
  | o :: l => (modOf k o p).bind fun m => if m = true then none else (offDue k o v p).bind fun d => if d = true then some true else chkL k v p l
def chk (k : Nat) (seg : ByteArray) (v p : Int) : Option Bool := (gronx_zzSplit.f k seg ⟨#[44]⟩).bind fun l => if l.length < 1000000 then chkL k v p l else none
theorem drop_rd (l : List ByteArray) (i : Nat) (h : i < l.length) : l.drop i = rdOf ByteArray.empty l (i : Int) :: l.drop (i + 1) := by
  rw [List.drop_eq_getElem_cons h]
  congr 1
  simp [rdOf, h]
set_option maxHeartbeats 8000000 in
theorem CheckDue_any (k g : Nat) (seg : ByteArray) (s p : Int) (b : Bool) (w : World) (hI : InR s) (hp : 0 ≤ p) (hp2 : p ≤ 6) (hg : w.heap[g]? = some (ckO s)) (h : chk k seg (posV s p) p = some b) :
    Calls Tryz.prog 202 #[.pointer (some ⟨g, 0, none⟩), .string seg, .int .i64 p] w fun e w' => e = .returned (.tuple #[.bool b, .nilIface]) ∧ Below w.heap.size w w' := by
  have hu63 := Tryz.underlying63
  have hu65 := Tryz.underlying65
  unfold chk at h
  replace h := Option.bind_eq_some_iff.mp h
  obtain ⟨l, hl, h⟩ := h
  by_cases hlen : l.length < 1000000
  case neg => rw [if_neg hlen] at h; cases h
  rw [if_pos hlen] at h
  have HLen := Aside0.mk hlen
  clear hlen
  have A1 := Aside0.mk hl
  have HC := Aside0.mk h
  have HG := Aside0.mk (GetRef_any g s w hg)
  have HV := Aside0.mk (fun W => valueByPos_any s p W hI hp hp2)
  have HL := Aside0.mk (fun W => Location_any s W)
  unfold LocPost at HL
  clear hl h hg hI hp hp2
  generalize posV s p = v at *
  go_enter Tryz.func202, Tryz.ntmps202
  go_upto_region 2 with (first | (go_at_call 203; with_reducible refine HG.out.mono ?_; rintro e w1 ⟨rfl, hb⟩; have HM := Aside0.mk (((Mem.start w).step hb).new (tb s)); clear hb; unfold tb at HM))
  obtain ⟨⟨c0, c1, c2⟩, _, _⟩ := HM.out.c3 0 rfl
  go_cut [10, 11] (fun s10 s11 wx => s10 = .int .i64 v ∧ Aside0 (Below w.heap.size w wx))
  case first =>
    go_region_held3 (fun w' => w'.cell? ⟨w1.heap.size, 0, none⟩ = some (.int .u64 0) ∧ w'.cell? ⟨w1.heap.size, 1, none⟩ = some (.int .i64 s) ∧ w'.cell? ⟨w1.heap.size, 2, none⟩ = some (.pointer none))
      (first | exact (HM.out.drew.c3 0 rfl).1 | exact (HM.out.c3 0 rfl).1)
      (first
        | (go_at_call 205; with_reducible refine (HV.out _).mono ?_; rintro e wz ⟨rfl, hb⟩; (first | have HN := Aside0.mk (HM.out.step hb) | have HN := Aside0.mk (HM.out.drew.step hb)); clear hb HM; have HM := HN; clear HN)
        | (go_at_call 120; with_reducible refine (HL.out _).mono ?_; rintro e wz ⟨gl, rfl, hL, hb, hgl⟩; (first | have HN := Aside0.mk (HM.out.step hb) | have HN := Aside0.mk (HM.out.drew.step hb)); clear hL hgl hb HM; have HM := HN; clear HN))
    all_goals (go_wp2_with fail; go_meet; exact ⟨rfl, ⟨HM.out.out⟩⟩)
  case rest =>
    obtain ⟨rfl, HB⟩ := hcut
    clear c0 c1 c2 HM HG HV HL
    by_cases e3p : p = 3
    · have e3 : (p == 3) = true := beq_iff_eq.mpr e3p; have e5 : (p == 5) = false := beq_eq_false_iff_ne.mpr (by omega)
      have hmo : ∀ o, modOf k o p = gronx_zzContainsAny.f k o ⟨#[76, 87, 35]⟩ := fun o => if_pos (.inl e3p)
      clear e3p
      have HMo := Aside0.mk hmo
      clear hmo
      go_wp2_with (first | (go_at_call 64; with_reducible refine (gronx_zzSplit.calls k seg ⟨#[44]⟩ l _ A1.out).mono ?_; rintro e w3 ⟨v0, rfl, ho, hb⟩; obtain ⟨Ao, co, eo⟩ := Kd.R_slice ho; subst eo; have HO := Aside0.mk (Kd.R_lower ho (below_size HB.out)); have HN := Aside0.mk (below_step HB.out hb); clear HB ho hb; have HB := HN; clear HN))
      go_loopg [31] l.length (fun kq v31 wq => ∃ i : Nat, v31 = .int .i64 (i : Int) ∧ Aside0 (kq + i = l.length) ∧ Aside0 (chkL k v p (l.drop i) = some b) ∧ Aside0 (Kd.R Kd.string 9 wq w.heap.size (fun _ => True) (.slice Ao l.length co) l) ∧ Aside0 (Below w.heap.size w wq))
      case atStart => exact ⟨0, rfl, ⟨by omega⟩, ⟨HC.out⟩, HO, HB⟩
      case round =>
        clear HC HO HB
        obtain ⟨i, rfl, HI, HA, HO, HB⟩ := hrel
        by_cases hi : i < l.length
        · have H := HA.out
          clear HA
          rw [drop_rd l i hi] at H
          unfold chkL at H
          rw [HMo.out] at H
          replace H := Option.bind_eq_some_iff.mp H
          obtain ⟨m, hm, H⟩ := H
          cases m with
          | true => rw [if_pos rfl] at H; cases H
          | false =>
            rw [if_neg (by decide)] at H
            replace H := Option.bind_eq_some_iff.mp H
            obtain ⟨d, hd, H⟩ := H
            have AM := Aside0.mk hm
            have AD := Aside0.mk hd
            clear hm hd
            have hww : IntKind.i64.wrap ((i : Int) + 1) = ((i + 1 : Nat) : Int) := by
              rw [i64_w]
              have := HLen.out
              unfold wrap64
              omega
            have q1 : (0 ≤ (i : Int)) = True := eq_true (by omega); have q2 : ((i : Int) < (l.length : Int)) = True := eq_true (by omega); have q3 : (((i : Int)).toNat < l.length) = True := eq_true (by omega); have q4 : decide ((i : Int) < (l.length : Int)) = true := decide_eq_true (by omega); have q5 : (i < l.length) = True := eq_true hi; have q6 : decide (i < l.length) = true := decide_eq_true hi
            obtain ⟨ad, e0, hx0⟩ := Kd.at_string (Kd.R_reads' HO.out).2.2 i (by omega) (by omega)
            cases e0
            rw [Int.toNat_natCast] at hx0
            cases d with
            | true =>
              rw [if_pos rfl] at H
              cases H
              go_wp2_with (first 
            | (go_at_call 206; with_reducible refine (gronx_zzContainsAny.calls k _ _ false _ AM.out).mono ?_; rintro e w4 ⟨rfl, ⟨nd, rfl⟩⟩; have HN := Aside0.mk (Kd.R_drewN HO.out nd); have HN2 := Aside0.mk (pw_below_drewN HB.out nd); clear HO HB; have HO := HN; have HB := HN2; clear HN HN2)
                | (go_at_call 207; with_reducible refine (isOffsetDue_any k _ v p _ true _ AD.out).mono ?_; rintro e w5 ⟨rfl, hb⟩; have HN := Aside0.mk (below_step HB.out hb); clear HO HB hb; have HB := HN; clear HN))
              go_ret2
              exact ⟨rfl, HB.out⟩
            | false =>
              rw [if_neg (by decide)] at H
              have AH := Aside0.mk H
              clear H
              go_wp2_with (first 
            | (go_at_call 206; with_reducible refine (gronx_zzContainsAny.calls k _ _ false _ AM.out).mono ?_; rintro e w4 ⟨rfl, ⟨nd, rfl⟩⟩; have HN := Aside0.mk (Kd.R_drewN HO.out nd); have HN2 := Aside0.mk (pw_below_drewN HB.out nd); clear HO HB; have HO := HN; have HB := HN2; clear HN HN2)
                | (go_at_call 207; with_reducible refine (isOffsetDue_any k _ v p _ false _ AD.out).mono ?_; rintro e w5 ⟨rfl, hb⟩; have HN := Aside0.mk (below_step HB.out hb); have HN2 := Aside0.mk (Kd.R_below HO.out hb); clear HO HB hb; have HB := HN; have HO := HN2; clear HN HN2))
              go_roundg (gk - 1)
              case measure => have := HI.out; omega
              case rel => exact ⟨i + 1, rfl, ⟨by have := HI.out; omega⟩, AH, HO, HB⟩
        · have H := HA.out
          clear HA
          rw [List.drop_eq_nil_of_le (by omega)] at H
          unfold chkL at H
          cases H
          have q4 : decide ((i : Int) < (l.length : Int)) = false := decide_eq_false (by omega)
          have q5 : decide (i < l.length) = false := decide_eq_false hi
          go_wp2
          go_ret2
          exact ⟨rfl, HB.out⟩
    · by_cases e5p : p = 5
      · have e3 : (p == 3) = false := beq_eq_false_iff_ne.mpr (by omega); have e5 : (p == 5) = true := beq_iff_eq.mpr e5p
        have hmo : ∀ o, modOf k o p = gronx_zzContainsAny.f k o ⟨#[76, 87, 35]⟩ := fun o => if_pos (.inr e5p)
        clear e3p e5p
        have HMo := Aside0.mk hmo
        clear hmo
        go_wp2_with (first | (go_at_call 64; with_reducible refine (gronx_zzSplit.calls k seg ⟨#[44]⟩ l _ A1.out).mono ?_; rintro e w3 ⟨v0, rfl, ho, hb⟩; obtain ⟨Ao, co, eo⟩ := Kd.R_slice ho; subst eo; have HO := Aside0.mk (Kd.R_lower ho (below_size HB.out)); have HN := Aside0.mk (below_step HB.out hb); clear HB ho hb; have HB := HN; clear HN))
        go_loopg [31] l.length (fun kq v31 wq => ∃ i : Nat, v31 = .int .i64 (i : Int) ∧ Aside0 (kq + i = l.length) ∧ Aside0 (chkL k v p (l.drop i) = some b) ∧ Aside0 (Kd.R Kd.string 9 wq w.heap.size (fun _ => True) (.slice Ao l.length co) l) ∧ Aside0 (Below w.heap.size w wq))
        case atStart => exact ⟨0, rfl, ⟨by omega⟩, ⟨HC.out⟩, HO, HB⟩
        case round =>
          clear HC HO HB
          obtain ⟨i, rfl, HI, HA, HO, HB⟩ := hrel
          by_cases hi : i < l.length
          · have H := HA.out
            clear HA
            rw [drop_rd l i hi] at H
            unfold chkL at H
            rw [HMo.out] at H
            replace H := Option.bind_eq_some_iff.mp H
            obtain ⟨m, hm, H⟩ := H
            cases m with
            | true => rw [if_pos rfl] at H; cases H
            | false =>
              rw [if_neg (by decide)] at H
              replace H := Option.bind_eq_some_iff.mp H
              obtain ⟨d, hd, H⟩ := H
              have AM := Aside0.mk hm
              have AD := Aside0.mk hd
              clear hm hd
              have hww : IntKind.i64.wrap ((i : Int) + 1) = ((i + 1 : Nat) : Int) := by
                rw [i64_w]
                have := HLen.out
                unfold wrap64
                omega
              have q1 : (0 ≤ (i : Int)) = True := eq_true (by omega); have q2 : ((i : Int) < (l.length : Int)) = True := eq_true (by omega); have q3 : (((i : Int)).toNat < l.length) = True := eq_true (by omega); have q4 : decide ((i : Int) < (l.length : Int)) = true := decide_eq_true (by omega); have q5 : (i < l.length) = True := eq_true hi; have q6 : decide (i < l.length) = true := decide_eq_true hi
              obtain ⟨ad, e0, hx0⟩ := Kd.at_string (Kd.R_reads' HO.out).2.2 i (by omega) (by omega)
              cases e0
              rw [Int.toNat_natCast] at hx0
              cases d with
              | true =>
                rw [if_pos rfl] at H
                cases H
                go_wp2_with (first 
              | (go_at_call 206; with_reducible refine (gronx_zzContainsAny.calls k _ _ false _ AM.out).mono ?_; rintro e w4 ⟨rfl, ⟨nd, rfl⟩⟩; have HN := Aside0.mk (Kd.R_drewN HO.out nd); have HN2 := Aside0.mk (pw_below_drewN HB.out nd); clear HO HB; have HO := HN; have HB := HN2; clear HN HN2)
                  | (go_at_call 207; with_reducible refine (isOffsetDue_any k _ v p _ true _ AD.out).mono ?_; rintro e w5 ⟨rfl, hb⟩; have HN := Aside0.mk (below_step HB.out hb); clear HO HB hb; have HB := HN; clear HN))
                go_ret2
                exact ⟨rfl, HB.out⟩
              | false =>
                rw [if_neg (by decide)] at H
                have AH := Aside0.mk H
                clear H
                go_wp2_with (first 
              | (go_at_call 206; with_reducible refine (gronx_zzContainsAny.calls k _ _ false _ AM.out).mono ?_; rintro e w4 ⟨rfl, ⟨nd, rfl⟩⟩; have HN := Aside0.mk (Kd.R_drewN HO.out nd); have HN2 := Aside0.mk (pw_below_drewN HB.out nd); clear HO HB; have HO := HN; have HB := HN2; clear HN HN2)
                  | (go_at_call 207; with_reducible refine (isOffsetDue_any k _ v p _ false _ AD.out).mono ?_; rintro e w5 ⟨rfl, hb⟩; have HN := Aside0.mk (below_step HB.out hb); have HN2 := Aside0.mk (Kd.R_below HO.out hb); clear HO HB hb; have HB := HN; have HO := HN2; clear HN HN2))
                go_roundg (gk - 1)
                case measure => have := HI.out; omega
                case rel => exact ⟨i + 1, rfl, ⟨by have := HI.out; omega⟩, AH, HO, HB⟩
          · have H := HA.out
            clear HA
            rw [List.drop_eq_nil_of_le (by omega)] at H
            unfold chkL at H
            cases H
            have q4 : decide ((i : Int) < (l.length : Int)) = false := decide_eq_false (by omega)
            have q5 : decide (i < l.length) = false := decide_eq_false hi
            go_wp2
            go_ret2
            exact ⟨rfl, HB.out⟩
      · have e3 : (p == 3) = false := beq_eq_false_iff_ne.mpr e3p; have e5 : (p == 5) = false := beq_eq_false_iff_ne.mpr e5p
        have hmo : ∀ o, modOf k o p = some false := fun o => if_neg (fun h => h.elim e3p e5p)
        clear e3p e5p
        have HMo := Aside0.mk hmo
        clear hmo
        go_wp2_with (first | (go_at_call 64; with_reducible refine (gronx_zzSplit.calls k seg ⟨#[44]⟩ l _ A1.out).mono ?_; rintro e w3 ⟨v0, rfl, ho, hb⟩; obtain ⟨Ao, co, eo⟩ := Kd.R_slice ho; subst eo; have HO := Aside0.mk (Kd.R_lower ho (below_size HB.out)); have HN := Aside0.mk (below_step HB.out hb); clear HB ho hb; have HB := HN; clear HN))
        go_loopg [31] l.length (fun kq v31 wq => ∃ i : Nat, v31 = .int .i64 (i : Int) ∧ Aside0 (kq + i = l.length) ∧ Aside0 (chkL k v p (l.drop i) = some b) ∧ Aside0 (Kd.R Kd.string 9 wq w.heap.size (fun _ => True) (.slice Ao l.length co) l) ∧ Aside0 (Below w.heap.size w wq))
        case atStart => exact ⟨0, rfl, ⟨by omega⟩, ⟨HC.out⟩, HO, HB⟩
        case round =>
          clear HC HO HB
          obtain ⟨i, rfl, HI, HA, HO, HB⟩ := hrel
          by_cases hi : i < l.length
          · have H := HA.out
            clear HA
            rw [drop_rd l i hi] at H
            unfold chkL at H
            rw [HMo.out] at H
            replace H := Option.bind_eq_some_iff.mp H
            obtain ⟨m, hm, H⟩ := H
            cases m with
            | true => rw [if_pos rfl] at H; cases H
            | false =>
              rw [if_neg (by decide)] at H
              replace H := Option.bind_eq_some_iff.mp H
              obtain ⟨d, hd, H⟩ := H
              have AM := Aside0.mk hm
              have AD := Aside0.mk hd
              clear hm hd
              have hww : IntKind.i64.wrap ((i : Int) + 1) = ((i + 1 : Nat) : Int) := by
                rw [i64_w]
                have := HLen.out
                unfold wrap64
                omega
              have q1 : (0 ≤ (i : Int)) = True := eq_true (by omega); have q2 : ((i : Int) < (l.length : Int)) = True := eq_true (by omega); have q3 : (((i : Int)).toNat < l.length) = True := eq_true (by omega); have q4 : decide ((i : Int) < (l.length : Int)) = true := decide_eq_true (by omega); have q5 : (i < l.length) = True := eq_true hi; have q6 : decide (i < l.length) = true := decide_eq_true hi
              obtain ⟨ad, e0, hx0⟩ := Kd.at_string (Kd.R_reads' HO.out).2.2 i (by omega) (by omega)
              cases e0
              rw [Int.toNat_natCast] at hx0
              cases d with
              | true =>
                rw [if_pos rfl] at H
                cases H
                go_wp2_with (first 
                  | (go_at_call 207; with_reducible refine (isOffsetDue_any k _ v p _ true _ AD.out).mono ?_; rintro e w5 ⟨rfl, hb⟩; have HN := Aside0.mk (below_step HB.out hb); clear HO HB hb; have HB := HN; clear HN))
                go_ret2
                exact ⟨rfl, HB.out⟩
              | false =>
                rw [if_neg (by decide)] at H
                have AH := Aside0.mk H
                clear H
                go_wp2_with (first 
                  | (go_at_call 207; with_reducible refine (isOffsetDue_any k _ v p _ false _ AD.out).mono ?_; rintro e w5 ⟨rfl, hb⟩; have HN := Aside0.mk (below_step HB.out hb); have HN2 := Aside0.mk (Kd.R_below HO.out hb); clear HO HB hb; have HB := HN; have HO := HN2; clear HN HN2))
                go_roundg (gk - 1)
                case measure => have := HI.out; omega
                case rel => exact ⟨i + 1, rfl, ⟨by have := HI.out; omega⟩, AH, HO, HB⟩
          · have H := HA.out
            clear HA
            rw [List.drop_eq_nil_of_le (by omega)] at H
            unfold chkL at H
            cases H
            have q4 : decide ((i : Int) < (l.length : Int)) = false := decide_eq_false (by omega)
            have q5 : decide (i < l.length) = false := decide_eq_false hi
            go_wp2
            go_ret2
            exact ⟨rfl, HB.out⟩
end Go.Proofs.YtjpcdkhapeejjaaGreatDoor.A
namespace Go.Proofs.YtjpcdkhapeejjaaGreatDoor.A
def gronx_limit.f (a0 : Int) : Option (Int) := if a0 = 0 then (some 60) else (if a0 = 1 then (some 60) else (if a0 = 2 then (some 24) else (if a0 = 3 then (some 62) else (if a0 = 4 then (some 12) else (if a0 = 5 then (some 366) else (if a0 = 6 then (some 100) else (some 0)))))))
set_option maxHeartbeats 8000000 in
set_option maxRecDepth 100000 in
theorem gronx_limit.calls (a0 : Int) (r : Int) (w : World) (h : gronx_limit.f a0 = some r) :
    Calls Tryz.prog 97 #[.int .i64 a0] w fun e w' => e = .returned (.int .i64 r) ∧ Drawn0 w w' := by
 have H : (if a0 = 0 then (some 60) else (if a0 = 1 then (some 60) else (if a0 = 2 then (some 24) else (if a0 = 3 then (some 62) else (if a0 = 4 then (some 12) else (if a0 = 5 then (some 366) else (if a0 = 6 then (some 100) else (some 0)))))))) = some r := h
 clear h
 refine (Classical.em (a0 = 0)).elim (fun c2 => ?a1_) (fun c2 => ?b1_)
 case' a1_ =>
  rw [if_pos c2] at H
  have c2b0 : (a0 == 0) = true := beq_iff_eq.mpr c2
  have c2b1 : (a0 != 0) = false := bne_eq_false_iff_eq.mpr c2
  clear c2
  obtain rfl := Option.some.inj H
 case' b1_ =>
  rw [if_neg c2] at H
  have c2b0 : (a0 == 0) = false := beq_eq_false_iff_ne.mpr c2
  have c2b1 : (a0 != 0) = true := bne_iff_ne.mpr c2
  refine (Classical.em (a0 = 1)).elim (fun c3 => ?a2_) (fun c3 => ?b2_)
 case' a2_ =>
  rw [if_pos c3] at H
  have c3b0 : (a0 == 1) = true := beq_iff_eq.mpr c3
  have c3b1 : (a0 != 1) = false := bne_eq_false_iff_eq.mpr c3
  clear c3
  obtain rfl := Option.some.inj H
 case' b2_ =>
  rw [if_neg c3] at H
  have c3b0 : (a0 == 1) = false := beq_eq_false_iff_ne.mpr c3
  have c3b1 : (a0 != 1) = true := bne_iff_ne.mpr c3
  refine (Classical.em (a0 = 2)).elim (fun c4 => ?a3_) (fun c4 => ?b3_)
 case' a3_ =>
  rw [if_pos c4] at H
  have c4b0 : (a0 == 2) = true := beq_iff_eq.mpr c4
  have c4b1 : (a0 != 2) = false := bne_eq_false_iff_eq.mpr c4
  clear c4
  obtain rfl := Option.some.inj H
 case' b3_ =>
  rw [if_neg c4] at H
  have c4b0 : (a0 == 2) = false := beq_eq_false_iff_ne.mpr c4
  have c4b1 : (a0 != 2) = true := bne_iff_ne.mpr c4
  refine (Classical.em (a0 = 3)).elim (fun c5 => ?a4_) (fun c5 => ?b4_)
 case' a4_ =>
  rw [if_pos c5] at H
  have c5b0 : (a0 == 3) = true := beq_iff_eq.mpr c5
  have c5b1 : (a0 != 3) = false := bne_eq_false_iff_eq.mpr c5
  clear c5
  obtain rfl := Option.some.inj H
 case' b4_ =>
  rw [if_neg c5] at H
  have c5b0 : (a0 == 3) = false := beq_eq_false_iff_ne.mpr c5
  have c5b1 : (a0 != 3) = true := bne_iff_ne.mpr c5
  refine (Classical.em (a0 = 4)).elim (fun c6 => ?a5_) (fun c6 => ?b5_)
 case' a5_ =>
  rw [if_pos c6] at H
  have c6b0 : (a0 == 4) = true := beq_iff_eq.mpr c6
  have c6b1 : (a0 != 4) = false := bne_eq_false_iff_eq.mpr c6
  clear c6
  obtain rfl := Option.some.inj H
 case' b5_ =>
  rw [if_neg c6] at H
  have c6b0 : (a0 == 4) = false := beq_eq_false_iff_ne.mpr c6
  have c6b1 : (a0 != 4) = true := bne_iff_ne.mpr c6
  refine (Classical.em (a0 = 5)).elim (fun c7 => ?a6_) (fun c7 => ?b6_)
 case' a6_ =>
  rw [if_pos c7] at H
  have c7b0 : (a0 == 5) = true := beq_iff_eq.mpr c7
  have c7b1 : (a0 != 5) = false := bne_eq_false_iff_eq.mpr c7
  clear c7
  obtain rfl := Option.some.inj H
 case' b6_ =>
  rw [if_neg c7] at H
  have c7b0 : (a0 == 5) = false := beq_eq_false_iff_ne.mpr c7
  have c7b1 : (a0 != 5) = true := bne_iff_ne.mpr c7
  refine (Classical.em (a0 = 6)).elim (fun c8 => ?a7_) (fun c8 => ?b7_)
 case' a7_ =>
  rw [if_pos c8] at H
  have c8b0 : (a0 == 6) = true := beq_iff_eq.mpr c8
  have c8b1 : (a0 != 6) = false := bne_eq_false_iff_eq.mpr c8
  clear c8
  obtain rfl := Option.some.inj H
 case' b7_ =>
  rw [if_neg c8] at H
  have c8b0 : (a0 == 6) = false := beq_eq_false_iff_ne.mpr c8
  have c8b1 : (a0 != 6) = true := bne_iff_ne.mpr c8
  obtain rfl := Option.some.inj H
 case a1_ | a2_ | a3_ | a4_ | a5_ | a6_ | a7_ | b7_ =>
  go_enter Tryz.func97, Tryz.ntmps97
  go_wp2
  go_ret
  exact ⟨by first | rfl | (simp; done) | (simp [*]; done), by repeat (first | exact Drawn0.refl _ | apply Drawn0.step)⟩
end Go.Proofs.YtjpcdkhapeejjaaGreatDoor.A
namespace Go.Proofs.YtjpcdkhapeejjaaGreatDoor.Cal
theorem yd_rt : ∀ n : Fin 366, (979 * amo (n.val : Int) - 2919) / 32 + amd (n.val : Int) - 1 = (n.val : Int) := by decide +kernel
theorem ayd_rt (y : Int) (h0 : 0 ≤ y) (h1 : y ≤ 365) : (979 * amo y - 2919) / 32 + amd y - 1 = y := by
  obtain ⟨n, rfl⟩ := Int.eq_ofNat_of_zero_le h0
  exact yd_rt ⟨n, by omega⟩
theorem ord_rt (E : Int) : ordE (yearE E) (monE E) (dayE E) = E := by
  have hy := ayd_bd E
  have hc := cyr_bd E
  have hr := ayd_rt (ayd E) hy.1 hy.2
  have hm := amo_bd (ayd E) hy.1 hy.2
  have key : 146097 * cen E / 4 + 1461 * cyr E / 4 + ayd E = E := by
    have hd := cdd_bd E
    unfold cen cyr ayd
    have e : cdd E = (4 * E + 3) % 146097 / 4 * 4 + 3 := rfl
    generalize cdd E = c at *
    have q1 : c = 1461 * (c / 1461) + c % 1461 := by omega
    generalize c / 1461 = q at *
    generalize c % 1461 = p at *
    have q2 : q % 4 + p % 4 = 3 := by omega
    have q3 : 1461 * q / 4 + p / 4 = (c - 3) / 4 := by omega
    have q4 : 4 * E + 3 = 146097 * ((4 * E + 3) / 146097) + (4 * E + 3) % 146097 := by omega
    generalize (4 * E + 3) / 146097 = Q at *
    generalize (4 * E + 3) % 146097 = r at *
    have q5 : Q % 4 + r % 4 = 3 := by omega
    have q6 : 146097 * Q / 4 + r / 4 = E := by omega
    omega
  have hj : jf (ayd E) = 0 ∧ ayd E < 306 ∨ jf (ayd E) = 1 ∧ 306 ≤ ayd E := by
    unfold jf
    split
    · exact .inr ⟨rfl, by assumption⟩
    · exact .inl ⟨rfl, by omega⟩
  have am : ayd E < 306 → amo (ayd E) ≤ 12 := fun h => by unfold amo; omega
  have am2 : 306 ≤ ayd E → 13 ≤ amo (ayd E) := fun h => by unfold amo; omega
  unfold ordE yearE monE dayE
  rcases hj with ⟨hj, hlt⟩ | ⟨hj, hge⟩
  · have := am hlt
    rw [hj, if_neg (by omega)]
    have e1 : (cen E * 100 + cyr E + 0) / 100 = cen E := by omega
    have e2 : (cen E * 100 + cyr E + 0) % 100 = cyr E := by omega
    have e3 : amo (ayd E) - 12 * 0 = amo (ayd E) := by omega
    rw [e1, e2, e3]
    omega
  · have := am2 hge
    rw [hj, if_pos (by omega)]
    have e1 : (cen E * 100 + cyr E + 1 - 1) / 100 = cen E := by omega
    have e2 : (cen E * 100 + cyr E + 1 - 1) % 100 = cyr E := by omega
    have e3 : amo (ayd E) - 12 * 1 + 12 = amo (ayd E) := by omega
    rw [e1, e2, e3]
    omega
theorem mk_date (s h mi se : Int) : mkS (yearS s) (monS s) (dayS s) h mi se = s / 86400 * 86400 + h * 3600 + mi * 60 + se := by
  unfold mkS yearS monS dayS
  rw [ord_rt]
  unfold eS
  omega
theorem ord_day (y m d k : Int) : ordE y m (d + k) = ordE y m d + k := by unfold ordE; split <;> omega
theorem mk_day (s k h mi se : Int) : mkS (yearS s) (monS s) (dayS s + k) h mi se = (s / 86400 + k) * 86400 + h * 3600 + mi * 60 + se := by
  unfold mkS yearS monS dayS
  rw [ord_day, ord_rt]
  unfold eS
  omega
theorem clock_rt (s : Int) : hourS s * 3600 + minS s * 60 + secS s = s % 86400 := by unfold hourS minS secS; omega
theorem mk_rt (s : Int) : mkS (yearS s) (monS s) (dayS s) (hourS s) (minS s) (secS s) = s := by
  have := clock_rt s
  rw [mk_date]; omega
theorem hour_bd (s : Int) : 0 ≤ hourS s ∧ hourS s ≤ 23 := by unfold hourS; omega
theorem min_bd (s : Int) : 0 ≤ minS s ∧ minS s ≤ 59 := by unfold minS; omega
theorem sec_bd (s : Int) : 0 ≤ secS s ∧ secS s ≤ 59 := by unfold secS; omega
theorem mon_bd (s : Int) : 1 ≤ monS s ∧ monS s ≤ 12 := monE_bd _
theorem day_bd (s : Int) : 1 ≤ dayS s ∧ dayS s ≤ 31 := amd_bd _ (ayd_bd _).1 (ayd_bd _).2
theorem wd_bd (s : Int) : 0 ≤ wdS s ∧ wdS s ≤ 6 := by unfold wdS wdE; omega
/-- The years of the moments in range. -/
theorem year_bd (s : Int) (h : InR s) : 1988 ≤ yearS s ∧ yearS s ≤ 2109 := by
  unfold InR at h
  have hE : 726042 ≤ eS s ∧ eS s ≤ 770601 := by unfold eS; omega
  have r := ord_rt (eS s)
  have hy := ayd_bd (eS s)
  have hm := monE_bd (eS s)
  have hd := amd_bd _ hy.1 hy.2
  unfold yearS
  unfold ordE at r
  unfold dayE at r
  generalize amd (ayd (eS s)) = d at *
  generalize monE (eS s) = m at *
  generalize yearE (eS s) = y at *
  generalize eS s = E at *
  split at r
  · have : (y - 1) / 100 ≤ 18 ∨ (y - 1) / 100 = 19 ∨ (y - 1) / 100 = 20 ∨ (y - 1) / 100 = 21 ∨ 22 ≤ (y - 1) / 100 := by omega
    rcases this with h | h | h | h | h <;> (try rw [h] at r) <;> omega
  · have : y / 100 ≤ 18 ∨ y / 100 = 19 ∨ y / 100 = 20 ∨ y / 100 = 21 ∨ 22 ≤ y / 100 := by omega
    rcases this with h | h | h | h | h <;> (try rw [h] at r) <;> omega
def leapY (y : Int) : Bool := y % 4 == 0 && (y % 100 != 0 || y % 400 == 0)
def tabD : List Int := [0, 31, 28, 31, 30, 31, 30, 31, 31, 30, 31, 30, 31]
def dim (y m : Int) : Int := if m = 2 then (if leapY y = true then 29 else 28) else tabD.getD m.toNat 0
def Valid (y m d : Int) : Prop := 1 ≤ m ∧ m ≤ 12 ∧ 1 ≤ d ∧ d ≤ dim y m
theorem leapY_iff (y : Int) : leapY y = true ↔ y % 4 = 0 ∧ (y % 100 ≠ 0 ∨ y % 400 = 0) := by
  unfold leapY; simp
theorem mcases {m : Int} (h0 : 1 ≤ m) (h1 : m ≤ 12) : m = 1 ∨ m = 2 ∨ m = 3 ∨ m = 4 ∨ m = 5 ∨ m = 6 ∨ m = 7 ∨ m = 8 ∨ m = 9 ∨ m = 10 ∨ m = 11 ∨ m = 12 := by omega
theorem dim_bd (y m : Int) (h0 : 1 ≤ m) (h1 : m ≤ 12) : 28 ≤ dim y m ∧ dim y m ≤ 31 := by
  have a31 : 28 ≤ (31 : Int) ∧ (31 : Int) ≤ 31 := by omega
  have a30 : 28 ≤ (30 : Int) ∧ (30 : Int) ≤ 31 := by omega
  rcases mcases h0 h1 with rfl | rfl | rfl | rfl | rfl | rfl | rfl | rfl | rfl | rfl | rfl | rfl
  · exact a31
  · unfold dim; rw [if_pos rfl]; split <;> omega
  · exact a31
  · exact a30
  · exact a31
  · exact a30
  · exact a31
  · exact a31
  · exact a30
  · exact a31
  · exact a30
  · exact a31
/-- Days of a March year. -/
def yday (am d : Int) : Int := (979 * am - 2919) / 32 + d - 1
def lenA (am : Int) : Int := if am = 14 then 29 else if am = 13 then 31 else tabD.getD am.toNat 0
theorem am_rt : ∀ a : Fin 12, ∀ d : Fin 31, (d.val : Int) + 1 ≤ lenA ((a.val : Int) + 3) → amo (yday ((a.val : Int) + 3) ((d.val : Int) + 1)) = (a.val : Int) + 3 ∧ amd (yday ((a.val : Int) + 3) ((d.val : Int) + 1)) = (d.val : Int) + 1 := by decide +kernel
theorem am_rt' (am d : Int) (h0 : 3 ≤ am) (h1 : am ≤ 14) (d0 : 1 ≤ d) (d1 : d ≤ 31) (h : d ≤ lenA am) : amo (yday am d) = am ∧ amd (yday am d) = d := by
  obtain ⟨a, ha⟩ : ∃ a : Nat, am = (a : Int) + 3 := ⟨(am - 3).toNat, by omega⟩
  obtain ⟨e, he⟩ : ∃ e : Nat, d = (e : Int) + 1 := ⟨(d - 1).toNat, by omega⟩
  subst ha he
  exact am_rt ⟨a, by omega⟩ ⟨e, by omega⟩ h
/-- Century, year of it and day of it, out of a day. -/
theorem split_rt (c k n : Int) (h0 : 0 ≤ c) (k0 : 0 ≤ k) (k1 : k ≤ 99) (n0 : 0 ≤ n) (n1 : n ≤ 365) (hl : n = 365 → (k + 1) % 4 = 0 ∧ (k ≠ 99 ∨ (c + 1) % 4 = 0)) :
    cen (146097 * c / 4 + 1461 * k / 4 + n) = c ∧ cyr (146097 * c / 4 + 1461 * k / 4 + n) = k ∧ ayd (146097 * c / 4 + 1461 * k / 4 + n) = n := by
  have e0 : 1461 * k / 4 + n ≤ 36523 + (if (c + 1) % 4 = 0 then 1 else 0) := by
    split
    · by_cases h : n = 365
      · have := hl h; omega
      · omega
    · by_cases h : n = 365
      · have := hl h; omega
      · omega
  have e0' : 0 ≤ 1461 * k / 4 + n := by omega
  have hc : (4 * (146097 * c / 4 + 1461 * k / 4 + n) + 3) / 146097 = c := by
    split at e0 <;> omega
  have hd : cdd (146097 * c / 4 + 1461 * k / 4 + n) = 4 * (1461 * k / 4 + n) + 3 := by
    unfold cdd
    have : (4 * (146097 * c / 4 + 1461 * k / 4 + n) + 3) % 146097 = 4 * (146097 * c / 4 + 1461 * k / 4 + n) + 3 - 146097 * c := by
      have := Int.emod_add_mul_ediv (4 * (146097 * c / 4 + 1461 * k / 4 + n) + 3) 146097
      rw [hc] at this
      omega
    rw [this]
    omega
  have hk : (4 * (1461 * k / 4 + n) + 3) / 1461 = k := by
    by_cases h : n = 365
    · have := hl h; omega
    · omega
  refine ⟨hc, ?_, ?_⟩
  · unfold cyr
    rw [hd]
    exact hk
  · unfold ayd
    rw [hd]
    have := Int.emod_add_mul_ediv (4 * (1461 * k / 4 + n) + 3) 1461
    rw [hk] at this
    omega
theorem date_rt (y m d : Int) (y0 : 1 ≤ y) (y1 : y ≤ 2900) (h : Valid y m d) : yearE (ordE y m d) = y ∧ monE (ordE y m d) = m ∧ dayE (ordE y m d) = d := by
  obtain ⟨m0, m1, d0, d1⟩ := h
  have db := dim_bd y m m0 m1
  by_cases hm : m < 3
  · have e : ordE y m d = 146097 * ((y - 1) / 100) / 4 + 1461 * ((y - 1) % 100) / 4 + yday (m + 12) d := by
      unfold ordE yday; rw [if_pos hm]; omega
    have hl : d ≤ lenA (m + 12) := by
      have : m = 1 ∨ m = 2 := by omega
      rcases this with rfl | rfl
      · exact d1
      · unfold dim at d1; rw [if_pos rfl] at d1
        have : lenA (2 + 12) = 29 := rfl
        rw [this]; split at d1 <;> omega
    have hr := am_rt' (m + 12) d (by omega) (by omega) d0 (by omega) hl
    have hy : 306 ≤ yday (m + 12) d ∧ yday (m + 12) d ≤ 365 := by
      have : m = 1 ∨ m = 2 := by omega
      unfold yday
      rcases this with rfl | rfl
      · omega
      · unfold dim at d1; rw [if_pos rfl] at d1; split at d1 <;> omega
    have hs := split_rt ((y - 1) / 100) ((y - 1) % 100) (yday (m + 12) d) (by omega) (by omega) (by omega) (by omega) (by omega) (fun h365 => by
      have : m = 1 ∨ m = 2 := by omega
      unfold yday at h365
      rcases this with rfl | rfl
      · have : dim y 1 = 31 := rfl
        omega
      · unfold dim at d1; rw [if_pos rfl] at d1
        split at d1
        · rename_i hly
          rw [leapY_iff] at hly
          omega
        · omega)
    rw [← e] at hs
    obtain ⟨a, b, c⟩ := hs
    refine ⟨?_, ?_, ?_⟩
    · unfold yearE jf; rw [a, b, c, if_pos hy.1]; omega
    · unfold monE jf; rw [c, if_pos hy.1, hr.1]; omega
    · unfold dayE; rw [c, hr.2]
  · have e : ordE y m d = 146097 * (y / 100) / 4 + 1461 * (y % 100) / 4 + yday m d := by
      unfold ordE yday; rw [if_neg hm]; omega
    have hl : d ≤ lenA m := by
      unfold dim at d1; rw [if_neg (by omega)] at d1
      unfold lenA; rw [if_neg (by omega), if_neg (by omega)]; exact d1
    have hr := am_rt' m d (by omega) (by omega) d0 (by omega) hl
    have hy : 0 ≤ yday m d ∧ yday m d < 306 := by
      constructor
      · unfold yday; omega
      · rcases Int.lt_or_le (yday m d) 306 with h | h
        · exact h
        · exfalso
          unfold yday at h
          have : m = 12 := by omega
          subst this
          omega
    have hs := split_rt (y / 100) (y % 100) (yday m d) (by omega) (by omega) (by omega) (by omega) (by omega) (fun h365 => by omega)
    rw [← e] at hs
    obtain ⟨a, b, c⟩ := hs
    refine ⟨?_, ?_, ?_⟩
    · unfold yearE jf; rw [a, b, c, if_neg (by omega)]; omega
    · unfold monE jf; rw [c, if_neg (by omega), hr.1]; omega
    · unfold dayE; rw [c, hr.2]
def monStart (s : Int) : Int := mkS (yearS s) (monS s) 1 0 0 0
def monNext (s : Int) : Int := if monS s = 12 then mkS (yearS s + 1) 1 1 0 0 0 else mkS (yearS s) (monS s + 1) 1 0 0 0
theorem eS_mk (y m d h mi se : Int) (h0 : 0 ≤ h) (h1 : h ≤ 23) (m0 : 0 ≤ mi) (m1 : mi ≤ 59) (s0 : 0 ≤ se) (s1 : se ≤ 59) : eS (mkS y m d h mi se) = ordE y m d := by
  unfold eS mkS; omega
theorem mk_fields (y m d h mi se : Int) (y0 : 1 ≤ y) (y1 : y ≤ 2900) (hv : Valid y m d) (h0 : 0 ≤ h) (h1 : h ≤ 23) (m0 : 0 ≤ mi) (m1 : mi ≤ 59) (s0 : 0 ≤ se) (s1 : se ≤ 59) :
    yearS (mkS y m d h mi se) = y ∧ monS (mkS y m d h mi se) = m ∧ dayS (mkS y m d h mi se) = d ∧ hourS (mkS y m d h mi se) = h ∧ minS (mkS y m d h mi se) = mi ∧ secS (mkS y m d h mi se) = se := by
  have e := eS_mk y m d h mi se h0 h1 m0 m1 s0 s1
  have r := date_rt y m d y0 y1 hv
  refine ⟨?_, ?_, ?_, ?_, ?_, ?_⟩
  · unfold yearS; rw [e]; exact r.1
  · unfold monS; rw [e]; exact r.2.1
  · unfold dayS; rw [e]; exact r.2.2
  · unfold hourS mkS; omega
  · unfold minS mkS; omega
  · unfold secS mkS; omega
theorem valid_first (y m : Int) (h0 : 1 ≤ m) (h1 : m ≤ 12) : Valid y m 1 := ⟨h0, h1, by omega, by have := dim_bd y m h0 h1; omega⟩
theorem ms_fields (s : Int) (h : InR s) : yearS (monStart s) = yearS s ∧ monS (monStart s) = monS s ∧ dayS (monStart s) = 1 ∧ hourS (monStart s) = 0 ∧ minS (monStart s) = 0 ∧ secS (monStart s) = 0 := by
  have hy := year_bd s h
  have hm := mon_bd s
  exact mk_fields _ _ _ _ _ _ (by omega) (by omega) (valid_first _ _ hm.1 hm.2) (by omega) (by omega) (by omega) (by omega) (by omega) (by omega)
theorem ms_le (s : Int) : monStart s ≤ s ∧ s < monStart s + 31 * 86400 := by
  have h1 := mk_day s (1 - dayS s) 0 0 0
  have hd := day_bd s
  have e : dayS s + (1 - dayS s) = 1 := by omega
  rw [e] at h1
  unfold monStart
  rw [h1]
  omega
end Go.Proofs.YtjpcdkhapeejjaaGreatDoor.Cal
