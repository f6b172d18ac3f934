/- Steps of the proof of the law: contracts of functions of the given program, and plain lemmas about what they compute.
Conditions: none beyond those that each theorem names. -/
import Derived.Test.YtjpcdkhapeejjaaGreatDoorK48
set_option linter.unusedVariables false
set_option linter.unusedSimpArgs false
open Go.RowKit Go.Proofs.YtjpcdkhapeejjaaGreatDoorW.PrintWords Go.Proofs.YtjpcdkhapeejjaaGreatDoorW.PrintLast Go.Proofs.YtjpcdkhapeejjaaGreatDoorW.PrintMore
namespace Go.Proofs.YtjpcdkhapeejjaaGreatDoor.A
def laws_zzFits2.l0 : Nat → List (List (S53)) → Int → Int → Option (Bool)
  | 0, _, _, _ => none
  | k + 1, x8, x9, x10 => if x10 < x9 then (if 0 ≤ x10 then (if x10 < (x8.length : Int) then (if ((rd_L3 x8 x10).length : Int) > 2147483647 then (some false) else (laws_zzFits2.l0 k x8 x9 (wrap64 (x10 + 1)))) else (none)) else (none)) else (some true)
def laws_zzFits2.f (k : Nat) (l0 : List (List (S53))) : Option (Bool) := if (l0.length : Int) > 2147483647 then (some false) else (laws_zzFits2.l0 k l0 (l0.length : Int) 0)
set_option maxHeartbeats 8000000 in
set_option maxRecDepth 100000 in
theorem laws_zzFits2.calls (k : Nat) (A0 : Option Addr) (c0 : Nat) (l0 : List (List (S53))) (r : Bool) (w : World) (hr0 : Kd.C (Kd.slice 53 k53) w A0 l0.length l0) (hc0 : l0.length ≤ c0) (h : laws_zzFits2.f k l0 = some r) :
    Calls Tryz.prog 24 #[.slice A0 l0.length c0] w fun e w' => e = .returned (.bool r) ∧ Drawn0 w w' := by
 have HR0 := Aside0.mk hr0
 have HC0 := Aside0.mk hc0
 clear hr0 hc0
 have H : (if (l0.length : Int) > 2147483647 then (some false) else (laws_zzFits2.l0 k l0 (l0.length : Int) 0)) = some r := h
 clear h
 refine (Classical.em ((l0.length : Int) > 2147483647)).elim (fun c2 => ?a1_) (fun c2 => ?b1_)
 case a1_ =>
  rw [if_pos c2] at H
  have c2b0 : decide (2147483647 < (l0.length : Int)) = true := decide_eq_true c2
  have c2b1 : decide (2147483647 < l0.length) = true := decide_eq_true (by omega)
  clear c2
  obtain rfl := Option.some.inj H
  go_enter Tryz.func24, Tryz.ntmps24
  go_wp2
  go_ret
  exact ⟨by first | rfl | (simp; done) | (simp [*]; done), by repeat (first | exact Drawn0.refl _ | apply Drawn0.step)⟩
 case b1_ =>
  rw [if_neg c2] at H
  have c2b0 : decide (2147483647 < (l0.length : Int)) = false := decide_eq_false c2
  have c2b1 : decide (2147483647 < l0.length) = false := decide_eq_false (by omega)
  clear c2
  have H' := Aside0.mk H
  clear H
  go_enter Tryz.func24, Tryz.ntmps24
  go_wp2
  go_loopg [10] k (fun kq v10 w' => ∃ (x10_1 : Int), v10 = .int .i64 x10_1 ∧ Aside0 (laws_zzFits2.l0 kq l0 (l0.length : Int) x10_1 = some r) ∧ Aside0 (kq ≤ k) ∧ Drawn0 w w')
  case atStart => exact ⟨(0), (by first | rfl | (simp; done) | (simp [*]; done)), H', ⟨Nat.le_refl _⟩, by repeat (first | exact Drawn0.refl _ | apply Drawn0.step)⟩
  case round =>
   clear H'
   try clear c2
   try clear c2b0
   try clear c2b1
   obtain ⟨x10_1, rfl, HA, HK1, ⟨m1, rfl⟩⟩ := hrel
   cases gk with
   | zero => exact absurd HA.out (by simp [laws_zzFits2.l0])
   | succ k1 =>
    have H := HA.out
    clear HA
    simp only [laws_zzFits2.l0] at H
    refine (Classical.em (x10_1 < (l0.length : Int))).elim (fun c3 => ?a2_) (fun c3 => ?b2_)
    case' a2_ =>
     rw [if_pos c3] at H
     have c3b0 : decide (x10_1 < (l0.length : Int)) = true := decide_eq_true c3
     clear c3
     refine (Classical.em (0 ≤ x10_1)).elim (fun c4 => ?a3_) (fun c4 => ?b3_)
    case' a3_ =>
     rw [if_pos c4] at H
     have c4b0 : decide (0 ≤ x10_1) = true := decide_eq_true c4
     clear c4
     refine (Classical.em (x10_1 < (l0.length : Int))).elim (fun c5 => ?a4_) (fun c5 => ?b4_)
    case' a4_ =>
     rw [if_pos c5] at H
     have c5b0 : decide (x10_1 < (l0.length : Int)) = true := decide_eq_true c5
     clear c5
     refine (Classical.em (((rd_L3 l0 x10_1).length : Int) > 2147483647)).elim (fun c6 => ?a5_) (fun c6 => ?b5_)
    case a5_ =>
     rw [if_pos c6] at H
     have c6b0 : decide (2147483647 < ((rd_L3 l0 x10_1).length : Int)) = true := decide_eq_true c6
     have c6b1 : decide (2147483647 < (rd_L3 l0 x10_1).length) = true := decide_eq_true (by omega)
     clear c6
     obtain rfl := Option.some.inj H
     have p101 : 0 ≤ (x10_1 : Int) := of_decide_eq_true (by first | (with_reducible assumption) | assumption)
     have q101 : x10_1 < (l0.length : Int) := of_decide_eq_true (by first | (with_reducible assumption) | assumption)
     obtain ⟨ad101, A101_0, c101_0, e101, hx101_0, hl101_0, hi101_0⟩ := at_L3 HR0.out x10_1 p101 q101
     cases e101
     have HR101_0 := Aside0.mk hi101_0
     have HC101_0 := Aside0.mk hl101_0
     clear hi101_0 hl101_0
     replace p101 := eq_true p101
     replace q101 := eq_true q101
     go_wp2
     go_ret
     exact ⟨by first | rfl | (simp; done) | (simp [*]; done), by repeat (first | exact Drawn0.refl _ | apply Drawn0.step)⟩
    case b5_ =>
     rw [if_neg c6] at H
     have c6b0 : decide (2147483647 < ((rd_L3 l0 x10_1).length : Int)) = false := decide_eq_false c6
     have c6b1 : decide (2147483647 < (rd_L3 l0 x10_1).length) = false := decide_eq_false (by omega)
     clear c6
     have H' := Aside0.mk H
     clear H
     have p101 : 0 ≤ (x10_1 : Int) := of_decide_eq_true (by first | (with_reducible assumption) | assumption)
     have q101 : x10_1 < (l0.length : Int) := of_decide_eq_true (by first | (with_reducible assumption) | assumption)
     obtain ⟨ad101, A101_0, c101_0, e101, hx101_0, hl101_0, hi101_0⟩ := at_L3 HR0.out x10_1 p101 q101
     cases e101
     have HR101_0 := Aside0.mk hi101_0
     have HC101_0 := Aside0.mk hl101_0
     clear hi101_0 hl101_0
     replace p101 := eq_true p101
     replace q101 := eq_true q101
     go_wp2
     go_roundg k1
     case measure => have := HK1.out; omega
     case rel => exact ⟨(wrap64 (x10_1 + 1)), (by first | rfl | (simp; done) | (simp [*]; done)), H', ⟨by have := HK1.out; omega⟩, by repeat (first | exact Drawn0.refl _ | apply Drawn0.step)⟩
    case b4_ =>
     rw [if_neg c5] at H
     exact absurd H (by simp)
    case b3_ =>
     rw [if_neg c4] at H
     exact absurd H (by simp)
    case b2_ =>
     rw [if_neg c3] at H
     have c3b0 : decide (x10_1 < (l0.length : Int)) = false := decide_eq_false c3
     clear c3
     obtain rfl := Option.some.inj H
     go_wp2
     go_ret
     exact ⟨by first | rfl | (simp; done) | (simp [*]; done), by repeat (first | exact Drawn0.refl _ | apply Drawn0.step)⟩
def laws_zzFits1.f (k : Nat) (l0_0 : List (List (S53))) (a0_1 : Bool) : Option (Bool) := (laws_zzFits2.f k l0_0).bind fun t103 => (if t103 = true then (some true) else (some false))
set_option maxHeartbeats 8000000 in
set_option maxRecDepth 100000 in
theorem laws_zzFits1.calls (k : Nat) (A0_0 : Option Addr) (c0_0 : Nat) (l0_0 : List (List (S53))) (a0_1 : Bool) (r : Bool) (w : World) (hr0_0 : Kd.C (Kd.slice 53 k53) w A0_0 l0_0.length l0_0) (hc0_0 : l0_0.length ≤ c0_0) (h : laws_zzFits1.f k l0_0 a0_1 = some r) :
    Calls Tryz.prog 10 #[.agg #[.slice A0_0 l0_0.length c0_0, .bool a0_1]] w fun e w' => e = .returned (.bool r) ∧ Below w.heap.size w w' := by
 have hu24 := Tryz.underlying24
 have HR0_0 := Aside0.mk hr0_0
 have HC0_0 := Aside0.mk hc0_0
 clear hr0_0 hc0_0
 have HB := Aside0.mk (Below.refl w.heap.size w)
 have H : ((laws_zzFits2.f k l0_0).bind fun t103 => (if t103 = true then (some true) else (some false))) = some r := h
 clear h
 replace H := Option.bind_eq_some_iff.mp H
 obtain ⟨t103, A20, H⟩ := H
 try dsimp only at H
 have A2 := Aside0.mk A20
 clear A20
 refine (Classical.em (t103 = true)).elim (fun c3 => ?a1_) (fun c3 => ?b1_)
 case' a1_ =>
  subst c3
  rw [if_pos rfl] at H
  obtain rfl := Option.some.inj H
 case' b1_ =>
  replace c3 := Bool.eq_false_iff.mpr c3
  subst c3
  rw [if_neg (show ¬ (false = true) by decide)] at H
  obtain rfl := Option.some.inj H
 case a1_ | b1_ =>
  go_enter Tryz.func10, Tryz.ntmps10
  go_wp2_with (first | ((with_reducible refine gate_dst (N := 1) rfl ?_); refine box_event ?hg (N := 1) ?hd (cs := #[.slice A0_0 l0_0.length c0_0, .bool a0_1]) (t := 24) ?hr ?_; (case hd => rfl); (case hg => rfl); (case hr => first | (go_simp; done) | (go_simp; rfl)); intro gb102 hg w4 hbox hb; have n0_ := Aside0.mk (below_step (by repeat (with_reducible first | exact HB.out | apply below_alloc | apply pw_below_drewN | apply below_drew1)) hb); have n1_ := Aside0.mk (hbox); have n2_ := Aside0.mk ((by rw [hg]; exact (below_size (by repeat (with_reducible first | exact HB.out | apply below_alloc | apply pw_below_drewN | apply below_drew1))) : w.heap.size ≤ gb102)); have n3_ := Aside0.mk ((by rw [hg]; exact (below_size (by repeat (with_reducible first | exact HB.out | apply below_alloc | apply pw_below_drewN | apply below_drew1))) : w.heap.size ≤ gb102)); clear HB; have HB := n0_; have BK102 := n1_; have GW102 := n2_; have GE102 := n3_; clear n0_ n1_ n2_ n3_; clear hb hbox hg; have hcz5_0 : w4.cell? ⟨gb102, 0, none⟩ = some (.slice A0_0 l0_0.length c0_0) := (blk_cell BK102.out 0).trans rfl; have hcz5_1 : w4.cell? ⟨gb102, 1, none⟩ = some (.bool a0_1) := (blk_cell BK102.out 1).trans rfl; have hfz5_0 := blk_frozen BK102.out 0; have hfz5_1 := blk_frozen BK102.out 1) | ((with_reducible refine gate_callee (f := 24) rfl ?_); refine goesL_ (some 5) rfl rfl Tryz.func24 (by kernel_rfl) rfl #[.slice A0_0 l0_0.length c0_0] rfl (by (try simp only [List.map_toArray, List.map_cons, List.map_nil]); first | done | rfl | (simp only [List.length_drop, List.length_take]; rfl)) ?_; (with_reducible refine (laws_zzFits2.calls k _ _ l0_0 false _ ?side1 ?side2 A2.out).mono ?_); (case side1 => repeat (first | exact (Kd.C_below HR0_0.out HB.out) | (with_reducible refine Kd.C_alloc ?_ _) | (with_reducible refine Kd.C_drewN ?_ _) | (with_reducible refine Kd.C_drew ?_))); (case side2 => exact HC0_0.out); rintro e w' ⟨rfl, ⟨nd, rfl⟩⟩; refine ⟨_, rfl, ?_⟩) | ((with_reducible refine gate_callee (f := 24) rfl ?_); refine goesL_ (some 5) rfl rfl Tryz.func24 (by kernel_rfl) rfl #[.slice A0_0 l0_0.length c0_0] rfl (by (try simp only [List.map_toArray, List.map_cons, List.map_nil]); first | done | rfl | (simp only [List.length_drop, List.length_take]; rfl)) ?_; (with_reducible refine (laws_zzFits2.calls k _ _ l0_0 true _ ?side1 ?side2 A2.out).mono ?_); (case side1 => repeat (first | exact (Kd.C_below HR0_0.out HB.out) | (with_reducible refine Kd.C_alloc ?_ _) | (with_reducible refine Kd.C_drewN ?_ _) | (with_reducible refine Kd.C_drew ?_))); (case side2 => exact HC0_0.out); rintro e w' ⟨rfl, ⟨nd, rfl⟩⟩; refine ⟨_, rfl, ?_⟩))
  go_ret
  exact ⟨by first | rfl | (simp [errW_none, errW_some] <;> rfl) | (simp [*, errW_none, errW_some] <;> rfl), by repeat (with_reducible first | exact HB.out | apply below_alloc | apply pw_below_drewN | apply below_drew1 | refine below_set ?_ GE102.out)⟩
end Go.Proofs.YtjpcdkhapeejjaaGreatDoor.A
namespace Go.Proofs.YtjpcdkhapeejjaaGreatDoor.A
open Cal
/-- With rounds enough, an answer. -/
def EvK {α : Type} (g : Nat → Option α) (r : α) : Prop := ∃ K, ∀ k, K ≤ k → g k = some r
theorem EvK.bind {α β : Type} {g : Nat → Option α} {h : Nat → α → Option β} {a : α} {r : β} (x : EvK g a) (y : EvK (fun k => h k a) r) : EvK (fun k => (g k).bind (h k)) r := by
  obtain ⟨K1, h1⟩ := x
  obtain ⟨K2, h2⟩ := y
  exact ⟨max K1 K2, fun k hk => by show (g k).bind (h k) = some r; rw [h1 k (by omega), Option.bind_some]; exact h2 k (by omega)⟩
theorem EvK.succ {α : Type} {g : Nat → Option α} {g2 : Nat → Option α} {r : α} (h : ∀ k, g2 (k + 1) = g k) (x : EvK g r) : EvK g2 r := by
  obtain ⟨K, hK⟩ := x
  exact ⟨K + 1, fun k hk => by
    obtain ⟨k', rfl⟩ : ∃ k', k = k' + 1 := ⟨k - 1, by omega⟩
    rw [h]; exact hK k' (by omega)⟩
theorem EvK.congr {α : Type} {g : Nat → Option α} {g2 : Nat → Option α} {r : α} (h : ∀ k, g2 k = g k) (x : EvK g r) : EvK g2 r := by
  obtain ⟨K, hK⟩ := x
  exact ⟨K, fun k hk => by rw [h]; exact hK k hk⟩
def small (l : List (List S53)) : Prop := l.length ≤ 2147483647 ∧ ∀ x ∈ l, x.length ≤ 2147483647
theorem rdL3 (l : List (List S53)) (i : Nat) (h : i < l.length) : rd_L3 l (i : Int) = l[i] := by
  unfold rd_L3; simp [List.getD_eq_getElem?_getD, List.getElem?_eq_getElem h]
theorem rdT53 (l : List S53) (i : Nat) (h : i < l.length) : rd_T53 l (i : Int) = l[i] := by
  unfold rd_T53; simp [List.getD_eq_getElem?_getD, List.getElem?_eq_getElem h]
theorem fits_l (l : List (List S53)) (hl : l.length ≤ 2147483647) : ∀ (n i : Nat), i + n = l.length → ∃ b, (∀ k, n < k → laws_zzFits2.l0 k l (l.length : Int) (i : Int) = some b) ∧ (b = true → ∀ x ∈ l.drop i, x.length ≤ 2147483647)
  | 0, i, hi => ⟨true, fun k hk => by
      obtain ⟨k', rfl⟩ : ∃ k', k = k' + 1 := ⟨k - 1, by omega⟩
      rw [laws_zzFits2.l0, if_neg (by omega)], fun _ x hx => by rw [List.drop_eq_nil_of_le (by omega)] at hx; cases hx⟩
  | n + 1, i, hi => by
    have hlt : i < l.length := by omega
    have hd : l.drop i = l[i] :: l.drop (i + 1) := List.drop_eq_getElem_cons hlt
    by_cases c : (l[i].length : Int) > 2147483647
    · refine ⟨false, fun k hk => ?_, fun q => by cases q⟩
      obtain ⟨k', rfl⟩ : ∃ k', k = k' + 1 := ⟨k - 1, by omega⟩
      rw [laws_zzFits2.l0, if_pos (by omega), if_pos (by omega), if_pos (by omega), rdL3 l i hlt, if_pos c]
    · obtain ⟨b, h1, h2⟩ := fits_l l hl n (i + 1) (by omega)
      refine ⟨b, fun k hk => ?_, fun q x hx => ?_⟩
      · obtain ⟨k', rfl⟩ : ∃ k', k = k' + 1 := ⟨k - 1, by omega⟩
        rw [laws_zzFits2.l0, if_pos (by omega), if_pos (by omega), if_pos (by omega), rdL3 l i hlt, if_neg c, w64' _ (by omega) (by omega)]
        have := h1 k' (by omega)
        rw [show ((i + 1 : Nat) : Int) = (i : Int) + 1 by omega] at this
        exact this
      · rw [hd] at hx
        rcases List.mem_cons.1 hx with rfl | hx
        · omega
        · exact h2 q x hx
theorem fits_f (l : List (List S53)) (a : Bool) : ∃ b, EvK (fun k => laws_zzFits1.f k l a) b ∧ (b = true → small l) := by
  by_cases c : (l.length : Int) > 2147483647
  · exact ⟨false, ⟨0, fun k _ => by show (laws_zzFits2.f k l).bind _ = _; unfold laws_zzFits2.f; rw [if_pos c]; rfl⟩, fun q => by cases q⟩
  · obtain ⟨b, h1, h2⟩ := fits_l l (by omega) l.length 0 (by omega)
    refine ⟨b, ⟨l.length + 1, fun k hk => ?_⟩, fun q => ⟨by omega, fun x hx => h2 q x (by rw [List.drop_zero]; exact hx)⟩⟩
    have := h1 k (by omega)
    rw [show ((0 : Nat) : Int) = 0 from rfl] at this
    show (laws_zzFits2.f k l).bind _ = _
    unfold laws_zzFits2.f
    rw [if_neg c, this, Option.bind_some]
    cases b <;> rfl
def cv (x : S53) : S54 := ⟨x.f0, x.f1, x.f2, x.f3⟩
def cvE (l : List (List S53)) : List (List S54) := l.map fun x => x.map cv
theorem expr_l1 (L : List (List S53)) (len x15 : Int) (x : List S53) (hx : x.length ≤ 2147483647) (out : List (List S54)) (ho : out.length ≤ 2147483647) (a : Bool) : ∀ (n i k : Nat) (acc : List S54), i + n = x.length → acc.length = i →
    laws_expr.l1 (k + n + 1) acc L len x15 x (x.length : Int) (i : Int) out a = laws_expr.l0 k L len (wrap64 (x15 + 1)) (out ++ [acc ++ (x.drop i).map cv]) a
  | 0, i, k, acc, hi, ha => by
    rw [laws_expr.l1, if_neg (by omega), if_pos (by omega), List.drop_eq_nil_of_le (by omega), List.map_nil, List.append_nil]
  | n + 1, i, k, acc, hi, ha => by
    have hlt : i < x.length := by omega
    have hd : x.drop i = x[i] :: x.drop (i + 1) := List.drop_eq_getElem_cons hlt
    rw [laws_expr.l1, if_pos (by omega), if_pos (by omega), if_pos (by omega), if_pos (by omega), w64' _ (by omega) (by omega), rdT53 x i hlt]
    have := expr_l1 L len x15 x hx out ho a n (i + 1) k (acc ++ [cv x[i]]) (by omega) (by rw [List.length_append, List.length_singleton]; omega)
    rw [show ((i + 1 : Nat) : Int) = (i : Int) + 1 by omega] at this
    rw [show k + (n + 1) = k + n + 1 from rfl]
    refine this.trans ?_
    rw [hd, List.map_cons, List.append_assoc, List.singleton_append]
theorem expr_l0 (L : List (List S53)) (hs : small L) (a : Bool) : ∀ (n i : Nat) (out : List (List S54)), i + n = L.length → out.length = i → ∃ K, ∀ k, K ≤ k → laws_expr.l0 k L (L.length : Int) (i : Int) out a = some (out ++ cvE (L.drop i), a)
  | 0, i, out, hi, ho => ⟨1, fun k hk => by
      obtain ⟨k', rfl⟩ : ∃ k', k = k' + 1 := ⟨k - 1, by omega⟩
      rw [laws_expr.l0, if_neg (by omega), List.drop_eq_nil_of_le (by omega)]
      unfold cvE
      rw [List.map_nil, List.append_nil]⟩
  | n + 1, i, out, hi, ho => by
    have hlt : i < L.length := by omega
    have hd : L.drop i = L[i] :: L.drop (i + 1) := List.drop_eq_getElem_cons hlt
    have hsx := hs.2 L[i] (List.getElem_mem hlt)
    have hsl := hs.1
    obtain ⟨K, hK⟩ := expr_l0 L hs a n (i + 1) (out ++ [L[i].map cv]) (by omega) (by rw [List.length_append, List.length_singleton]; omega)
    refine ⟨K + L[i].length + 3, fun k hk => ?_⟩
    obtain ⟨k', rfl⟩ : ∃ k', k = (k' + L[i].length + 1) + 1 := ⟨k - L[i].length - 2, by omega⟩
    rw [laws_expr.l0, if_pos (by omega), if_pos (by omega), if_pos (by omega), rdL3 L i hlt]
    have h1 := expr_l1 L (L.length : Int) (i : Int) L[i] hsx out (by omega) a L[i].length 0 k' [] (by omega) rfl
    rw [show ((0 : Nat) : Int) = 0 from rfl, List.drop_zero, List.nil_append, w64' _ (by omega) (by omega)] at h1
    rw [h1]
    have h2 := hK k' (by omega)
    rw [show ((i + 1 : Nat) : Int) = (i : Int) + 1 by omega] at h2
    rw [h2, hd]
    unfold cvE
    rw [List.map_cons, List.append_assoc, List.singleton_append]
theorem expr_f (L : List (List S53)) (hs : small L) (a : Bool) : EvK (fun k => laws_expr.f k L a) (cvE L, a) := by
  obtain ⟨K, hK⟩ := expr_l0 L hs a L.length 0 [] (by omega) rfl
  refine ⟨K, fun k hk => ?_⟩
  have := hK k hk
  rw [show ((0 : Nat) : Int) = 0 from rfl, List.drop_zero, List.nil_append] at this
  exact this
theorem good_l (j : Int) (h0 : 0 ≤ j) (h1 : j ≤ 5) (l : List S54) (hl : l.length ≤ 2147483647) : ∀ (n i : Nat), i + n = l.length → ∃ b, (∀ k, 2 * n + 1 < k → spec_Good.l0 k j l l (l.length : Int) (i : Int) = some b) ∧ (b = true → (∀ x ∈ l.drop i, GoodI j x) ∧ 1 ≤ l.length ∧ l.length ≤ 6)
  | 0, i, hi => by
    by_cases c : (l.length : Int) ≥ 1
    · refine ⟨decide ((l.length : Int) ≤ 6), fun k hk => ?_, fun q => ⟨fun x hx => (by rw [List.drop_eq_nil_of_le (by omega)] at hx; cases hx), by omega, by have := of_decide_eq_true q; omega⟩⟩
      obtain ⟨k', rfl⟩ : ∃ k', k = k' + 1 := ⟨k - 1, by omega⟩
      rw [spec_Good.l0, if_neg (by omega), if_pos c]
    · refine ⟨false, fun k hk => ?_, fun q => by cases q⟩
      obtain ⟨k', rfl⟩ : ∃ k', k = k' + 1 := ⟨k - 1, by omega⟩
      rw [spec_Good.l0, if_neg (by omega), if_neg c]
  | n + 1, i, hi => by
    have hlt : i < l.length := by omega
    obtain ⟨b, g1, g2⟩ := good_l j h0 h1 l hl n (i + 1) (by omega)
    rw [show ((i + 1 : Nat) : Int) = (i : Int) + 1 by omega] at g1
    have hd := dropT l i hlt
    obtain ⟨x, hx⟩ : ∃ x, rd_T54 l (i : Int) = x := ⟨_, rfl⟩
    rw [hx] at hd
    have open_ : ∀ k, spec_Good.l0 (k + 1) j l l (l.length : Int) (i : Int) = if x.f3 < 1 then spec_Good.j1 k j l l (l.length : Int) (i : Int) true x.f0 x.f1 x.f2 x.f3 else spec_Good.j1 k j l l (l.length : Int) (i : Int) (decide (x.f3 > 60)) x.f0 x.f1 x.f2 x.f3 := fun k => by
      rw [spec_Good.l0, if_pos (by omega), if_pos (by omega), if_pos (by omega), hx]
    by_cases c1 : x.f3 < 1
    · refine ⟨false, fun k hk => ?_, fun q => by cases q⟩
      obtain ⟨k', rfl⟩ : ∃ k', k = k' + 1 + 1 := ⟨k - 2, by omega⟩
      rw [open_, if_pos c1, spec_Good.j1, if_pos rfl]
    by_cases c2 : x.f3 > 60
    · refine ⟨false, fun k hk => ?_, fun q => by cases q⟩
      obtain ⟨k', rfl⟩ : ∃ k', k = k' + 1 + 1 := ⟨k - 2, by omega⟩
      rw [open_, if_neg c1, decide_eq_true c2, spec_Good.j1, if_pos rfl]
    by_cases c3 : x.f0 = true
    · refine ⟨b, fun k hk => ?_, fun q => ?_⟩
      · obtain ⟨k', rfl⟩ : ∃ k', k = k' + 1 + 1 := ⟨k - 2, by omega⟩
        rw [open_, if_neg c1, decide_eq_false c2, spec_Good.j1, if_neg (by decide), if_pos c3, w64' _ (by omega) (by omega)]
        exact g1 k' (by omega)
      · obtain ⟨q1, q2⟩ := g2 q
        refine ⟨fun y hy => ?_, q2⟩
        rw [hd] at hy
        rcases List.mem_cons.1 hy with rfl | hy
        · exact ⟨by omega, by omega, fun e => by rw [c3] at e; cases e⟩
        · exact q1 y hy
    by_cases c4 : x.f1 < low j
    · refine ⟨false, fun k hk => ?_, fun q => by cases q⟩
      obtain ⟨k', rfl⟩ : ∃ k', k = k' + 1 + 1 := ⟨k - 2, by omega⟩
      rw [open_, if_neg c1, decide_eq_false c2, spec_Good.j1, if_neg (by decide), if_neg c3, low_f, Option.bind_some, if_pos c4]
    by_cases c5 : x.f2 > high j
    · refine ⟨false, fun k hk => ?_, fun q => by cases q⟩
      obtain ⟨k', rfl⟩ : ∃ k', k = k' + 1 + 1 := ⟨k - 2, by omega⟩
      rw [open_, if_neg c1, decide_eq_false c2, spec_Good.j1, if_neg (by decide), if_neg c3, low_f, Option.bind_some, if_neg c4, high_f j h0 h1, Option.bind_some, if_pos c5]
    by_cases c6 : x.f1 > x.f2
    · refine ⟨false, fun k hk => ?_, fun q => by cases q⟩
      obtain ⟨k', rfl⟩ : ∃ k', k = k' + 1 + 1 := ⟨k - 2, by omega⟩
      rw [open_, if_neg c1, decide_eq_false c2, spec_Good.j1, if_neg (by decide), if_neg c3, low_f, Option.bind_some, if_neg c4, high_f j h0 h1, Option.bind_some, if_neg c5, if_pos c6]
    · refine ⟨b, fun k hk => ?_, fun q => ?_⟩
      · obtain ⟨k', rfl⟩ : ∃ k', k = k' + 1 + 1 := ⟨k - 2, by omega⟩
        rw [open_, if_neg c1, decide_eq_false c2, spec_Good.j1, if_neg (by decide), if_neg c3, low_f, Option.bind_some, if_neg c4, high_f j h0 h1, Option.bind_some, if_neg c5, if_neg c6, w64' _ (by omega) (by omega)]
        exact g1 k' (by omega)
      · obtain ⟨q1, q2⟩ := g2 q
        refine ⟨fun y hy => ?_, q2⟩
        rw [hd] at hy
        rcases List.mem_cons.1 hy with rfl | hy
        · exact ⟨by omega, by omega, fun e => ⟨by omega, by omega, by omega⟩⟩
        · exact q1 y hy
theorem good_f (j : Int) (h0 : 0 ≤ j) (h1 : j ≤ 5) (l : List S54) (hl : l.length ≤ 2147483647) : ∃ b, EvK (fun k => spec_Good.f k j l) b ∧ (b = true → GoodF j l) := by
  obtain ⟨b, g1, g2⟩ := good_l j h0 h1 l hl l.length 0 (by omega)
  refine ⟨b, ⟨2 * l.length + 2, fun k hk => ?_⟩, fun q => ?_⟩
  · exact g1 k (by omega)
  · obtain ⟨q1, q2, q3⟩ := g2 q
    rw [List.drop_zero] at q1
    exact ⟨fun e => by rw [e] at q2; exact absurd q2 (by decide), q3, q1⟩
theorem star_f (l : List S54) : ∃ b, spec_Star.f l = some b ∧ (b = true ↔ StarF l) := by
  unfold spec_Star.f
  by_cases c : (l.length : Int) = 1
  · obtain ⟨x, rfl⟩ : ∃ x, l = [x] := List.length_eq_one_iff.1 (by omega)
    have e : rd_T54 [x] 0 = x := rfl
    rw [if_pos c, if_pos (by rw [c]; decide), e]
    by_cases d : x.f0 = true
    · rw [if_pos d]
      refine ⟨_, rfl, ?_⟩
      constructor
      · intro q; exact ⟨x, rfl, d, beq_iff_eq.mp q⟩
      · intro ⟨y, hy, _, h3⟩
        obtain rfl : x = y := (List.cons.inj hy).1
        exact beq_iff_eq.mpr h3
    · rw [if_neg d]
      exact ⟨false, rfl, fun q => (by cases q), fun ⟨y, hy, h2, _⟩ => (by
        obtain rfl : x = y := (List.cons.inj hy).1
        exact absurd h2 d)⟩
  · rw [if_neg c]
    exact ⟨false, rfl, fun q => (by cases q), fun ⟨y, hy, _⟩ => (by rw [hy] at c; exact absurd rfl c)⟩
theorem d28_l (l : List S54) (hl : l.length ≤ 100) : ∀ (n i : Nat), i + n = l.length → ∃ b, (∀ k, n < k → spec_ExprGood.l1 k l (l.length : Int) (i : Int) = some b) ∧ (b = true → ∀ x ∈ l.drop i, x.f0 = false → x.f1 ≤ 28)
  | 0, i, hi => ⟨true, fun k hk => by
      obtain ⟨k', rfl⟩ : ∃ k', k = k' + 1 := ⟨k - 1, by omega⟩
      rw [spec_ExprGood.l1, if_neg (by omega)], fun _ x hx => by rw [List.drop_eq_nil_of_le (by omega)] at hx; cases hx⟩
  | n + 1, i, hi => by
    have hlt : i < l.length := by omega
    obtain ⟨b, g1, g2⟩ := d28_l l hl n (i + 1) (by omega)
    rw [show ((i + 1 : Nat) : Int) = (i : Int) + 1 by omega] at g1
    have hd := dropT l i hlt
    obtain ⟨x, hx⟩ : ∃ x, rd_T54 l (i : Int) = x := ⟨_, rfl⟩
    rw [hx] at hd
    by_cases c1 : x.f0 = true
    · refine ⟨b, fun k hk => ?_, fun q y hy hf => ?_⟩
      · obtain ⟨k', rfl⟩ : ∃ k', k = k' + 1 := ⟨k - 1, by omega⟩
        rw [spec_ExprGood.l1, if_pos (by omega), if_pos (by omega), if_pos (by omega), hx, if_pos c1, w64' _ (by omega) (by omega)]
        exact g1 k' (by omega)
      · rw [hd] at hy
        rcases List.mem_cons.1 hy with rfl | hy
        · rw [c1] at hf; cases hf
        · exact g2 q y hy hf
    · by_cases c2 : x.f1 > 28
      · refine ⟨false, fun k hk => ?_, fun q => by cases q⟩
        obtain ⟨k', rfl⟩ : ∃ k', k = k' + 1 := ⟨k - 1, by omega⟩
        rw [spec_ExprGood.l1, if_pos (by omega), if_pos (by omega), if_pos (by omega), hx, if_neg c1, if_pos c2]
      · refine ⟨b, fun k hk => ?_, fun q y hy hf => ?_⟩
        · obtain ⟨k', rfl⟩ : ∃ k', k = k' + 1 := ⟨k - 1, by omega⟩
          rw [spec_ExprGood.l1, if_pos (by omega), if_pos (by omega), if_pos (by omega), hx, if_neg c1, if_neg c2, w64' _ (by omega) (by omega)]
          exact g1 k' (by omega)
        · rw [hd] at hy
          rcases List.mem_cons.1 hy with rfl | hy
          · omega
          · exact g2 q y hy hf
end Go.Proofs.YtjpcdkhapeejjaaGreatDoor.A
namespace Go.Proofs.YtjpcdkhapeejjaaGreatDoor.A
open Cal
set_option maxRecDepth 100000
attribute [local go_sem] hset_drewN halloc_drewN
/-- A moment that the walks cover. -/
structure MomIn (y m d h mi se : Int) : Prop where
  y0 : 1988 ≤ y
  y1 : y ≤ 2109
  m0 : 1 ≤ m
  m1 : m ≤ 12
  d0 : 0 ≤ d
  d1 : d ≤ 32
  h0 : 0 ≤ h
  h1 : h ≤ 23
  mi0 : 0 ≤ mi
  mi1 : mi ≤ 59
  s0 : 0 ≤ se
  s1 : se ≤ 59
instance (y m d h mi se : Int) : Decidable (MomIn y m d h mi se) :=
  decidable_of_iff (1988 ≤ y ∧ y ≤ 2109 ∧ 1 ≤ m ∧ m ≤ 12 ∧ 0 ≤ d ∧ d ≤ 32 ∧ 0 ≤ h ∧ h ≤ 23 ∧ 0 ≤ mi ∧ mi ≤ 59 ∧ 0 ≤ se ∧ se ≤ 59) ⟨fun ⟨a, b, c, d, e, f, g, h, i, j, k, l⟩ => ⟨a, b, c, d, e, f, g, h, i, j, k, l⟩, fun q => ⟨q.y0, q.y1, q.m0, q.m1, q.d0, q.d1, q.h0, q.h1, q.mi0, q.mi1, q.s0, q.s1⟩⟩
/-- A number of rounds that serves for all. -/
def KK : Nat := 1000000
theorem timeOf_in (y m d h mi se : Int) (w : World) (H : MomIn y m d h mi se) :
    Calls Tryz.prog 31 #[.agg #[.int .i64 y, .int .i64 m, .int .i64 d, .int .i64 h, .int .i64 mi, .int .i64 se]] w fun e w' => e = .returned (.agg #[.int .u64 0, .int .i64 (mkS y m d h mi se), .pointer none]) ∧ Below w.heap.size w w' :=
  timeOf_any y m d h mi se w H.y0 H.y1 H.m0 H.m1 H.d0 H.d1 H.h0 H.h1 H.mi0 H.mi1 H.s0 H.s1
set_option maxHeartbeats 8000000 in
theorem implNext_any (k : Nat) (ex : ByteArray) (segs : List ByteArray) (y m d h mi se r : Int) (incl : Bool) (w : World) (hM : MomIn y m d h mi se) (hI : InR (mkS y m d h mi se)) (hR : InR r) (hstd : StdAt w ∨ incl = true)
    (hs : gronx_Segments.f k ex = some (segs, none)) (hl : segs.length = 6) (ht : tickOf k false incl segs (mkS y m d h mi se) = some r) :
    Calls Tryz.prog 15 #[.string ex, .agg #[.int .i64 y, .int .i64 m, .int .i64 d, .int .i64 h, .int .i64 mi, .int .i64 se], .bool incl] w fun e w' => e = .returned (.tuple #[.agg #[.int .i64 (yearS r), .int .i64 (monS r), .int .i64 (dayS r), .int .i64 (hourS r), .int .i64 (minS r), .int .i64 (secS r)], .bool true]) ∧ Below w.heap.size w w' := by
  have hu63 := Tryz.underlying63
  have hu26 := Tryz.underlying26
  have hu65 := Tryz.underlying65
  have HM := Aside0.mk (((Mem.start w).new (mo y m d h mi se)).new (mo 0 0 0 0 0 0))
  rw [World.size_alloc] at HM
  have TO := Aside0.mk fun W => timeOf_in y m d h mi se W hM
  have TK := Aside0.mk fun (W : World) (hb : Below w.heap.size w W) => NextTick_any k ex segs (mkS y m d h mi se) r incl W hI (hstd.imp (fun q => q.below hb) id) hs (by omega) hl ht
  have TR := Aside0.mk fun W => momentOf_any r W hR
  obtain ⟨ms, hms⟩ : ∃ x : Int, mkS y m d h mi se = x := ⟨_, rfl⟩
  rw [hms] at TO TK
  clear hM hI hR hstd hs hl ht hms
  go_enter Tryz.func15, Tryz.ntmps15
  go_wp2_with (first
    | (go_at_call 31; (with_reducible refine (TO.out _).mono ?_); rintro e wz ⟨rfl, hb⟩; have HN := Aside0.mk (HM.out.step hb); clear HM hb; have HM := HN; clear HN)
    | (go_at_call 30; (with_reducible refine (TK.out _ HM.out.below).mono ?_); rintro e wz ⟨rfl, hb⟩; have HN := Aside0.mk ((HM.out.step hb).new (tb r)); clear HM hb; have HM := HN; clear HN)
    | (go_at_call 32; (with_reducible refine (TR.out _).mono ?_); rintro e wz ⟨rfl, hb⟩; have HN := Aside0.mk (HM.out.step hb); clear HM hb; have HM := HN; clear HN; obtain ⟨k0, k1, k2, k3, k4, k5⟩ := mo_cells (HM.out.at_ 1 rfl); obtain ⟨f0, f1, f2, f3, f4, f5⟩ := mo_fr (HM.out.at_ 1 rfl); have klt : w.heap.size + 1 < _ := HM.out.lt 1 rfl))
  refine bodyPost_ret (v := .tuple #[.agg #[.int .i64 (yearS r), .int .i64 (monS r), .int .i64 (dayS r), .int .i64 (hourS r), .int .i64 (minS r), .int .i64 (secS r)], .bool true]) (by simp [results, Tryz.results15, go_sem, *]) rfl ⟨rfl, ?_⟩
  repeat (with_reducible first | exact HM.out.below | apply below_alloc | apply pw_below_drewN | apply below_drew1 | refine below_set ?_ (by omega))
end Go.Proofs.YtjpcdkhapeejjaaGreatDoor.A
namespace Go.Proofs.YtjpcdkhapeejjaaGreatDoor.A
open Cal in
def impl_Next.f (a0 : ByteArray) (a1_0 : Int) (a1_1 : Int) (a1_2 : Int) (a1_3 : Int) (a1_4 : Int) (a1_5 : Int) (a2 : Bool) : Option (Int × Int × Int × Int × Int × Int × Bool) :=
  (gronx_Segments.f KK a0).bind fun sg => if sg.2 = none ∧ sg.1.length = 6 ∧ MomIn a1_0 a1_1 a1_2 a1_3 a1_4 a1_5 ∧ InR (mkS a1_0 a1_1 a1_2 a1_3 a1_4 a1_5) then (tickOf KK false a2 sg.1 (mkS a1_0 a1_1 a1_2 a1_3 a1_4 a1_5)).bind fun t => if InR t then some (yearS t, monS t, dayS t, hourS t, minS t, secS t, true) else none else none
open Cal in
theorem impl_Next.calls (a0 : ByteArray) (a1_0 : Int) (a1_1 : Int) (a1_2 : Int) (a1_3 : Int) (a1_4 : Int) (a1_5 : Int) (a2 : Bool) (r1 : Int) (r2 : Int) (r3 : Int) (r4 : Int) (r5 : Int) (r6 : Int) (r7 : Bool) (w : World) (h : impl_Next.f a0 a1_0 a1_1 a1_2 a1_3 a1_4 a1_5 a2 = some (r1, r2, r3, r4, r5, r6, r7)) (hw : StdAt w ∨ a2 = true) :
    Calls Tryz.prog 15 #[.string a0, .agg #[.int .i64 a1_0, .int .i64 a1_1, .int .i64 a1_2, .int .i64 a1_3, .int .i64 a1_4, .int .i64 a1_5], .bool a2] w fun e w' => e = .returned (.tuple #[.agg #[.int .i64 r1, .int .i64 r2, .int .i64 r3, .int .i64 r4, .int .i64 r5, .int .i64 r6], .bool r7]) ∧ Below w.heap.size w w' := by
  unfold impl_Next.f at h
  replace h := Option.bind_eq_some_iff.mp h
  obtain ⟨⟨segs, er⟩, hs, h⟩ := h
  by_cases c : er = none ∧ segs.length = 6 ∧ MomIn a1_0 a1_1 a1_2 a1_3 a1_4 a1_5 ∧ InR (mkS a1_0 a1_1 a1_2 a1_3 a1_4 a1_5)
  case neg => rw [if_neg c] at h; cases h
  rw [if_pos c] at h
  obtain ⟨rfl, hl, hM, hI⟩ := c
  replace h := Option.bind_eq_some_iff.mp h
  obtain ⟨t, ht, h⟩ := h
  by_cases ct : InR t
  case neg => rw [if_neg ct] at h; cases h
  rw [if_pos ct] at h
  cases h
  exact implNext_any KK a0 segs a1_0 a1_1 a1_2 a1_3 a1_4 a1_5 t a2 w hM hI ct hw hs hl ht
end Go.Proofs.YtjpcdkhapeejjaaGreatDoor.A
namespace Go.Proofs.YtjpcdkhapeejjaaGreatDoor.A
open Cal
section
variable (f0 f1 f2 f3 f4 f5 : List S54) (sec : Bool)
theorem ex_step (i : Int) (fi : List S54) (i0 : 0 ≤ i) (i1 : i < 6) (hf : rd_L5 (fsOf f0 f1 f2 f3 f4 f5) i = fi) (b r : Bool) (hg : EvK (fun k => spec_Good.f k i fi) b) (hr : b = true → EvK (fun k => spec_ExprGood.l0 k (fsOf f0 f1 f2 f3 f4 f5) 6 (i + 1) (fsOf f0 f1 f2 f3 f4 f5) sec) r) (hb : b = false → r = false) :
    EvK (fun k => spec_ExprGood.l0 k (fsOf f0 f1 f2 f3 f4 f5) 6 i (fsOf f0 f1 f2 f3 f4 f5) sec) r := by
  refine EvK.succ (g := fun k => (spec_Good.f k i fi).bind fun t131 => if t131 = true then spec_ExprGood.l0 k (fsOf f0 f1 f2 f3 f4 f5) 6 (i + 1) (fsOf f0 f1 f2 f3 f4 f5) sec else some false) (fun k => ?_) ?_
  · show spec_ExprGood.l0 (k + 1) (fsOf f0 f1 f2 f3 f4 f5) 6 i (fsOf f0 f1 f2 f3 f4 f5) sec = _
    rw [spec_ExprGood.l0, if_pos i1, if_pos i0, if_pos (show i < ((fsOf f0 f1 f2 f3 f4 f5).length : Int) from i1), hf, w64' _ (by omega) (by omega)]
  · refine EvK.bind (h := fun k (t131 : Bool) => if t131 = true then spec_ExprGood.l0 k (fsOf f0 f1 f2 f3 f4 f5) 6 (i + 1) (fsOf f0 f1 f2 f3 f4 f5) sec else some false) hg ?_
    cases b with
    | true => exact EvK.congr (fun k => by rw [if_pos rfl]) (hr rfl)
    | false => exact ⟨0, fun k _ => by rw [hb rfl]; rfl⟩
def noSec : List S54 := [⟨false, 0, 0, 1⟩]
theorem ex_j2 (hl3 : f3.length ≤ 6) : ∃ b, EvK (fun k => spec_ExprGood.j2 k false (fsOf f0 f1 f2 f3 f4 f5) sec) b ∧ (b = true → StarF f4 ∨ ∀ x ∈ f3, x.f0 = false → x.f1 ≤ 28) := by
  obtain ⟨b4, s4, q4⟩ := star_f f4
  obtain ⟨d, g1, g2⟩ := d28_l f3 (by omega) f3.length 0 (by omega)
  rw [List.drop_zero, show ((0 : Nat) : Int) = 0 from rfl] at *
  have op : ∀ k, spec_ExprGood.j2 (k + 1) false (fsOf f0 f1 f2 f3 f4 f5) sec = if b4 = true then some true else spec_ExprGood.l1 k f3 (f3.length : Int) 0 := fun k => by
    rw [spec_ExprGood.j2, if_neg (by decide), if_pos (by show (4 : Int) < 6; decide), show rd_L5 (fsOf f0 f1 f2 f3 f4 f5) 4 = f4 from rfl, s4, Option.bind_some, if_pos (show (3 : Int) < ((fsOf f0 f1 f2 f3 f4 f5).length : Int) by show (3 : Int) < 6; decide)]
    rfl
  cases hb : b4 with
  | true =>
    rw [hb] at op
    exact ⟨true, EvK.succ (g := fun _ => some true) (fun k => by show spec_ExprGood.j2 (k + 1) false _ sec = _; rw [op, if_pos rfl]) ⟨0, fun _ _ => rfl⟩, fun _ => .inl (q4.1 hb)⟩
  | false =>
    rw [hb] at op
    exact ⟨d, EvK.succ (g := fun k => spec_ExprGood.l1 k f3 (f3.length : Int) 0) (fun k => by show spec_ExprGood.j2 (k + 1) false _ sec = _; rw [op, if_neg (by decide)]) ⟨f3.length + 1, fun k hk => g1 k (by omega)⟩, fun q => .inr (g2 q)⟩
theorem ex_j1 (hl3 : f3.length ≤ 6) : ∃ b, EvK (fun k => spec_ExprGood.j1 k false (fsOf f0 f1 f2 f3 f4 f5) sec) b ∧ (b = true → (StarF f3 ∨ StarF f5) ∧ (StarF f4 ∨ ∀ x ∈ f3, x.f0 = false → x.f1 ≤ 28)) := by
  obtain ⟨b3, s3, q3⟩ := star_f f3
  obtain ⟨b5, s5, q5⟩ := star_f f5
  obtain ⟨d, g1, g2⟩ := ex_j2 f0 f1 f2 f3 f4 f5 sec hl3
  have op : ∀ k, spec_ExprGood.j1 (k + 1) false (fsOf f0 f1 f2 f3 f4 f5) sec = if b3 = true then spec_ExprGood.j2 k false (fsOf f0 f1 f2 f3 f4 f5) sec else spec_ExprGood.j2 k (!b5) (fsOf f0 f1 f2 f3 f4 f5) sec := fun k => by
    rw [spec_ExprGood.j1, if_neg (by decide), if_pos (by show (3 : Int) < 6; decide), show rd_L5 (fsOf f0 f1 f2 f3 f4 f5) 3 = f3 from rfl, s3, Option.bind_some, if_pos (show (5 : Int) < ((fsOf f0 f1 f2 f3 f4 f5).length : Int) by show (5 : Int) < 6; decide), show rd_L5 (fsOf f0 f1 f2 f3 f4 f5) 5 = f5 from rfl, s5, Option.bind_some]
  cases hb : b3 with
  | true =>
    rw [hb] at op
    exact ⟨d, EvK.succ (fun k => by show spec_ExprGood.j1 (k + 1) false _ sec = _; rw [op, if_pos rfl]) g1, fun q => ⟨.inl (q3.1 hb), g2 q⟩⟩
  | false =>
    rw [hb] at op
    cases hb5 : b5 with
    | true =>
      rw [hb5] at op
      exact ⟨d, EvK.succ (fun k => by show spec_ExprGood.j1 (k + 1) false _ sec = _; rw [op, if_neg (by decide)]; rfl) g1, fun q => ⟨.inr (q5.1 hb5), g2 q⟩⟩
    | false =>
      rw [hb5] at op
      refine ⟨false, ⟨3, fun k hk => ?_⟩, fun q => by cases q⟩
      obtain ⟨k', rfl⟩ : ∃ k', k = k' + 1 + 1 := ⟨k - 2, by omega⟩
      show spec_ExprGood.j1 (k' + 1 + 1) false _ sec = _
      rw [op, if_neg (by decide), show (!false) = true from rfl, spec_ExprGood.j2, if_pos rfl]
theorem ex_end (hl3 : f3.length ≤ 6) : ∃ b, EvK (fun k => spec_ExprGood.l0 k (fsOf f0 f1 f2 f3 f4 f5) 6 6 (fsOf f0 f1 f2 f3 f4 f5) sec) b ∧ (b = true → (sec = false → f0 = noSec) ∧ (StarF f3 ∨ StarF f5) ∧ (StarF f4 ∨ ∀ x ∈ f3, x.f0 = false → x.f1 ≤ 28)) := by
  obtain ⟨d, g1, g2⟩ := ex_j1 f0 f1 f2 f3 f4 f5 sec hl3
  have opT : ∀ k, spec_ExprGood.j1 (k + 1) true (fsOf f0 f1 f2 f3 f4 f5) sec = some false := fun k => by rw [spec_ExprGood.j1, if_pos rfl]
  cases sec with
  | true =>
    exact ⟨d, EvK.succ (fun k => by show spec_ExprGood.l0 (k + 1) _ 6 6 _ true = _; rw [spec_ExprGood.l0, if_neg (by decide), if_pos rfl]) g1, fun q => ⟨fun e => (by cases e), g2 q⟩⟩
  | false =>
    have op : ∀ k, spec_ExprGood.l0 (k + 1) (fsOf f0 f1 f2 f3 f4 f5) 6 6 (fsOf f0 f1 f2 f3 f4 f5) false = if (f0.length : Int) = 1 then (if 0 < (f0.length : Int) then spec_ExprGood.j1 k (((rd_T54 f0 0).f0) || (!(((rd_T54 f0 0).f1) == 0) || (!(((rd_T54 f0 0).f2) == 0) || (!(((rd_T54 f0 0).f3) == 1))))) (fsOf f0 f1 f2 f3 f4 f5) false else none) else spec_ExprGood.j1 k true (fsOf f0 f1 f2 f3 f4 f5) false := fun k => by
      rw [spec_ExprGood.l0, if_neg (by decide), if_neg (by decide), if_pos (by show (0 : Int) < 6; decide)]; rfl
    have bad : ∀ (x : Bool), x = true → EvK (fun k => spec_ExprGood.j1 k x (fsOf f0 f1 f2 f3 f4 f5) false) false := fun x hx => ⟨1, fun k hk => by
      obtain ⟨k', rfl⟩ : ∃ k', k = k' + 1 := ⟨k - 1, by omega⟩
      show spec_ExprGood.j1 (k' + 1) x _ false = _
      rw [hx, opT]⟩
    by_cases c : (f0.length : Int) = 1
    · obtain ⟨x, hx⟩ : ∃ x, f0 = [x] := List.length_eq_one_iff.1 (by omega)
      have e : rd_T54 f0 0 = x := by rw [hx]; rfl
      have op2 : ∀ k, spec_ExprGood.l0 (k + 1) (fsOf f0 f1 f2 f3 f4 f5) 6 6 (fsOf f0 f1 f2 f3 f4 f5) false = spec_ExprGood.j1 k (x.f0 || (!(x.f1 == 0) || (!(x.f2 == 0) || (!(x.f3 == 1))))) (fsOf f0 f1 f2 f3 f4 f5) false := fun k => by
        rw [op, if_pos c, if_pos (by omega), e]
      cases hq : (x.f0 || (!(x.f1 == 0) || (!(x.f2 == 0) || (!(x.f3 == 1))))) with
      | true =>
        rw [hq] at op2
        exact ⟨false, EvK.succ (fun k => op2 k) (bad true rfl), fun q => by cases q⟩
      | false =>
        rw [hq] at op2
        refine ⟨d, EvK.succ (fun k => op2 k) g1, fun q => ⟨fun _ => ?_, g2 q⟩⟩
        simp only [Bool.or_eq_false_iff, Bool.not_eq_false', beq_iff_eq] at hq
        obtain ⟨a1, a2, a3, a4⟩ := hq
        rw [hx]
        obtain ⟨y0, y1, y2, y3⟩ := x
        simp only at a1 a2 a3 a4
        rw [a1, a2, a3, a4]; rfl
    · exact ⟨false, EvK.succ (fun k => by show spec_ExprGood.l0 (k + 1) _ 6 6 _ false = _; rw [op, if_neg c]) (bad true rfl), fun q => by cases q⟩
end
/-- Whether an expression is taken: always an answer; and what a yes says. -/
theorem ex_good (fs : List (List S54)) (sec : Bool) (hs : ∀ l ∈ fs, l.length ≤ 2147483647) : ∃ b, EvK (fun k => spec_ExprGood.f k fs sec) b ∧ (b = true → ∃ f0 f1 f2 f3 f4 f5, fs = fsOf f0 f1 f2 f3 f4 f5 ∧ GoodE f0 f1 f2 f3 f4 f5 ∧ (sec = false → f0 = noSec)) := by
  by_cases hl : (fs.length : Int) = 6
  case neg => exact ⟨false, ⟨0, fun k _ => by show spec_ExprGood.f k fs sec = _; unfold spec_ExprGood.f; rw [if_neg hl]⟩, fun q => by cases q⟩
  obtain ⟨f0, f1, f2, f3, f4, f5, rfl⟩ : ∃ f0 f1 f2 f3 f4 f5, fs = fsOf f0 f1 f2 f3 f4 f5 := by
    match fs, hl with
    | [a, b, c, d, e, f], _ => exact ⟨a, b, c, d, e, f, rfl⟩
    | [], h => simp at h
    | [_], h => simp at h
    | [_, _], h => simp at h
    | [_, _, _], h => simp at h
    | [_, _, _, _], h => simp at h
    | [_, _, _, _, _], h => simp at h
    | _ :: _ :: _ :: _ :: _ :: _ :: _ :: _, h => simp at h; omega
  have top : ∀ b, EvK (fun k => spec_ExprGood.l0 k (fsOf f0 f1 f2 f3 f4 f5) 6 0 (fsOf f0 f1 f2 f3 f4 f5) sec) b → EvK (fun k => spec_ExprGood.f k (fsOf f0 f1 f2 f3 f4 f5) sec) b := fun b h =>
    EvK.congr (fun k => by show spec_ExprGood.f k _ sec = _; unfold spec_ExprGood.f; rw [if_pos (by rfl)]; rfl) h
  obtain ⟨b0, e0, q0⟩ := good_f 0 (by decide) (by decide) f0 (hs _ (by simp [fsOf]))
  obtain ⟨b1, e1, q1⟩ := good_f 1 (by decide) (by decide) f1 (hs _ (by simp [fsOf]))
  obtain ⟨b2, e2, q2⟩ := good_f 2 (by decide) (by decide) f2 (hs _ (by simp [fsOf]))
  obtain ⟨b3, e3, q3⟩ := good_f 3 (by decide) (by decide) f3 (hs _ (by simp [fsOf]))
  obtain ⟨b4, e4, q4⟩ := good_f 4 (by decide) (by decide) f4 (hs _ (by simp [fsOf]))
  obtain ⟨b5, e5, q5⟩ := good_f 5 (by decide) (by decide) f5 (hs _ (by simp [fsOf]))
  have st : ∀ (i : Int) (fi : List S54) (i0 : 0 ≤ i) (i1 : i < 6) (hf : rd_L5 (fsOf f0 f1 f2 f3 f4 f5) i = fi) (b r : Bool), EvK (fun k => spec_Good.f k i fi) b → (b = true → EvK (fun k => spec_ExprGood.l0 k (fsOf f0 f1 f2 f3 f4 f5) 6 (i + 1) (fsOf f0 f1 f2 f3 f4 f5) sec) r) → (b = false → r = false) → EvK (fun k => spec_ExprGood.l0 k (fsOf f0 f1 f2 f3 f4 f5) 6 i (fsOf f0 f1 f2 f3 f4 f5) sec) r := ex_step f0 f1 f2 f3 f4 f5 sec
  cases b0 with
  | false => exact ⟨false, top _ (st 0 f0 (by decide) (by decide) rfl false false e0 (fun h => by cases h) (fun _ => rfl)), fun q => by cases q⟩
  | true =>
  cases b1 with
  | false => exact ⟨false, top _ (st 0 f0 (by decide) (by decide) rfl true false e0 (fun _ => st 1 f1 (by decide) (by decide) rfl false false e1 (fun h => by cases h) (fun _ => rfl)) (fun h => by cases h)), fun q => by cases q⟩
  | true =>
  cases b2 with
  | false => exact ⟨false, top _ (st 0 f0 (by decide) (by decide) rfl true false e0 (fun _ => st 1 f1 (by decide) (by decide) rfl true false e1 (fun _ => st 2 f2 (by decide) (by decide) rfl false false e2 (fun h => by cases h) (fun _ => rfl)) (fun h => by cases h)) (fun h => by cases h)), fun q => by cases q⟩
  | true =>
  cases b3 with
  | false => exact ⟨false, top _ (st 0 f0 (by decide) (by decide) rfl true false e0 (fun _ => st 1 f1 (by decide) (by decide) rfl true false e1 (fun _ => st 2 f2 (by decide) (by decide) rfl true false e2 (fun _ => st 3 f3 (by decide) (by decide) rfl false false e3 (fun h => by cases h) (fun _ => rfl)) (fun h => by cases h)) (fun h => by cases h)) (fun h => by cases h)), fun q => by cases q⟩
  | true =>
  cases b4 with
  | false => exact ⟨false, top _ (st 0 f0 (by decide) (by decide) rfl true false e0 (fun _ => st 1 f1 (by decide) (by decide) rfl true false e1 (fun _ => st 2 f2 (by decide) (by decide) rfl true false e2 (fun _ => st 3 f3 (by decide) (by decide) rfl true false e3 (fun _ => st 4 f4 (by decide) (by decide) rfl false false e4 (fun h => by cases h) (fun _ => rfl)) (fun h => by cases h)) (fun h => by cases h)) (fun h => by cases h)) (fun h => by cases h)), fun q => by cases q⟩
  | true =>
  cases b5 with
  | false => exact ⟨false, top _ (st 0 f0 (by decide) (by decide) rfl true false e0 (fun _ => st 1 f1 (by decide) (by decide) rfl true false e1 (fun _ => st 2 f2 (by decide) (by decide) rfl true false e2 (fun _ => st 3 f3 (by decide) (by decide) rfl true false e3 (fun _ => st 4 f4 (by decide) (by decide) rfl true false e4 (fun _ => st 5 f5 (by decide) (by decide) rfl false false e5 (fun h => by cases h) (fun _ => rfl)) (fun h => by cases h)) (fun h => by cases h)) (fun h => by cases h)) (fun h => by cases h)) (fun h => by cases h)), fun q => by cases q⟩
  | true =>
  obtain ⟨r, er, qr⟩ := ex_end f0 f1 f2 f3 f4 f5 sec (q3 rfl).len
  refine ⟨r, top _ (st 0 f0 (by decide) (by decide) rfl true r e0 (fun _ => st 1 f1 (by decide) (by decide) rfl true r e1 (fun _ => st 2 f2 (by decide) (by decide) rfl true r e2 (fun _ => st 3 f3 (by decide) (by decide) rfl true r e3 (fun _ => st 4 f4 (by decide) (by decide) rfl true r e4 (fun _ => st 5 f5 (by decide) (by decide) rfl true r e5 (fun _ => er) (fun h => by cases h)) (fun h => by cases h)) (fun h => by cases h)) (fun h => by cases h)) (fun h => by cases h)) (fun h => by cases h)), fun q => ?_⟩
  obtain ⟨a, b, c⟩ := qr q
  exact ⟨f0, f1, f2, f3, f4, f5, rfl, ⟨q0 rfl, q1 rfl, q2 rfl, q3 rfl, q4 rfl, q5 rfl, b, c⟩, a⟩
section
variable {f0 f1 f2 f3 f4 f5 : List S54}
/-- The parts that are written: that of seconds where it is told. -/
def partsOf (sec : Bool) (f0 f1 f2 f3 f4 f5 : List S54) : List (List Int) := if sec = true then [fieldL f0, fieldL f1, fieldL f2, fieldL f3, fieldL f4, fieldL f5] else [fieldL f1, fieldL f2, fieldL f3, fieldL f4, fieldL f5]
theorem tx_first (sec : Bool) (i : Int) (fi : List S54) (i0 : 0 ≤ i) (i1 : i < 6) (hj : GoodF i fi) (hf : rd_L5 (fsOf f0 f1 f2 f3 f4 f5) i = fi) (hs : i = 0 → sec = true) (k : Nat) (hk : 20 ≤ k) :
    spec_Text.l0 (k + 2) (strOfNums []) (fsOf f0 f1 f2 f3 f4 f5) 6 i (fsOf f0 f1 f2 f3 f4 f5) sec = spec_Text.l0 k (strOfNums (fieldL fi)) (fsOf f0 f1 f2 f3 f4 f5) 6 (i + 1) (fsOf f0 f1 f2 f3 f4 f5) sec := by
  have hl := field_len fi hj.len
  have op : spec_Text.l0 (k + 2) (strOfNums []) (fsOf f0 f1 f2 f3 f4 f5) 6 i (fsOf f0 f1 f2 f3 f4 f5) sec = spec_Text.j1 (k + 1) (strOfNums []) fi (fsOf f0 f1 f2 f3 f4 f5) 6 i false (fsOf f0 f1 f2 f3 f4 f5) sec := by
    rw [spec_Text.l0, if_pos i1, if_pos i0, if_pos (show i < ((fsOf f0 f1 f2 f3 f4 f5).length : Int) from i1), hf]
    by_cases c : i = 0
    · rw [if_pos c, hs c]; rfl
    · rw [if_neg c]
  rw [op, spec_Text.j1, if_neg (by decide), if_pos (by rw [s_list]; rfl), ftext i fi hj k (by omega), Option.bind_some, strOfNums_size, strOfNums_size, if_pos (by simp only [List.length_nil]; omega), s_app, List.nil_append, w64' _ (by omega) (by omega)]
theorem tx_next (sec : Bool) (i : Int) (fi : List S54) (acc : List Int) (i0 : 1 ≤ i) (i1 : i < 6) (hj : GoodF i fi) (hf : rd_L5 (fsOf f0 f1 f2 f3 f4 f5) i = fi) (ha : acc ≠ []) (hal : acc.length ≤ 1000) (k : Nat) (hk : 20 ≤ k) :
    spec_Text.l0 (k + 2) (strOfNums acc) (fsOf f0 f1 f2 f3 f4 f5) 6 i (fsOf f0 f1 f2 f3 f4 f5) sec = spec_Text.l0 k (strOfNums (acc ++ 32 :: fieldL fi)) (fsOf f0 f1 f2 f3 f4 f5) 6 (i + 1) (fsOf f0 f1 f2 f3 f4 f5) sec := by
  have hl := field_len fi hj.len
  have op : spec_Text.l0 (k + 2) (strOfNums acc) (fsOf f0 f1 f2 f3 f4 f5) 6 i (fsOf f0 f1 f2 f3 f4 f5) sec = spec_Text.j1 (k + 1) (strOfNums acc) fi (fsOf f0 f1 f2 f3 f4 f5) 6 i false (fsOf f0 f1 f2 f3 f4 f5) sec := by
    rw [spec_Text.l0, if_pos i1, if_pos (by omega), if_pos (show i < ((fsOf f0 f1 f2 f3 f4 f5).length : Int) from i1), hf, if_neg (by omega)]
  have hne : ¬ (strOfNums acc).toList = ([] : List UInt8) := fun e => by
    rw [s_list] at e
    exact ha (List.map_eq_nil_iff.1 e)
  rw [op, spec_Text.j1, if_neg (by decide), if_neg hne, strOfNums_size, if_pos (by omega), ftext i fi hj k (by omega), Option.bind_some, show (⟨#[32]⟩ : ByteArray) = strOfNums [32] from rfl, s_app, strOfNums_size, strOfNums_size, if_pos (by rw [List.length_append, List.length_singleton]; omega), s_app, List.append_assoc, List.singleton_append, w64' _ (by omega) (by omega)]
theorem tx_end (sec : Bool) (acc : List Int) (k : Nat) : spec_Text.l0 (k + 1) (strOfNums acc) (fsOf f0 f1 f2 f3 f4 f5) 6 6 (fsOf f0 f1 f2 f3 f4 f5) sec = some (strOfNums acc) := by rw [spec_Text.l0, if_neg (by decide)]
theorem part_len (sec : Bool) (n : Nat) : ∀ (fs : List (List Int)), (∀ f ∈ fs, f.length ≤ 54) → (joinW n fs).length ≤ (55 + n) * fs.length
  | [], _ => by show 0 ≤ _; omega
  | [f], h => by have := h f List.mem_cons_self; show f.length ≤ (55 + n) * 1; omega
  | f :: g :: fs, h => by
    have a := h f List.mem_cons_self
    have b := part_len sec n (g :: fs) fun x hx => h x (List.mem_cons_of_mem _ hx)
    show (f ++ (List.replicate (n + 1) 32 ++ joinW n (g :: fs))).length ≤ _
    rw [List.length_append, List.length_append, List.length_replicate]
    have e : (55 + n) * (f :: g :: fs).length = (55 + n) * (g :: fs).length + (55 + n) := by rw [List.length_cons (a := f), Nat.mul_add, Nat.mul_one]
    omega
theorem text_f (h : GoodE f0 f1 f2 f3 f4 f5) (sec : Bool) (k : Nat) (hk : 50 ≤ k) : spec_Text.f k (fsOf f0 f1 f2 f3 f4 f5) sec = some (strOfNums (joinW 0 (partsOf sec f0 f1 f2 f3 f4 f5))) := by
  have l0 := field_len f0 h.g0.len
  have l1 := field_len f1 h.g1.len
  have l2 := field_len f2 h.g2.len
  have l3 := field_len f3 h.g3.len
  have l4 := field_len f4 h.g4.len
  have l5 := field_len f5 h.g5.len
  have n0 := (field_part 0 f0 h.g0).ne
  have n1 := (field_part 1 f1 h.g1).ne
  obtain ⟨k, rfl⟩ : ∃ k', k = k' + 1 + 2 + 2 + 2 + 2 + 2 + 2 := ⟨k - 13, by omega⟩
  have top : spec_Text.f (k + 1 + 2 + 2 + 2 + 2 + 2 + 2) (fsOf f0 f1 f2 f3 f4 f5) sec = spec_Text.l0 (k + 1 + 2 + 2 + 2 + 2 + 2 + 2) (strOfNums []) (fsOf f0 f1 f2 f3 f4 f5) 6 0 (fsOf f0 f1 f2 f3 f4 f5) sec := rfl
  rw [top]
  have len2 : ∀ (a b : List Int) (m n : Nat), a.length ≤ m → b.length ≤ n → (a ++ 32 :: b).length ≤ m + n + 1 := fun a b m n x y => by rw [List.length_append, List.length_cons]; omega
  have ne2 : ∀ (a b : List Int), a ++ 32 :: b ≠ [] := fun a b e => by have := congrArg List.length e; rw [List.length_append, List.length_cons] at this; simp at this
  cases sec with
  | true =>
    rw [tx_first true 0 f0 (by decide) (by decide) h.g0 rfl (fun _ => rfl) _ (by omega), show (0 : Int) + 1 = 1 from rfl]
    rw [tx_next true 1 f1 _ (by decide) (by decide) h.g1 rfl n0 (by omega) _ (by omega), show (1 : Int) + 1 = 2 from rfl]
    have a1 := len2 _ _ 54 54 l0 l1
    rw [tx_next true 2 f2 _ (by decide) (by decide) h.g2 rfl (ne2 _ _) (by omega) _ (by omega), show (2 : Int) + 1 = 3 from rfl]
    have a2 := len2 _ _ _ 54 a1 l2
    rw [tx_next true 3 f3 _ (by decide) (by decide) h.g3 rfl (ne2 _ _) (by omega) _ (by omega), show (3 : Int) + 1 = 4 from rfl]
    have a3 := len2 _ _ _ 54 a2 l3
    rw [tx_next true 4 f4 _ (by decide) (by decide) h.g4 rfl (ne2 _ _) (by omega) _ (by omega), show (4 : Int) + 1 = 5 from rfl]
    have a4 := len2 _ _ _ 54 a3 l4
    rw [tx_next true 5 f5 _ (by decide) (by decide) h.g5 rfl (ne2 _ _) (by omega) _ (by omega), show (5 : Int) + 1 = 6 from rfl, tx_end]
    show _ = some (strOfNums (fieldL f0 ++ 32 :: (fieldL f1 ++ 32 :: (fieldL f2 ++ 32 :: (fieldL f3 ++ 32 :: (fieldL f4 ++ 32 :: fieldL f5))))))
    simp only [List.append_assoc, List.cons_append]
  | false =>
    have skip : spec_Text.l0 (k + 1 + 2 + 2 + 2 + 2 + 2 + 2) (strOfNums []) (fsOf f0 f1 f2 f3 f4 f5) 6 0 (fsOf f0 f1 f2 f3 f4 f5) false = spec_Text.l0 (k + 1 + 2 + 2 + 2 + 2 + 2) (strOfNums []) (fsOf f0 f1 f2 f3 f4 f5) 6 1 (fsOf f0 f1 f2 f3 f4 f5) false := by
      rw [spec_Text.l0, if_pos (by decide), if_pos (by decide), if_pos (by show (0 : Int) < 6; decide), if_pos rfl, spec_Text.j1, if_pos (by decide), show wrap64 (0 + 1) = 1 from by unfold wrap64; omega]
    rw [skip, tx_first false 1 f1 (by decide) (by decide) h.g1 rfl (fun e => by cases e) _ (by omega), show (1 : Int) + 1 = 2 from rfl]
    rw [tx_next false 2 f2 _ (by decide) (by decide) h.g2 rfl n1 (by omega) _ (by omega), show (2 : Int) + 1 = 3 from rfl]
    have a2 := len2 _ _ 54 54 l1 l2
    rw [tx_next false 3 f3 _ (by decide) (by decide) h.g3 rfl (ne2 _ _) (by omega) _ (by omega), show (3 : Int) + 1 = 4 from rfl]
    have a3 := len2 _ _ _ 54 a2 l3
    rw [tx_next false 4 f4 _ (by decide) (by decide) h.g4 rfl (ne2 _ _) (by omega) _ (by omega), show (4 : Int) + 1 = 5 from rfl]
    have a4 := len2 _ _ _ 54 a3 l4
    rw [tx_next false 5 f5 _ (by decide) (by decide) h.g5 rfl (ne2 _ _) (by omega) _ (by omega), show (5 : Int) + 1 = 6 from rfl, tx_end]
    show _ = some (strOfNums (fieldL f1 ++ 32 :: (fieldL f2 ++ 32 :: (fieldL f3 ++ 32 :: (fieldL f4 ++ 32 :: fieldL f5)))))
    simp only [List.append_assoc, List.cons_append]
theorem yr_dec (v : Int) (v0 : 0 ≤ v) (v1 : v ≤ 99) (ys : List Int) : (∀ n, n ≤ 2 → yr n ys = false) → yr 0 (dec v ++ ys) = false := by
  intro h
  unfold dec
  by_cases c : v < 10
  · rw [if_pos c, List.singleton_append, yr, if_pos (by omega), if_neg (by decide)]
    exact h 1 (by decide)
  · rw [if_neg c]
    show yr 0 ((48 + v / 10) :: (48 + v % 10) :: ys) = false
    rw [yr, if_pos (by omega), if_neg (by decide), yr, if_pos (by omega), if_neg (by decide)]
    exact h 2 (by decide)
theorem yr_sign (c : Int) (hc : ¬ (48 ≤ c ∧ c ≤ 57)) (ys : List Int) (h : yr 0 ys = false) : ∀ n, n ≤ 2 → yr n (c :: ys) = false := fun n _ => by rw [yr, if_neg hc]; exact h
theorem yr_nil : ∀ n, n ≤ 2 → yr n [] = false := fun n _ => by unfold yr; rfl
theorem yr_item (j : Int) (x : S54) (h : GoodI j x) (ys : List Int) (hy : ∀ n, n ≤ 2 → yr n ys = false) : yr 0 (itemL x ++ ys) = false := by
  have hl := low_bd j
  have hh := high_bd j
  have s0 := h.s0
  have s1 := h.s1
  have d3 : yr 0 (dec x.f3 ++ ys) = false := yr_dec _ (by omega) (by omega) ys hy
  have n47 : ∀ n, n ≤ 2 → yr n (47 :: (dec x.f3 ++ ys)) = false := yr_sign 47 (by decide) _ d3
  unfold itemL
  cases hf : x.f0 with
  | true =>
    rw [if_pos rfl]
    split
    · show yr 0 (42 :: 47 :: (dec x.f3 ++ ys)) = false
      exact yr_sign 42 (by decide) _ (n47 0 (by decide)) 0 (by decide)
    · exact yr_sign 42 (by decide) ys (hy 0 (by decide)) 0 (by decide)
  | false =>
    have hr := h.r hf
    rw [if_neg (show ¬ (false = true) by decide)]
    split
    · rw [List.append_assoc, List.append_assoc]
      exact yr_dec _ (by omega) (by omega) _ (yr_sign 45 (by decide) _ (yr_dec _ (by omega) (by omega) _ n47))
    · split
      · rw [List.append_assoc]
        exact yr_dec _ (by omega) (by omega) _ (yr_sign 45 (by decide) _ (yr_dec _ (by omega) (by omega) _ hy))
      · exact yr_dec _ (by omega) (by omega) _ hy
theorem yr_field (j : Int) : ∀ (l : List S54), (∀ x ∈ l, GoodI j x) → yr 0 (fieldL l) = false
  | [], _ => by unfold fieldL; rfl
  | [x], h => by
    have := yr_item j x (h x List.mem_cons_self) [] yr_nil
    rw [List.append_nil] at this
    exact this
  | x :: y :: l, h => by
    have ih := yr_field j (y :: l) fun z hz => h z (List.mem_cons_of_mem _ hz)
    show yr 0 (itemL x ++ 44 :: fieldL (y :: l)) = false
    exact yr_item j x (h x List.mem_cons_self) _ (yr_sign 44 (by decide) _ ih)
/-- The parts of a text. -/
theorem seg_good (h : GoodE f0 f1 f2 f3 f4 f5) (sec : Bool) (hs : sec = false → f0 = noSec) (n : Nat) (hn : n ≤ 10) (k : Nat) (hk : 100000 ≤ k) : gronx_Segments.f k (strOfNums (joinW n (partsOf sec f0 f1 f2 f3 f4 f5))) = some (segsOf f0 f1 f2 f3 f4 f5, none) := by
  have l0 := field_len f0 h.g0.len
  have l1 := field_len f1 h.g1.len
  have l2 := field_len f2 h.g2.len
  have l3 := field_len f3 h.g3.len
  have l4 := field_len f4 h.g4.len
  have l5 := field_len f5 h.g5.len
  have p0 := field_part 0 f0 h.g0
  have p1 := field_part 1 f1 h.g1
  have p2 := field_part 2 f2 h.g2
  have p3 := field_part 3 f3 h.g3
  have p4 := field_part 4 f4 h.g4
  have p5 := field_part 5 f5 h.g5
  have hall : ∀ fs : List (List Int), (∀ f ∈ fs, f.length ≤ 54) → fs.length ≤ 6 → (joinW n fs).length ≤ 400 := fun fs a b => by
    have := part_len sec n fs a
    have : (55 + n) * fs.length ≤ 65 * 6 := Nat.mul_le_mul (by omega) b
    omega
  cases sec with
  | true =>
    have hp : ∀ g ∈ [fieldL f0, fieldL f1, fieldL f2, fieldL f3, fieldL f4, fieldL f5], Part g ∧ g.length ≤ 54 := fun g hg => by
      simp only [List.mem_cons, List.not_mem_nil, or_false] at hg
      rcases hg with rfl | rfl | rfl | rfl | rfl | rfl
      · exact ⟨p0, l0⟩
      · exact ⟨p1, l1⟩
      · exact ⟨p2, l2⟩
      · exact ⟨p3, l3⟩
      · exact ⟨p4, l4⟩
      · exact ⟨p5, l5⟩
    have hlen := hall _ (fun g hg => (hp g hg).2) (by simp)
    exact segments6 n (fieldL f0) [fieldL f1, fieldL f2, fieldL f3, fieldL f4, fieldL f5] (fun g hg => (hp g hg).1) (by omega) rfl (fun g hg => by
      have : fieldL f5 = g := Option.some.inj hg
      rw [← this]
      exact ⟨yr_field 5 f5 h.g5.it, by omega⟩) k (by omega)
  | false =>
    have hp : ∀ g ∈ [fieldL f1, fieldL f2, fieldL f3, fieldL f4, fieldL f5], Part g ∧ g.length ≤ 54 := fun g hg => by
      simp only [List.mem_cons, List.not_mem_nil, or_false] at hg
      rcases hg with rfl | rfl | rfl | rfl | rfl
      · exact ⟨p1, l1⟩
      · exact ⟨p2, l2⟩
      · exact ⟨p3, l3⟩
      · exact ⟨p4, l4⟩
      · exact ⟨p5, l5⟩
    have hlen := hall _ (fun g hg => (hp g hg).2) (by simp)
    have := segments5 n (fieldL f1) [fieldL f2, fieldL f3, fieldL f4, fieldL f5] (fun g hg => (hp g hg).1) (by omega) rfl k (by omega)
    rw [show joinW n (partsOf false f0 f1 f2 f3 f4 f5) = joinW n (fieldL f1 :: [fieldL f2, fieldL f3, fieldL f4, fieldL f5]) from rfl, this, hs rfl]
    rfl
end
end Go.Proofs.YtjpcdkhapeejjaaGreatDoor.A
namespace Go.Proofs.YtjpcdkhapeejjaaGreatDoor.A
end Go.Proofs.YtjpcdkhapeejjaaGreatDoor.A
