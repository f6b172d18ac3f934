/- Steps of the proof of the law: contracts of functions of the given program, and plain lemmas about what they compute.
Conditions: none beyond those that each theorem names. -/
import Derived.Test.YtjpcdkhapeejjaaGreatDoorK31
set_option linter.unusedVariables false
set_option linter.unusedSimpArgs false
open Go.RowKit Go.Proofs.YtjpcdkhapeejjaaGreatDoorW.PrintWords Go.Proofs.YtjpcdkhapeejjaaGreatDoorW.PrintLast Go.Proofs.YtjpcdkhapeejjaaGreatDoorW.PrintMore
namespace Go.Proofs.YtjpcdkhapeejjaaGreatDoor.A
open Cal
set_option maxRecDepth 100000
attribute [local go_sem] hset_drewN halloc_drewN
/-- The block of a Gronx: its checker. -/
def grO (gC : Nat) : Obj := .cells #[.iface 97 (.pointer (some ⟨gC, 0, none⟩))] 103 (0, 0)
/-- A block that holds the fields' texts. -/
def SegAt (cur : Array Value) (ad : Addr) (segs : List ByteArray) : Prop :=
  ∀ W : World, W.heap[ad.block]? = some (.cells cur 9 (0, 0)) → ∀ i : Nat, i < segs.length → W.cell? (ad.add i) = some (.string (rdOf ByteArray.empty segs (i : Int)))
theorem seg_at {w : World} {base : Nat} {ok : Nat → Prop} {v : Value} {segs : List ByteArray} (h : Kd.R Kd.string 9 w base ok v segs) (hn : 0 < segs.length) :
    ∃ (ad : Addr) (cap : Nat) (cur : Array Value), v = .slice (some ad) segs.length cap ∧ base ≤ ad.block ∧ w.heap[ad.block]? = some (.cells cur 9 (0, 0)) ∧ SegAt cur ad segs := by
  obtain ⟨A, c, e⟩ := Kd.R_slice h
  subst e
  have hc := (Kd.R_reads' h).2.2
  obtain ⟨_, inner, ho, _⟩ := h
  rcases ho.2 with ⟨_, h0⟩ | ⟨g, cap, cur, hv, hb, hg, _⟩
  · omega
  cases hv
  refine ⟨_, _, cur, rfl, hb, hg, fun W hW i hi => ?_⟩
  obtain ⟨ad, e, hx⟩ := Kd.at_string hc (i : Int) (by omega) (by omega)
  cases e
  rw [Int.toNat_natCast] at hx
  rw [← hx]
  have hbk : ((⟨g, 0, none⟩ : Addr).add i).block = g := by unfold Addr.add; split <;> rfl
  unfold World.cell?
  rw [hbk, hg]
  rw [show W.heap[g]? = some (.cells cur 9 (0, 0)) from hW]
def isect (k : Nat) (segs : List ByteArray) (seg : ByteArray) (j : Nat) : Option Unit :=
  if j = 5 then (gronx_zzIndex.f k seg ⟨#[42, 47]⟩).bind fun a => if a = 0 then some () else
    if segs.length ≤ 3 then none else (gronx_zzIndex.f k (rdOf ByteArray.empty segs 3) ⟨#[42]⟩).bind fun c => if c = 0 then some () else none
  else some ()
def sdue (k : Nat) (segs : List ByteArray) (s : Int) : Nat → Option Bool
  | 0 => some true
  | j + 1 => if (rdOf ByteArray.empty segs (j : Int)).toList = ([42] : List UInt8) then sdue k segs s j else if (rdOf ByteArray.empty segs (j : Int)).toList = ([63] : List UInt8) then none else
    (isect k segs (rdOf ByteArray.empty segs (j : Int)) j).bind fun _ => (dueA k (rdOf ByteArray.empty segs (j : Int)) (j : Int) s).bind fun d => if d = true then sdue k segs s j else some false
set_option maxHeartbeats 8000000 in
theorem SegmentsDue_any (k gG gC cap : Nat) (ad : Addr) (cur : Array Value) (segs : List ByteArray) (s : Int) (b : Bool) (W : World) (hG : W.heap[gG]? = some (grO gC)) (hC : W.heap[gC]? = some (ckO s))
    (hS : W.heap[ad.block]? = some (.cells cur 9 (0, 0))) (hA : SegAt cur ad segs) (hl : segs.length ≤ 7) (h : sdue k segs s segs.length = some b) :
    Calls Tryz.prog 54 #[.pointer (some ⟨gG, 0, none⟩), .slice (some ad) segs.length cap] W fun e w' => e = .returned (.tuple #[.bool b, .nilIface]) ∧ Below W.heap.size W w' := by
  have hu65 := Tryz.underlying65
  have HG := Aside0.mk hG
  have HC := Aside0.mk hC
  have HS := Aside0.mk hS
  have HSA := Aside0.mk hA
  have HL7 := Aside0.mk hl
  have H0 := Aside0.mk h
  clear hG hC hS hA hl h
  go_enter Tryz.func54, Tryz.ntmps54
  go_wp2
  go_loopg [6, 7] segs.length (fun kq v6 v7 wq => v6 = .bool false ∧ v7 = .int .i64 ((segs.length : Int) - (kq : Int)) ∧ Aside0 (kq ≤ segs.length) ∧ Aside0 (sdue k segs s kq = some b) ∧ Aside0 (wq.heap[gG]? = some (grO gC)) ∧ Aside0 (wq.heap[gC]? = some (ckO s)) ∧ Aside0 (wq.heap[ad.block]? = some (.cells cur 9 (0, 0))) ∧ Aside0 (Below W.heap.size W wq))
  case atStart => exact ⟨rfl, by rw [Int.sub_self], ⟨Nat.le_refl _⟩, H0, HG, HC, HS, ⟨Below.refl _ _⟩⟩
  case round =>
    clear H0 HG HC HS
    obtain ⟨rfl, rfl, HK, HA, HG, HC, HS, HB⟩ := hrel
    cases gk with
    | zero =>
      have H := HA.out
      clear HA
      unfold sdue at H
      cases H
      have q0 : decide (((segs.length : Int) - ((0 : Nat) : Int)) < (segs.length : Int)) = false := decide_eq_false (by omega)
      go_wp2
      go_ret2
      exact ⟨rfl, HB.out⟩
    | succ k1 =>
      have H := HA.out
      clear HA
      unfold sdue at H
      have hj : k1 + 1 ≤ segs.length := HK.out
      have hl7 : segs.length ≤ 7 := HL7.out
      obtain ⟨x, hx⟩ : ∃ x : Int, (segs.length : Int) - ((k1 + 1 : Nat) : Int) = x := ⟨_, rfl⟩
      obtain ⟨n1, hn1⟩ : ∃ x : Int, (segs.length : Int) - 1 = x := ⟨_, rfl⟩
      rw [hx]
      have q0 : decide (x < (segs.length : Int)) = true := decide_eq_true (by omega)
      have w1 : IntKind.i64.wrap ((segs.length : Int) - 1) = n1 := by rw [i64_w]; unfold wrap64; omega
      have w2 : IntKind.i64.wrap (n1 - x) = (k1 : Int) := by rw [i64_w]; unfold wrap64; omega
      have w3 : IntKind.i64.wrap (x + 1) = (segs.length : Int) - (k1 : Int) := by rw [i64_w]; unfold wrap64; omega
      have q1 : (0 ≤ (k1 : Int)) = True := eq_true (by omega)
      have q2 : ((k1 : Int) < (segs.length : Int)) = True := eq_true (by omega)
      have q3 : (((k1 : Int)).toNat < segs.length) = True := eq_true (by omega)
      have q4 : (k1 < segs.length) = True := eq_true (by omega)
      have hcell := HSA.out _ HS.out k1 (by omega)
      obtain ⟨seg, hseg⟩ : ∃ sg : ByteArray, rdOf ByteArray.empty segs (k1 : Int) = sg := ⟨_, rfl⟩
      rw [hseg] at H hcell
      by_cases e1 : seg.toList = ([42] : List UInt8)
      · rw [if_pos e1] at H
        have c1 : (seg.toList == ([42] : List UInt8)) = true := beq_iff_eq.mpr e1
        clear e1
        have AH := Aside0.mk H
        clear H
        go_wp2
        go_roundg k1
        case measure => omega
        case rel => exact ⟨rfl, rfl, ⟨by omega⟩, AH, HG, HC, HS, HB⟩
      · rw [if_neg e1] at H
        have c1 : (seg.toList == ([42] : List UInt8)) = false := beq_eq_false_iff_ne.mpr e1
        clear e1
        by_cases e2 : seg.toList = ([63] : List UInt8)
        case pos => rw [if_pos e2] at H; cases H
        rw [if_neg e2] at H
        have c2 : (seg.toList == ([63] : List UInt8)) = false := beq_eq_false_iff_ne.mpr e2
        clear e2
        replace H := Option.bind_eq_some_iff.mp H
        obtain ⟨_, hi, H⟩ := H
        replace H := Option.bind_eq_some_iff.mp H
        obtain ⟨d, hd, H⟩ := H
        unfold dueA at hd
        by_cases hI : InR s ∧ 0 ≤ (k1 : Int) ∧ (k1 : Int) ≤ 6
        case neg => rw [if_neg hI] at hd; cases hd
        rw [if_pos hI] at hd
        have AI := Aside0.mk hI
        clear hI
        have hcg : wr.cell? ⟨gG, 0, none⟩ = some (.iface 97 (.pointer (some ⟨gC, 0, none⟩))) := by unfold World.cell?; rw [show wr.heap[(⟨gG, 0, none⟩ : Addr).block]? = some (grO gC) from HG.out]; rfl
        unfold isect at hi
        by_cases e5 : k1 = 5
        · rw [if_pos e5] at hi
          have c5 : ((k1 : Int) == 5) = true := beq_iff_eq.mpr (by omega)
          have c3 : ((k1 : Int) == 3) = false := beq_eq_false_iff_ne.mpr (by omega)
          replace hi := Option.bind_eq_some_iff.mp hi
          obtain ⟨a, ha, hi⟩ := hi
          have Aa := Aside0.mk ha
          clear ha
          have q8 : 3 < segs.length := by omega
          have q9 : (3 < segs.length) = True := eq_true q8
          have q10 : (3 < (segs.length : Int)) = True := eq_true (by omega)
          have hcell3 := HSA.out _ HS.out 3 (by omega)
          rw [show (((3 : Nat) : Int)) = (3 : Int) from rfl] at hcell3
          obtain ⟨s3, hs3⟩ : ∃ sg : ByteArray, rdOf ByteArray.empty segs 3 = sg := ⟨_, rfl⟩
          rw [hs3] at hcell3 hi
          simp only [Go.Addr.add, Nat.reduceEqDiff, ↓reduceIte] at hcell3
          clear e5
          by_cases ea : a = 0
          · subst ea
            clear hi
            have AD := Aside0.mk hd
            clear hd
            cases d with
            | true =>
              rw [if_pos rfl] at H
              have AH := Aside0.mk H
              clear H
              go_wp2_with (first | (go_at_call 65; with_reducible refine (gronx_zzIndex.calls k seg ⟨#[42, 47]⟩ 0 _ Aa.out).mono ?_; rintro e w2 ⟨rfl, ⟨nd, rfl⟩⟩) | (go_at_call 202; have hxC : (wr.drewN nd).heap[gC]? = some (ckO s) := HC.out; have hxG : (wr.drewN nd).heap[gG]? = some (grO gC) := HG.out; have hxS : (wr.drewN nd).heap[ad.block]? = some (.cells cur 9 (0, 0)) := HS.out; have hxB : Below W.heap.size W (wr.drewN nd) := (by first | exact HB.out | exact pw_below_drewN HB.out _); (with_reducible refine (CheckDue_any k gC seg s (k1 : Int) true _ AI.out.1 AI.out.2.1 AI.out.2.2 hxC AD.out).mono ?_); rintro e wz ⟨rfl, hb⟩; have z1 := Aside0.mk (blk_below hxC hb); have z2 := Aside0.mk (blk_below hxG hb); have z3 := Aside0.mk (blk_below hxS hb); have z4 := Aside0.mk (below_step hxB hb); clear HC HG HS HB hb hcg hcell hxC hxG hxS hxB; have HC := z1; have HG := z2; have HS := z3; have HB := z4; clear z1 z2 z3 z4))
              all_goals
                go_roundg k1
                case measure => omega
                case rel => exact ⟨rfl, rfl, ⟨by omega⟩, AH, HG, HC, HS, HB⟩
            | false =>
              rw [if_neg (by decide)] at H
              cases H
              go_wp2_with (first | (go_at_call 65; with_reducible refine (gronx_zzIndex.calls k seg ⟨#[42, 47]⟩ 0 _ Aa.out).mono ?_; rintro e w2 ⟨rfl, ⟨nd, rfl⟩⟩) | (go_at_call 202; have hxC : (wr.drewN nd).heap[gC]? = some (ckO s) := HC.out; have hxG : (wr.drewN nd).heap[gG]? = some (grO gC) := HG.out; have hxS : (wr.drewN nd).heap[ad.block]? = some (.cells cur 9 (0, 0)) := HS.out; have hxB : Below W.heap.size W (wr.drewN nd) := (by first | exact HB.out | exact pw_below_drewN HB.out _); (with_reducible refine (CheckDue_any k gC seg s (k1 : Int) false _ AI.out.1 AI.out.2.1 AI.out.2.2 hxC AD.out).mono ?_); rintro e wz ⟨rfl, hb⟩; have z1 := Aside0.mk (blk_below hxC hb); have z2 := Aside0.mk (blk_below hxG hb); have z3 := Aside0.mk (blk_below hxS hb); have z4 := Aside0.mk (below_step hxB hb); clear HC HG HS HB hb hcg hcell hxC hxG hxS hxB; have HC := z1; have HG := z2; have HS := z3; have HB := z4; clear z1 z2 z3 z4))
              all_goals
                go_ret2
                exact ⟨rfl, HB.out⟩
          · rw [if_neg ea] at hi
            have ca : (a == 0) = false := beq_eq_false_iff_ne.mpr ea
            clear ea
            by_cases h3 : segs.length ≤ 3
            case pos => omega
            rw [if_neg h3] at hi
            replace hi := Option.bind_eq_some_iff.mp hi
            obtain ⟨c, hc, hi⟩ := hi
            by_cases ec : c = 0
            case neg => rw [if_neg ec] at hi; cases hi
            subst ec
            clear hi
            have Ac := Aside0.mk hc
            clear hc
            have AD := Aside0.mk hd
            clear hd
            cases d with
            | true =>
              rw [if_pos rfl] at H
              have AH := Aside0.mk H
              clear H
              go_wp2_with (first | (go_at_call 65; with_reducible refine (gronx_zzIndex.calls k seg ⟨#[42, 47]⟩ a _ Aa.out).mono ?_; rintro e w2 ⟨rfl, ⟨nd, rfl⟩⟩) | (go_at_call 65; with_reducible refine (gronx_zzIndex.calls k s3 ⟨#[42]⟩ 0 _ Ac.out).mono ?_; rintro e w2 ⟨rfl, ⟨nd2, rfl⟩⟩) | (go_at_call 202; have hxC : (wr.drewN (nd + nd2)).heap[gC]? = some (ckO s) := HC.out; have hxG : (wr.drewN (nd + nd2)).heap[gG]? = some (grO gC) := HG.out; have hxS : (wr.drewN (nd + nd2)).heap[ad.block]? = some (.cells cur 9 (0, 0)) := HS.out; have hxB : Below W.heap.size W (wr.drewN (nd + nd2)) := (by first | exact HB.out | exact pw_below_drewN HB.out _); (with_reducible refine (CheckDue_any k gC seg s (k1 : Int) true _ AI.out.1 AI.out.2.1 AI.out.2.2 hxC AD.out).mono ?_); rintro e wz ⟨rfl, hb⟩; have z1 := Aside0.mk (blk_below hxC hb); have z2 := Aside0.mk (blk_below hxG hb); have z3 := Aside0.mk (blk_below hxS hb); have z4 := Aside0.mk (below_step hxB hb); clear HC HG HS HB hb hcg hcell hxC hxG hxS hxB; have HC := z1; have HG := z2; have HS := z3; have HB := z4; clear z1 z2 z3 z4))
              all_goals
                go_roundg k1
                case measure => omega
                case rel => exact ⟨rfl, rfl, ⟨by omega⟩, AH, HG, HC, HS, HB⟩
            | false =>
              rw [if_neg (by decide)] at H
              cases H
              go_wp2_with (first | (go_at_call 65; with_reducible refine (gronx_zzIndex.calls k seg ⟨#[42, 47]⟩ a _ Aa.out).mono ?_; rintro e w2 ⟨rfl, ⟨nd, rfl⟩⟩) | (go_at_call 65; with_reducible refine (gronx_zzIndex.calls k s3 ⟨#[42]⟩ 0 _ Ac.out).mono ?_; rintro e w2 ⟨rfl, ⟨nd2, rfl⟩⟩) | (go_at_call 202; have hxC : (wr.drewN (nd + nd2)).heap[gC]? = some (ckO s) := HC.out; have hxG : (wr.drewN (nd + nd2)).heap[gG]? = some (grO gC) := HG.out; have hxS : (wr.drewN (nd + nd2)).heap[ad.block]? = some (.cells cur 9 (0, 0)) := HS.out; have hxB : Below W.heap.size W (wr.drewN (nd + nd2)) := (by first | exact HB.out | exact pw_below_drewN HB.out _); (with_reducible refine (CheckDue_any k gC seg s (k1 : Int) false _ AI.out.1 AI.out.2.1 AI.out.2.2 hxC AD.out).mono ?_); rintro e wz ⟨rfl, hb⟩; have z1 := Aside0.mk (blk_below hxC hb); have z2 := Aside0.mk (blk_below hxG hb); have z3 := Aside0.mk (blk_below hxS hb); have z4 := Aside0.mk (below_step hxB hb); clear HC HG HS HB hb hcg hcell hxC hxG hxS hxB; have HC := z1; have HG := z2; have HS := z3; have HB := z4; clear z1 z2 z3 z4))
              all_goals
                go_ret2
                exact ⟨rfl, HB.out⟩
        · clear hi
          have c5 : ((k1 : Int) == 5) = false := beq_eq_false_iff_ne.mpr (by omega)
          clear e5
          cases hb3 : ((k1 : Int) == 3)
          all_goals
            have AD := Aside0.mk hd
            clear hd
            cases d with
            | true =>
              rw [if_pos rfl] at H
              have AH := Aside0.mk H
              clear H
              go_wp2_with (first  | (go_at_call 202; have hxC : (wr).heap[gC]? = some (ckO s) := HC.out; have hxG : (wr).heap[gG]? = some (grO gC) := HG.out; have hxS : (wr).heap[ad.block]? = some (.cells cur 9 (0, 0)) := HS.out; have hxB : Below W.heap.size W (wr) := (by first | exact HB.out | exact pw_below_drewN HB.out _); (with_reducible refine (CheckDue_any k gC seg s (k1 : Int) true _ AI.out.1 AI.out.2.1 AI.out.2.2 hxC AD.out).mono ?_); rintro e wz ⟨rfl, hb⟩; have z1 := Aside0.mk (blk_below hxC hb); have z2 := Aside0.mk (blk_below hxG hb); have z3 := Aside0.mk (blk_below hxS hb); have z4 := Aside0.mk (below_step hxB hb); clear HC HG HS HB hb hcg hcell hxC hxG hxS hxB; have HC := z1; have HG := z2; have HS := z3; have HB := z4; clear z1 z2 z3 z4))
              all_goals
                go_roundg k1
                case measure => omega
                case rel => exact ⟨rfl, rfl, ⟨by omega⟩, AH, HG, HC, HS, HB⟩
            | false =>
              rw [if_neg (by decide)] at H
              cases H
              go_wp2_with (first  | (go_at_call 202; have hxC : (wr).heap[gC]? = some (ckO s) := HC.out; have hxG : (wr).heap[gG]? = some (grO gC) := HG.out; have hxS : (wr).heap[ad.block]? = some (.cells cur 9 (0, 0)) := HS.out; have hxB : Below W.heap.size W (wr) := (by first | exact HB.out | exact pw_below_drewN HB.out _); (with_reducible refine (CheckDue_any k gC seg s (k1 : Int) false _ AI.out.1 AI.out.2.1 AI.out.2.2 hxC AD.out).mono ?_); rintro e wz ⟨rfl, hb⟩; have z1 := Aside0.mk (blk_below hxC hb); have z2 := Aside0.mk (blk_below hxG hb); have z3 := Aside0.mk (blk_below hxS hb); have z4 := Aside0.mk (below_step hxB hb); clear HC HG HS HB hb hcg hcell hxC hxG hxS hxB; have HC := z1; have HG := z2; have HS := z3; have HB := z4; clear z1 z2 z3 z4))
              all_goals
                go_ret2
                exact ⟨rfl, HB.out⟩
end Go.Proofs.YtjpcdkhapeejjaaGreatDoor.A
