/- Steps of the proof of the law: contracts of functions of the given program, and plain lemmas about what they compute.
Conditions: none beyond those that each theorem names. -/
import Derived.Test.YtjpcdkhapeejjaaGreatDoorK25
import Derived.Test.YtjpcdkhapeejjaaGreatDoorK32
set_option linter.unusedVariables false
set_option linter.unusedSimpArgs false
open Go.RowKit Go.Proofs.YtjpcdkhapeejjaaGreatDoorW.PrintWords Go.Proofs.YtjpcdkhapeejjaaGreatDoorW.PrintLast Go.Proofs.YtjpcdkhapeejjaaGreatDoorW.PrintMore
namespace Go.Proofs.YtjpcdkhapeejjaaGreatDoor.A
open Cal
set_option maxRecDepth 100000
attribute [local go_sem] hset_drewN halloc_drewN
theorem get_ne {L : List (Nat × Obj)} {i j : Nat} {p q : Nat × Obj} (hij : i ≠ j) (h : L[j]? = some p) : (L.set i q)[j]? = some p := by
  rw [List.getElem?_set_ne hij]; exact h
theorem gr_cell {W : World} {gG gC : Nat} (h : W.heap[gG]? = some (grO gC)) : W.cell? ⟨gG, 0, none⟩ = some (.iface 97 (.pointer (some ⟨gC, 0, none⟩))) := by
  unfold World.cell?; rw [show W.heap[(⟨gG, 0, none⟩ : Addr).block]? = some (grO gC) from h]; rfl
set_option maxHeartbeats 8000000 in
theorem IsDue_any (k gG gC gr i j m : Nat) (ex : ByteArray) (segs : List ByteArray) (s s0 : Int) (b : Bool) (L : List (Nat × Obj)) (w W : World) (hm : Mem w L W)
    (hC : L[i]? = some (gC, ckO s0)) (hG : L[j]? = some (gG, grO gC)) (hR : L[m]? = some (gr, tb s)) (hij : i ≠ j) (him : i ≠ m)
    (hs : gronx_Segments.f k ex = some (segs, none)) (hn : 0 < segs.length) (hl : segs.length ≤ 7) (h : sdue k segs s segs.length = some b) :
    Calls Tryz.prog 37 #[.pointer (some ⟨gG, 0, none⟩), .string ex, .slice (some ⟨gr, 0, none⟩) 1 1] W fun e w' => e = .returned (.tuple #[.bool b, .nilIface]) ∧ Mem w (L.set i (gC, ckO s)) w' := by
  have hu63 := Tryz.underlying63
  have hu65 := Tryz.underlying65
  have HM := Aside0.mk hm
  have HC := Aside0.mk hC
  have HG := Aside0.mk hG
  have HR := Aside0.mk hR
  have HG2 := Aside0.mk (get_ne (q := (gC, ckO s)) hij hG)
  have HR2 := Aside0.mk (get_ne (q := (gC, ckO s)) him hR)
  have HC2 := Aside0.mk (get_set (gC, ckO s) hC)
  have HSg := Aside0.mk hs
  have HNn := Aside0.mk hn
  have HL7 := Aside0.mk hl
  have HD := Aside0.mk h
  clear hm hC hG hR hij him hs hn hl h
  have c0 := gr_cell (HM.out.at_ j HG.out)
  obtain ⟨⟨r0, r1, r2⟩, _, _⟩ := HM.out.c3 m (g := gr) (t := 63) (a := .int .u64 0) (b := .int .i64 s) (c := .pointer none) HR.out
  go_enter Tryz.func37, Tryz.ntmps37
  go_upto_region 3 with fail
  go_cut [6, 7] (fun s6 s7 wx => Aside0 (Mem w (L.set i (gC, ckO s)) wx))
  case first =>
    go_region_held3 (fun w' => w'.cell? ⟨gG, 0, none⟩ = some (.iface 97 (.pointer (some ⟨gC, 0, none⟩))) ∧ w'.cell? ⟨gr, 0, none⟩ = some (.int .u64 0) ∧ w'.cell? ⟨gr, 1, none⟩ = some (.int .i64 s) ∧ w'.cell? ⟨gr, 2, none⟩ = some (.pointer none))
      (first | exact ⟨gr_cell (HM.out.at_ j HG.out), (HM.out.c3 m (g := gr) (t := 63) (a := .int .u64 0) (b := .int .i64 s) (c := .pointer none) HR.out).1⟩ | exact ⟨gr_cell (HM.out.drew.at_ j HG.out), (HM.out.drew.c3 m (g := gr) (t := 63) (a := .int .u64 0) (b := .int .i64 s) (c := .pointer none) HR.out).1⟩ | exact ⟨gr_cell (HM.out.at_ j HG2.out), (HM.out.c3 m (g := gr) (t := 63) (a := .int .u64 0) (b := .int .i64 s) (c := .pointer none) HR2.out).1⟩ | exact ⟨gr_cell (HM.out.drew.at_ j HG2.out), (HM.out.drew.c3 m (g := gr) (t := 63) (a := .int .u64 0) (b := .int .i64 s) (c := .pointer none) HR2.out).1⟩)
      (first
        | (go_at_call 204; (first | (with_reducible refine (SetRef_any gC i s s0 _ w _ HM.out HC.out).mono ?_) | (with_reducible refine (SetRef_any gC i s s0 _ w _ HM.out.drew HC.out).mono ?_) | (with_reducible refine (SetRef_any gC i s s0 _ w _ (HM.out.drewN _) HC.out).mono ?_)); rintro e wz ⟨rfl, hmz⟩; clear HM; have HM := Aside0.mk hmz; clear hmz))
    all_goals (go_wp2_with fail; go_meet; first | exact HM | exact ⟨HM.out.drew⟩ | exact ⟨HM.out.drewN _⟩)
  case rest =>
    clear HM HC HG HR c0 r0 r1 r2
    have HM := hcut
    go_wp2_with (first
      | (go_at_call 44; ((with_reducible refine (gronx_Segments.calls k ex segs none _ HSg.out).mono ?_); rintro e wz ⟨v0, rfl, ho, hb⟩; obtain ⟨ad, cap, cur, rfl, hba, hS, hA⟩ := seg_at ho HNn.out; have HS := Aside0.mk hS; have HA := Aside0.mk hA; have HN := Aside0.mk (HM.out.step hb); clear HM hb hS hA ho; have HM := HN; clear HN; (try simp only [errW_none])))
      | (go_at_call 54; (with_reducible refine (SegmentsDue_any k gG gC cap ad cur segs s b _ (HM.out.at_ j HG2.out) (HM.out.at_ i HC2.out) HS.out HA.out HL7.out HD.out).mono ?_); rintro e wy ⟨rfl, hb⟩; have HN := Aside0.mk (HM.out.step hb); clear HM hb; have HM := HN; clear HN))
    go_ret2
    exact ⟨rfl, HM.out⟩
end Go.Proofs.YtjpcdkhapeejjaaGreatDoor.A
