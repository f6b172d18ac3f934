/- For the walks of the laws FnRow and FnSpaces: what is known of memory, structs compared, and the law's own comparison of two moments where both are there and alike. Conditions: those that each theorem names. -/
import Derived.Test.YtjpcdkhapeejjaaGreatDoorK45
namespace Go.Proofs.YtjpcdkhapeejjaaGreatDoor.A
open Go.RowKit Cal Go.Proofs.YtjpcdkhapeejjaaGreatDoorW.PrintWords Go.Proofs.YtjpcdkhapeejjaaGreatDoorW.PrintLast Go.Proofs.YtjpcdkhapeejjaaGreatDoorW.PrintMore
set_option linter.unusedVariables false
set_option linter.unusedSimpArgs false
theorem eqB26 (d : Nat) (w : World) (x0 x1 x2 x3 x4 x5 y0 y1 y2 y3 y4 y5 : Int) :
    (Op.equalIn (d + 2) 26 (.agg #[.int .i64 x0, .int .i64 x1, .int .i64 x2, .int .i64 x3, .int .i64 x4, .int .i64 x5]) (.agg #[.int .i64 y0, .int .i64 y1, .int .i64 y2, .int .i64 y3, .int .i64 y4, .int .i64 y5])).run Tryz.prog w = .ok (x0 == y0 && (x1 == y1 && (x2 == y2 && (x3 == y3 && (x4 == y4 && (x5 == y5)))))) w := by
  refine eqA_of Tryz.underlying26 (by kernel_rfl) ?_
  iterate 5 refine eqf_cons (by rfl) (by go_simp; rfl) (by go_simp; rfl) (by go_simp) ?_
  exact eqf_last (by rfl) (by go_simp; rfl) (by go_simp; rfl) (by go_simp)
theorem eqB33 (d : Nat) (w : World) (x0 x1 x2 x3 x4 x5 y0 y1 y2 y3 y4 y5 : Int) :
    (Op.equalIn (d + 2) 33 (.agg #[.int .i64 x0, .int .i64 x1, .int .i64 x2, .int .i64 x3, .int .i64 x4, .int .i64 x5]) (.agg #[.int .i64 y0, .int .i64 y1, .int .i64 y2, .int .i64 y3, .int .i64 y4, .int .i64 y5])).run Tryz.prog w = .ok (x0 == y0 && (x1 == y1 && (x2 == y2 && (x3 == y3 && (x4 == y4 && (x5 == y5)))))) w := by
  refine eqA_of Tryz.underlying33 (by kernel_rfl) ?_
  iterate 5 refine eqf_cons (by rfl) (by go_simp; rfl) (by go_simp; rfl) (by go_simp) ?_
  exact eqf_last (by rfl) (by go_simp; rfl) (by go_simp; rfl) (by go_simp)
attribute [local go_sem high] eqB33
theorem same_yes (y m d q mi se : Int) (w : World)
    (C14 : Aside0 (∀ W, Calls Tryz.prog 14 #[.agg #[.int .i64 y, .int .i64 m, .int .i64 d, .int .i64 q, .int .i64 mi, .int .i64 se]] W fun e w' => e = .returned (.agg #[.int .i64 y, .int .i64 m, .int .i64 d, .int .i64 q, .int .i64 mi, .int .i64 se]) ∧ Below W.heap.size W w')) :
    Calls Tryz.prog 17 #[.agg #[.int .i64 y, .int .i64 m, .int .i64 d, .int .i64 q, .int .i64 mi, .int .i64 se], .bool true, .agg #[.int .i64 y, .int .i64 m, .int .i64 d, .int .i64 q, .int .i64 mi, .int .i64 se], .bool true] w fun e w' => e = .returned (.bool true) ∧ Below w.heap.size w w' := by
  have hu26 := Tryz.underlying26
  have hu33 := Tryz.underlying33
  have HE := Aside0.mk (((Mem.start w).new (mt 26 y m d q mi se)).new (mt 33 y m d q mi se))
  rw [World.size_alloc] at HE
  have KS := Aside0.mk fun (W : World) (hm : Mem w [(w.heap.size + 1, mt 33 y m d q mi se), (w.heap.size, mt 26 y m d q mi se)] W) => (⟨mt_cells (hm.at_ 1 rfl), mt_cells (hm.at_ 0 rfl)⟩ : (W.cell? ⟨w.heap.size, 0, none⟩ = some (.int .i64 y) ∧ W.cell? ⟨w.heap.size, 1, none⟩ = some (.int .i64 m) ∧ W.cell? ⟨w.heap.size, 2, none⟩ = some (.int .i64 d) ∧ W.cell? ⟨w.heap.size, 3, none⟩ = some (.int .i64 q) ∧ W.cell? ⟨w.heap.size, 4, none⟩ = some (.int .i64 mi) ∧ W.cell? ⟨w.heap.size, 5, none⟩ = some (.int .i64 se)) ∧ W.cell? ⟨w.heap.size + 1, 0, none⟩ = some (.int .i64 y) ∧ W.cell? ⟨w.heap.size + 1, 1, none⟩ = some (.int .i64 m) ∧ W.cell? ⟨w.heap.size + 1, 2, none⟩ = some (.int .i64 d) ∧ W.cell? ⟨w.heap.size + 1, 3, none⟩ = some (.int .i64 q) ∧ W.cell? ⟨w.heap.size + 1, 4, none⟩ = some (.int .i64 mi) ∧ W.cell? ⟨w.heap.size + 1, 5, none⟩ = some (.int .i64 se))
  go_enter Tryz.func17, Tryz.ntmps17
  go_upto_region 1 with fail
  go_cut [8] (fun s8 wc => s8 = .bool true ∧ Aside0 (Below w.heap.size w wc))
  case first =>
    go_region_held3 (fun W => (W.cell? ⟨w.heap.size, 0, none⟩ = some (.int .i64 y) ∧ W.cell? ⟨w.heap.size, 1, none⟩ = some (.int .i64 m) ∧ W.cell? ⟨w.heap.size, 2, none⟩ = some (.int .i64 d) ∧ W.cell? ⟨w.heap.size, 3, none⟩ = some (.int .i64 q) ∧ W.cell? ⟨w.heap.size, 4, none⟩ = some (.int .i64 mi) ∧ W.cell? ⟨w.heap.size, 5, none⟩ = some (.int .i64 se)) ∧ W.cell? ⟨w.heap.size + 1, 0, none⟩ = some (.int .i64 y) ∧ W.cell? ⟨w.heap.size + 1, 1, none⟩ = some (.int .i64 m) ∧ W.cell? ⟨w.heap.size + 1, 2, none⟩ = some (.int .i64 d) ∧ W.cell? ⟨w.heap.size + 1, 3, none⟩ = some (.int .i64 q) ∧ W.cell? ⟨w.heap.size + 1, 4, none⟩ = some (.int .i64 mi) ∧ W.cell? ⟨w.heap.size + 1, 5, none⟩ = some (.int .i64 se))
      (first | with_reducible exact KS.out _ HE.out.drew | with_reducible exact KS.out _ HE.out)
      (first | (go_at_call 14; (with_reducible refine Calls.mono (C14.out _) ?_); rintro e wd ⟨rfl, hb⟩; (first | have HN := Aside0.mk (HE.out.step hb) | have HN := Aside0.mk (HE.out.drew.step hb) | have HN := Aside0.mk ((HE.out.drewN _).step hb)); clear HE hb; have HE := HN; clear HN))
    all_goals (go_wp2_with fail; go_meet; exact ⟨by simp, ⟨HE.out.below⟩⟩)
  case rest =>
  obtain ⟨rfl, HB⟩ := hcut
  go_wp2_with fail
  go_ret
  exact ⟨rfl, HB.out⟩
end Go.Proofs.YtjpcdkhapeejjaaGreatDoor.A
