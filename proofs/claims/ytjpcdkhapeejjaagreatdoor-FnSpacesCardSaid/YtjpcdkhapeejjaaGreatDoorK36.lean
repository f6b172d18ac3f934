/- Steps of the proof of the law: contracts of functions of the given program, and plain lemmas about what they compute.
Conditions: none beyond those that each theorem names. -/
import Derived.Test.YtjpcdkhapeejjaaGreatDoorK35
set_option linter.unusedVariables false
set_option linter.unusedSimpArgs false
open Go.RowKit Go.Proofs.YtjpcdkhapeejjaaGreatDoorW.PrintWords Go.Proofs.YtjpcdkhapeejjaaGreatDoorW.PrintLast Go.Proofs.YtjpcdkhapeejjaaGreatDoorW.PrintMore
namespace Go.Proofs.YtjpcdkhapeejjaaGreatDoor.A
open Cal
set_option maxRecDepth 100000
attribute [local go_sem] hset_drewN halloc_drewN
set_option maxHeartbeats 4000000 in
theorem appendInt2 (v : Value) (xs : List Int) (u : Int) (w0 W : World) (h0 : 0 ≤ u) (h1 : u ≤ 99) (hO : Buf w0 W v xs) (hB : Below w0.heap.size w0 W) (hl : xs.length ≤ 40) :
    Calls Tryz.prog 140 #[v, .int .i64 u, .int .i64 2] W fun e w' => ∃ v' : Value, e = .returned v' ∧ Buf w0 w' v' (xs ++ [48 + u / 10, 48 + u % 10]) ∧ Below w0.heap.size w0 w' := by
  have e1 : IntKind.u64.wrap u = u := by unfold IntKind.wrap; simp [IntKind.bits, IntKind.signed]; omega
  have d0 : decide (u < 0) = false := decide_eq_false (by omega)
  have d1 : decide (u < 100) = true := decide_eq_true (by omega)
  have HU := Aside0.mk (show 0 ≤ u ∧ u ≤ 99 from ⟨h0, h1⟩)
  have q1 : IntKind.u64.wrap (u.tdiv 10) = u / 10 := tdiv_n u 10 h0 (by omega) (by decide)
  have q2 : u.tmod 10 = u % 10 := Int.tmod_eq_emod_of_nonneg h0
  clear h0 h1
  have HO := Aside0.mk hO
  have HB := Aside0.mk hB
  have HL := Aside0.mk hl
  clear hO hB hl
  go_enter Tryz.func140, Tryz.ntmps140
  go_wp2_with (first
    | (go_at_call 157; (with_reducible refine (digit_calls (u / 10) _ (by have := HU.out; omega) (by have := HU.out; omega)).mono ?_); rintro e w1 ⟨rfl, rfl⟩)
    | (go_at_call 157; (with_reducible refine (digit_calls (u % 10) _ (by have := HU.out; omega) (by have := HU.out; omega)).mono ?_); rintro e w1 ⟨rfl, rfl⟩)
    | ((with_reducible refine gate_builtin (b := .append) (xs := #[.tmp 31, .tmp 40]) rfl ?_); at_builtin; refine buf_row (w0 := w0) rfl (.tmp 31) (.tmp 40) rfl v xs [48 + u / 10, 48 + u % 10] _ _ _ rfl rfl ?aO ?aC ?aB ?aL ?_; (case aO => exact HO.out.alloc _); (case aC => exact C_row _ _ _ 5 (0, 0) [48 + u / 10, 48 + u % 10] (heap_alloc_new _ _) rfl (by simp)); (case aB => exact below_alloc HB.out _); (case aL => have := HL.out; omega); intro v1 w9 ho hb))
  go_ret
  exact ⟨_, rfl, ho, hb⟩
set_option maxHeartbeats 4000000 in
theorem appendInt4 (v : Value) (xs : List Int) (u : Int) (w0 W : World) (h0 : 0 ≤ u) (h1 : u ≤ 9999) (hO : Buf w0 W v xs) (hB : Below w0.heap.size w0 W) (hl : xs.length ≤ 40) :
    Calls Tryz.prog 140 #[v, .int .i64 u, .int .i64 4] W fun e w' => ∃ v' : Value, e = .returned v' ∧ Buf w0 w' v' (xs ++ [48 + u / 1000, 48 + u / 100 % 10, 48 + u / 10 % 10, 48 + u % 10]) ∧ Below w0.heap.size w0 w' := by
  have e1 : IntKind.u64.wrap u = u := by unfold IntKind.wrap; simp [IntKind.bits, IntKind.signed]; omega
  have d0 : decide (u < 0) = false := decide_eq_false (by omega)
  have d1 : decide (u < 10000) = true := decide_eq_true (by omega)
  have HU := Aside0.mk (show 0 ≤ u ∧ u ≤ 9999 from ⟨h0, h1⟩)
  have q1 : IntKind.u64.wrap (u.tdiv 10) = u / 10 := tdiv_n u 10 h0 (by omega) (by decide)
  have q2 : u.tmod 10 = u % 10 := Int.tmod_eq_emod_of_nonneg h0
  have q3 : IntKind.u64.wrap (u.tdiv 100) = u / 100 := tdiv_n u 100 h0 (by omega) (by decide)
  have q4 : IntKind.u64.wrap (u.tdiv 1000) = u / 1000 := tdiv_n u 1000 h0 (by omega) (by decide)
  have q5 : (u / 100).tmod 10 = u / 100 % 10 := Int.tmod_eq_emod_of_nonneg (by omega)
  have q6 : (u / 10).tmod 10 = u / 10 % 10 := Int.tmod_eq_emod_of_nonneg (by omega)
  clear h0 h1
  have HO := Aside0.mk hO
  have HB := Aside0.mk hB
  have HL := Aside0.mk hl
  clear hO hB hl
  go_enter Tryz.func140, Tryz.ntmps140
  go_wp2_with (first
    | (go_at_call 157; (with_reducible refine (digit_calls (u / 1000) _ (by have := HU.out; omega) (by have := HU.out; omega)).mono ?_); rintro e w1 ⟨rfl, rfl⟩)
    | (go_at_call 157; (with_reducible refine (digit_calls (u / 100 % 10) _ (by have := HU.out; omega) (by have := HU.out; omega)).mono ?_); rintro e w1 ⟨rfl, rfl⟩)
    | (go_at_call 157; (with_reducible refine (digit_calls (u / 10 % 10) _ (by have := HU.out; omega) (by have := HU.out; omega)).mono ?_); rintro e w1 ⟨rfl, rfl⟩)
    | (go_at_call 157; (with_reducible refine (digit_calls (u % 10) _ (by have := HU.out; omega) (by have := HU.out; omega)).mono ?_); rintro e w1 ⟨rfl, rfl⟩)
    | ((with_reducible refine gate_builtin (b := .append) (xs := #[.tmp 49, .tmp 68]) rfl ?_); at_builtin; refine buf_row (w0 := w0) rfl (.tmp 49) (.tmp 68) rfl v xs [48 + u / 1000, 48 + u / 100 % 10, 48 + u / 10 % 10, 48 + u % 10] _ _ _ rfl rfl ?aO ?aC ?aB ?aL ?_; (case aO => exact HO.out.alloc _); (case aC => exact C_row _ _ _ 5 (0, 0) [48 + u / 1000, 48 + u / 100 % 10, 48 + u / 10 % 10, 48 + u % 10] (heap_alloc_new _ _) rfl (by simp)); (case aB => exact below_alloc HB.out _); (case aL => have := HL.out; omega); intro v1 w9 ho hb))
  go_ret
  exact ⟨_, rfl, ho, hb⟩
end Go.Proofs.YtjpcdkhapeejjaaGreatDoor.A
