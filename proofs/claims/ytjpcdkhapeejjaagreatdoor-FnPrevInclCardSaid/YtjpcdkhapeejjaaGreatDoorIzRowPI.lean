/-
The law FnPrevIncl: for every expression and moment the call returns true, and the arguments and the listed table read as before. Written by wip/rowgen.py.
Conditions: the row's own (the listed variables start as the program's text lays them).
-/
import Derived.Test.YtjpcdkhapeejjaaGreatDoorRows
import Derived.Test.YtjpcdkhapeejjaaGreatDoorTie
import Derived.Test.YtjpcdkhapeejjaaGreatDoorCards
import Derived.ProofKit
import Derived.OpenShut
import Derived.LaidMore
import Derived.Lay
import Derived.ChangeVars
import Derived.SevenTiedAt
import Derived.Stop.Joined
import Derived.Test.YtjpcdkhapeejjaaGreatDoorI00
import Derived.Test.YtjpcdkhapeejjaaGreatDoorP05
set_option linter.unusedVariables false
set_option linter.unusedSimpArgs false
section
namespace Go.Proofs.YtjpcdkhapeejjaaGreatDoor.fnPrevIncl
open Go.ChangeShapes Go.WideShapes Go.ChangeAt Go.RowKit Go.Proofs.YtjpcdkhapeejjaaGreatDoor.A
/-- The plain law. -/
theorem FnPrevIncl_pure (l : List (List S53)) (a : Bool) (y m d h mi se : Int) : ∃ k, laws_FnPrevIncl.f k l a y m d h mi se = some true := by
  obtain ⟨K, hK⟩ := prev_pure true l a y m d h mi se (fun k => laws_FnPrevIncl.f k l a y m d h mi se) (fun k => rfl)
  exact ⟨K, hK K (Nat.le_refl _)⟩
theorem own : ownKnob Tryz.prog.godebug = none := by kernel_rfl
theorem laidOut : laidOutB Tryz.prog = true := by kernel_rfl
theorem gStd : Tryz.prog.globalNamed "loop.example/pub-ticksofcron/pub/gotime.std0x" = some 3 := by kernel_rfl
theorem tStd : (Tryz.prog.globals[3]?).map (·.type) = some 144 := by kernel_rfl
theorem var_below {W W' : World} {cs : Array Value} (hv : W.var? Tryz.prog "loop.example/pub-ticksofcron/pub/gotime.std0x" = some cs) (hlt : 3 < W.heap.size) (bel : Below W.heap.size W W') : W'.var? Tryz.prog "loop.example/pub-ticksofcron/pub/gotime.std0x" = some cs := by
  unfold World.var? at hv ⊢
  rw [gStd, Option.bind_some] at hv ⊢
  rw [bel.block 3 hlt]
  exact hv
theorem var_blk {W : World} {cs : Array Value} (hv : W.var? Tryz.prog "loop.example/pub-ticksofcron/pub/gotime.std0x" = some cs) : ∃ t fz, W.heap[3]? = some (.cells cs t fz) := by
  unfold World.var? at hv
  rw [gStd, Option.bind_some] at hv
  split at hv
  · rename_i c t fz hb
    cases hv
    exact ⟨t, fz, hb⟩
  · cases hv
set_option maxRecDepth 100000 in
theorem lifted (os : Os) (started : os.Started) (H : Type) (enc : TypeId × Value → H) :
    ReturnsInHanded {} Tryz.checked os 6 .any (fun w args => (Rows.fnPrevInclSpec.pre enc Tryz.prog Tryz.f6 [] false w args ∧ laidMetH Tryz.prog Rows.fnPrevInclRow.laid w) ∧ sizedMet enc Tryz.prog Tryz.f6 (OpenSpec.ofChange Rows.fnPrevInclSpec) false w args)
      (Rows.fnPrevInclSpec.post enc Tryz.prog Tryz.f6 false true false false) := by
  refine returnsInHanded_of_change_and (C := Tryz.checked) (X := fun w _ => laidMetH Tryz.prog Rows.fnPrevInclRow.laid w) (fun _ _ _ hh h => h.of_heap hh) own started (by kernel_rfl) Tryz.func6
    (ChangeSpec.witness_shaped (enc := enc) (C := Tryz.checked) (os := os) (X := fun w _ => laidMetH Tryz.prog Rows.fnPrevInclRow.laid w) false (World.laidAll Tryz.prog os Rows.fnPrevInclRow.laid) #[.agg #[.slice none 0 0, .bool false], .agg #[.int .i64 0, .int .i64 0, .int .i64 0, .int .i64 0, .int .i64 0, .int .i64 0]] 8 (World.laidAll_os _ _ _)
      (World.shaped_of_ZipB (by kernel_rfl) (by kernel_rfl)) (by kernel_rfl) (by kernel_rfl) (by kernel_rfl)
      (by rw [MakeChecks.laidMetH_plain _ _ _ (by kernel_rfl)]; exact laidMet_laidAll _ (by kernel_rfl) (by kernel_rfl))) ?_
  intro W base args ds gs before hval0 hW _ _ hL _
  have hval : ∀ (j : Nat) t v, Tryz.f6.params[j]? = some t → args[j]? = some v → Value.okWide Tryz.prog W .any base t v := hval0
  have hW' := hW
  obtain ⟨p, q, hA0, hV0, rfl, hfz, hnd⟩ := hW
  have hA : DataW.TrodAll enc Tryz.prog W 0 (fun _ => true) true Tryz.f6.params.toList args.toList ds p := hA0
  have hV : DataW.TrodVars enc Tryz.prog W (fun _ => true) ["loop.example/pub-ticksofcron/pub/gotime.std0x"] gs q := hV0
  rw [Tryz.params6] at hA hval
  obtain ⟨v0, vs0, d0, ds0, p0, q0, hargs, rfl, rfl, h0, r0⟩ := trodAll_cons hA
  obtain ⟨v1, vs1, d1, ds1, p1, q1, rfl, rfl, rfl, h1, r1⟩ := trodAll_cons r0
  obtain ⟨rfl, rfl, rfl⟩ := trodAll_nil r1
  obtain rfl : args = #[v0, v1] := by cases args; simp_all
  obtain ⟨g, t, cs, fuel, dg, pg, rfl, hg, ht, hvar, hd, rfl⟩ := trodVars_one hV
  obtain rfl := Option.some.inj (gStd.symm.trans hg)
  obtain rfl := Option.some.inj (tStd.symm.trans ht)
  obtain ⟨A, cap, l, a, rfl, hcap, hC⟩ := expr_open (hval 0 24 v0 rfl rfl) h0
  obtain ⟨y, m, dd, hh, mi, se, rfl⟩ := mom_open (hval 1 26 v1 rfl rfl) h1
  obtain ⟨t3, fz3, hb3⟩ := var_blk hvar
  have hlt3 : 3 < W.heap.size := (Array.getElem?_eq_some_iff.1 hb3).1
  have lt0 : ∀ x ∈ p0, x.block < W.heap.size := by obtain ⟨n, hn⟩ := h0; exact DataW.trod_lt n _ _ _ hn
  have lt1 : ∀ x ∈ p1, x.block < W.heap.size := by obtain ⟨n, hn⟩ := h1; exact DataW.trod_lt n _ _ _ hn
  have ltg : ∀ x ∈ pg, x.block < W.heap.size := DataW.trod_lt fuel _ _ _ hd
  clear hA0 hV0 hval0
  obtain ⟨k, hk⟩ := FnPrevIncl_pure l a y m dd hh mi se
  refine (laws_FnPrevIncl.calls k A cap l a y m dd hh mi se true W hC hcap hk).mono fun e W' ⟨he, bel⟩ => ?_
  subst he
  have hv' := var_below hvar hlt3 bel
  obtain ⟨f', hf'⟩ := Below.trod laidOut (by kernel_rfl) (of_decide_eq_true (by kernel_rfl)) (show DataW.Trod enc Tryz.prog W 0 (fun _ => true) true 144 (.agg cs) dg pg from ⟨fuel, hd⟩) bel ltg
  have e1 : Rows.fnPrevInclSpec.fn H ([d0, d1] ++ [dg]) = { results := [.lit (.bool true)], args := [d0, d1], vars := [dg] } := rfl
  refine ⟨_, rfl, _, _, _, [], p0 ++ (p1 ++ []), MemPlace.row ⟨3, 0, none⟩ cs.size ++ pg, hW', ?_, ?_, ?_, bel.frame _, fun h => by cases h⟩
  · rw [e1]; exact trodAll_mk1 (shut_bool Tryz.underlying4 _)
  · rw [e1]; exact trodAll_cons_mk (Below.trod laidOut (by kernel_rfl) (of_decide_eq_true (by kernel_rfl)) h0 bel lt0) (trodAll_cons_mk (Below.trod laidOut (by kernel_rfl) (of_decide_eq_true (by kernel_rfl)) h1 bel lt1) trodAll_mk0)
  · rw [e1]; exact trodVars_mk1 gStd tStd hv' hf'
theorem fnPrevIncl_holds : Rows.FnPrevInclSaid :=
  OpenClaim.holds_of_wide 6 Tryz.f6 rfl rfl rfl rfl rfl rfl rfl ⟨rfl, rfl, rfl, rfl, rfl⟩ rfl rfl rfl rfl rfl (by kernel_rfl) Tryz.func6 (by kernel_rfl)
    (of_decide_eq_true (by kernel_rfl)) (by unfold Func.isWrapper; first | (rw [if_pos (by decide +kernel)]; kernel_rfl) | (rw [if_neg (by decide +kernel)]; exact ⟨rfl, rfl⟩))
    (fun os started H enc _ => lifted os started H enc)
/-- The tied card. -/
theorem fnPrevIncl_card : Rows.FnPrevInclCardSaid :=
  Claim7.holds_tied_plain_at .later [] [.data, .data, .data, .data, .data, .sentinel, .sentinel, .pinned, .pinned] true (true, "ea97ff9f9931305b571885e359e89615ac6fe59bfc46f6a86a872bd3c828f26c") true fnPrevIncl_holds (fun _ h => by cases h) (by kernel_rfl) (fun _ h => by cases h) fnPrevIncl_row_tie rfl ⟨rfl, rfl⟩ (by kernel_rfl) rfl
    (fun f fn hf hfn => by
      obtain rfl : f = 6 := Option.some.inj ((show Tryz.prog.funcNamed "loop.example/pub-ticksofcron/laws.FnPrevIncl" = some 6 by kernel_rfl).symm.trans hf) |>.symm
      obtain rfl : fn = Tryz.f6 := (Option.some.inj (Tryz.func6.symm.trans hfn)).symm
      exact ⟨by kernel_rfl, fun j t ht => by
        rw [Tryz.params6] at ht
        have hm : t ∈ [24, 26] := by simpa using Array.mem_of_getElem? ht
        have hall : ([24, 26].all fun u => !Tryz.prog.wantsStandIn u) = true := by kernel_rfl
        exact (show Tryz.prog.wantsStandIn t = false by simpa using List.all_eq_true.1 hall t hm)⟩)
    (by kernel_rfl)
#print axioms fnPrevIncl_card
end Go.Proofs.YtjpcdkhapeejjaaGreatDoor.fnPrevIncl
end
