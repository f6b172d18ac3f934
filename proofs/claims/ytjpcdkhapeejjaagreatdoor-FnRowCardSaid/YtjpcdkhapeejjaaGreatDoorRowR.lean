/-
The law FnRow: for every expression and moment the call returns true, and the arguments and the listed table read as before. Written by wip/rowgen.py.
Conditions: the row's own (the listed variables start as the program's text lays them).
-/
import Derived.Test.YtjpcdkhapeejjaaGreatDoorRL
import Derived.Test.YtjpcdkhapeejjaaGreatDoorRows
import Derived.Test.YtjpcdkhapeejjaaGreatDoorTie
import Derived.Test.YtjpcdkhapeejjaaGreatDoorCards
import Derived.ProofKit
import Derived.OpenShut
import Derived.LaidMore
import Derived.Lay
import Derived.ChangeVars
import Derived.SevenTiedAt
import Derived.Stop.Joined
namespace Go.Proofs.YtjpcdkhapeejjaaGreatDoor.fnRow
open Go.ChangeShapes Go.WideShapes Go.ChangeAt Go.RowKit Go.Proofs.YtjpcdkhapeejjaaGreatDoor.A
set_option linter.unusedVariables false

theorem own : ownKnob Tryz.prog.godebug = none := by kernel_rfl
theorem laidOut : laidOutB Tryz.prog = true := by kernel_rfl
theorem gStd : Tryz.prog.globalNamed "loop.example/pub-ticksofcron/pub/gotime.std0x" = some 3 := by kernel_rfl
theorem tStd : (Tryz.prog.globals[3]?).map (·.type) = some 144 := by kernel_rfl
theorem var_below {W W' : World} {cs : Array Value} (hv : W.var? Tryz.prog "loop.example/pub-ticksofcron/pub/gotime.std0x" = some cs) (hlt : 3 < W.heap.size) (bel : Below W.heap.size W W') : W'.var? Tryz.prog "loop.example/pub-ticksofcron/pub/gotime.std0x" = some cs := by
  unfold World.var? at hv ⊢
  rw [gStd, Option.bind_some] at hv ⊢
  rw [bel.block 3 hlt]
  exact hv
theorem var_blk {W : World} {cs : Array Value} (hv : W.var? Tryz.prog "loop.example/pub-ticksofcron/pub/gotime.std0x" = some cs) : ∃ t fz, W.heap[3]? = some (.cells cs t fz) := by
  unfold World.var? at hv
  rw [gStd, Option.bind_some] at hv
  split at hv
  · rename_i c t fz hb
    cases hv
    exact ⟨t, fz, hb⟩
  · cases hv
set_option maxRecDepth 100000
theorem std_cells {W : World} {cs : Array Value} {f : Nat} {q : List MemPlace} (hd : DataW.trod (fun _ => ()) Tryz.prog W 0 (fun _ => true) false f 144 cs.toList = some (Rows.laid_loop_example_pub_ticksofcron_pub_gotime_std0x, q)) : cs = stdCells := by
  obtain ⟨xs, m, _, ex, hc, hl, hel⟩ := DataW.trod_array Tryz.underlying144 hd
  have c3 : Tryz.prog.cellsOf 3 = 1 := by kernel_rfl
  have c144 : Tryz.prog.cellsOf 144 = 6 := by kernel_rfl
  have hc6 : cs.toList.length = 6 := hc.trans c144
  obtain ⟨l⟩ := cs
  match l, hc6, xs, hl with
  | [a0, a1, a2, a3, a4, a5], _, [x0, x1, x2, x3, x4, x5], _ =>
    have g0 : DataW.trod (fun _ => ()) Tryz.prog W 0 (fun _ => true) false m 3 [a0] = some x0 := by simpa [c3] using hel 0 (by decide)
    have g1 : DataW.trod (fun _ => ()) Tryz.prog W 0 (fun _ => true) false m 3 [a1] = some x1 := by simpa [c3] using hel 1 (by decide)
    have g2 : DataW.trod (fun _ => ()) Tryz.prog W 0 (fun _ => true) false m 3 [a2] = some x2 := by simpa [c3] using hel 2 (by decide)
    have g3 : DataW.trod (fun _ => ()) Tryz.prog W 0 (fun _ => true) false m 3 [a3] = some x3 := by simpa [c3] using hel 3 (by decide)
    have g4 : DataW.trod (fun _ => ()) Tryz.prog W 0 (fun _ => true) false m 3 [a4] = some x4 := by simpa [c3] using hel 4 (by decide)
    have g5 : DataW.trod (fun _ => ()) Tryz.prog W 0 (fun _ => true) false m 3 [a5] = some x5 := by simpa [c3] using hel 5 (by decide)
    obtain ⟨n0, e0, f0, _⟩ := DataW.trod_int Tryz.underlying3 g0
    obtain ⟨n1, e1, f1, _⟩ := DataW.trod_int Tryz.underlying3 g1
    obtain ⟨n2, e2, f2, _⟩ := DataW.trod_int Tryz.underlying3 g2
    obtain ⟨n3, e3, f3, _⟩ := DataW.trod_int Tryz.underlying3 g3
    obtain ⟨n4, e4, f4, _⟩ := DataW.trod_int Tryz.underlying3 g4
    obtain ⟨n5, e5, f5, _⟩ := DataW.trod_int Tryz.underlying3 g5
    subst f0 f1 f2 f3 f4 f5
    simp only [Rows.laid_loop_example_pub_ticksofcron_pub_gotime_std0x, Prod.mk.injEq, DataW.agg.injEq, List.map_cons, List.map_nil, List.cons.injEq, DataW.lit.injEq, Lit.int.injEq, true_and, and_true] at ex e0 e1 e2 e3 e4 e5
    obtain ⟨⟨h0, h1, h2, h3, h4, h5⟩, _⟩ := ex
    subst h0 h1 h2 h3 h4 h5 e0 e1 e2 e3 e4 e5
    rfl
theorem std_at {W : World} (h : laidMetH Tryz.prog Rows.fnRowRow.laid W) : StdAt W := by
  rw [MakeChecks.laidMetH_plain _ _ _ (by kernel_rfl)] at h
  obtain ⟨ps, ⟨_, _, _, _, _, _, _, _, _, _, ⟨_, _, _, _, _, _, _, _, _, _, ⟨_, _, _, _, _, _, _, _, _, _, ⟨_, _, _, _, _, _, _, _, _, _, ⟨g4, t4, cs4, f4, p4, q4, hg4, ht4, hv4, hd4, _⟩, _⟩, _⟩, _⟩, _⟩, _⟩ := h
  obtain rfl := Option.some.inj (gStd.symm.trans hg4)
  obtain rfl := Option.some.inj (tStd.symm.trans ht4)
  obtain rfl := std_cells hd4
  exact var_blk hv4

set_option maxRecDepth 100000 in
theorem lifted (os : Os) (started : os.Started) (H : Type) (enc : TypeId × Value → H) :
    ReturnsInHanded {} Tryz.checked os 9 .any (fun w args => (Rows.fnRowSpec.pre enc Tryz.prog Tryz.f9 [] false w args ∧ laidMetH Tryz.prog Rows.fnRowRow.laid w) ∧ sizedMet enc Tryz.prog Tryz.f9 (OpenSpec.ofChange Rows.fnRowSpec) false w args)
      (Rows.fnRowSpec.post enc Tryz.prog Tryz.f9 false true false false) := by
  refine returnsInHanded_of_change_and (C := Tryz.checked) (X := fun w _ => laidMetH Tryz.prog Rows.fnRowRow.laid w) (fun _ _ _ hh h => h.of_heap hh) own started (by kernel_rfl) Tryz.func9
    (ChangeSpec.witness_shaped (enc := enc) (C := Tryz.checked) (os := os) (X := fun w _ => laidMetH Tryz.prog Rows.fnRowRow.laid w) false (World.laidAll Tryz.prog os Rows.fnRowRow.laid) #[.agg #[.slice none 0 0, .bool false], .agg #[.int .i64 0, .int .i64 0, .int .i64 0, .int .i64 0, .int .i64 0, .int .i64 0], .int .i64 0] 8 (World.laidAll_os _ _ _)
      (World.shaped_of_ZipB (by kernel_rfl) (by kernel_rfl)) (by kernel_rfl) (by kernel_rfl) (by kernel_rfl)
      (by rw [MakeChecks.laidMetH_plain _ _ _ (by kernel_rfl)]; exact laidMet_laidAll _ (by kernel_rfl) (by kernel_rfl))) ?_
  intro W base args ds gs before hval0 hW _ _ hL _
  have hval : ∀ (j : Nat) t v, Tryz.f9.params[j]? = some t → args[j]? = some v → Value.okWide Tryz.prog W .any base t v := hval0
  have hW' := hW
  obtain ⟨p, q, hA0, hV0, rfl, hfz, hnd⟩ := hW
  have hA : DataW.TrodAll enc Tryz.prog W 0 (fun _ => true) true Tryz.f9.params.toList args.toList ds p := hA0
  have hV : DataW.TrodVars enc Tryz.prog W (fun _ => true) ["loop.example/pub-ticksofcron/pub/gotime.std0x"] gs q := hV0
  rw [Tryz.params9] at hA hval
  obtain ⟨v0, vs0, d0, ds0, p0, q0, hargs, rfl, rfl, h0, r0⟩ := trodAll_cons hA
  obtain ⟨v1, vs1, d1, ds1, p1, q1, rfl, rfl, rfl, h1, r1⟩ := trodAll_cons r0
  obtain ⟨v2, vs2, d2, ds2, p2, q2, rfl, rfl, rfl, h2, r2⟩ := trodAll_cons r1
  obtain ⟨rfl, rfl, rfl⟩ := trodAll_nil r2
  obtain rfl : args = #[v0, v1, v2] := by cases args; simp_all
  obtain ⟨g, t, cs, fuel, dg, pg, rfl, hg, ht, hvar, hd, rfl⟩ := trodVars_one hV
  obtain rfl := Option.some.inj (gStd.symm.trans hg)
  obtain rfl := Option.some.inj (tStd.symm.trans ht)
  obtain ⟨A, cap, l, a, rfl, hcap, hC⟩ := expr_open (hval 0 24 v0 rfl rfl) h0
  obtain ⟨y, m, dd, hh, mi, se, rfl⟩ := mom_open (hval 1 26 v1 rfl rfl) h1
  obtain ⟨a2, rfl, rfl, rfl, hwf⟩ := open_int Tryz.underlying3 (hval 2 3 v2 rfl rfl) h2
  obtain ⟨t3, fz3, hb3⟩ := var_blk hvar
  have hlt3 : 3 < W.heap.size := (Array.getElem?_eq_some_iff.1 hb3).1
  have lt0 : ∀ x ∈ p0, x.block < W.heap.size := by obtain ⟨n, hn⟩ := h0; exact DataW.trod_lt n _ _ _ hn
  have lt1 : ∀ x ∈ p1, x.block < W.heap.size := by obtain ⟨n, hn⟩ := h1; exact DataW.trod_lt n _ _ _ hn
  have ltg : ∀ x ∈ pg, x.block < W.heap.size := DataW.trod_lt fuel _ _ _ hd
  clear hA0 hV0 hval0
  refine (row_all l a y m dd hh mi se a2 A cap W (std_at hL) hC hcap).mono fun e W' ⟨he, bel⟩ => ?_
  subst he
  have hv' := var_below hvar hlt3 bel
  obtain ⟨f', hf'⟩ := Below.trod laidOut (by kernel_rfl) (of_decide_eq_true (by kernel_rfl)) (show DataW.Trod enc Tryz.prog W 0 (fun _ => true) true 144 (.agg cs) dg pg from ⟨fuel, hd⟩) bel ltg
  have e1 : Rows.fnRowSpec.fn H ([d0, d1, .lit (.int .i64 a2)] ++ [dg]) = { results := [.lit (.bool true)], args := [d0, d1, .lit (.int .i64 a2)], vars := [dg] } := rfl
  refine ⟨_, rfl, _, _, _, [], p0 ++ (p1 ++ ([] ++ [])), MemPlace.row ⟨3, 0, none⟩ cs.size ++ pg, hW', ?_, ?_, ?_, bel.frame _, fun h => by cases h⟩
  · rw [e1]; exact trodAll_mk1 (shut_bool Tryz.underlying4 _)
  · rw [e1]; exact trodAll_cons_mk (Below.trod laidOut (by kernel_rfl) (of_decide_eq_true (by kernel_rfl)) h0 bel lt0) (trodAll_cons_mk (Below.trod laidOut (by kernel_rfl) (of_decide_eq_true (by kernel_rfl)) h1 bel lt1) (trodAll_cons_mk (shut_int Tryz.underlying3 hwf) trodAll_mk0))
  · rw [e1]; exact trodVars_mk1 gStd tStd hv' hf'
theorem fnRow_holds : Rows.FnRowSaid :=
  OpenClaim.holds_of_wide 9 Tryz.f9 rfl rfl rfl rfl rfl rfl rfl ⟨rfl, rfl, rfl, rfl, rfl⟩ rfl rfl rfl rfl rfl (by kernel_rfl) Tryz.func9 (by kernel_rfl)
    (of_decide_eq_true (by kernel_rfl)) (by unfold Func.isWrapper; first | (rw [if_pos (by decide +kernel)]; kernel_rfl) | (rw [if_neg (by decide +kernel)]; exact ⟨rfl, rfl⟩))
    (fun os started H enc _ => lifted os started H enc)
/-- The tied card. -/
theorem fnRow_card : Rows.FnRowCardSaid :=
  Claim7.holds_tied_plain_at .later [] [.data, .data, .data, .data, .data, .sentinel, .sentinel, .pinned, .pinned] true (true, "ea97ff9f9931305b571885e359e89615ac6fe59bfc46f6a86a872bd3c828f26c") true fnRow_holds (fun _ h => by cases h) (by kernel_rfl) (fun _ h => by cases h) fnRow_row_tie rfl ⟨rfl, rfl⟩ (by kernel_rfl) rfl
    (fun f fn hf hfn => by
      obtain rfl : f = 9 := Option.some.inj ((show Tryz.prog.funcNamed "loop.example/pub-ticksofcron/laws.FnRow" = some 9 by kernel_rfl).symm.trans hf) |>.symm
      obtain rfl : fn = Tryz.f9 := (Option.some.inj (Tryz.func9.symm.trans hfn)).symm
      exact ⟨by kernel_rfl, fun j t ht => by
        rw [Tryz.params9] at ht
        have hm : t ∈ [24, 26, 3] := by simpa using Array.mem_of_getElem? ht
        have hall : ([24, 26, 3].all fun u => !Tryz.prog.wantsStandIn u) = true := by kernel_rfl
        exact (show Tryz.prog.wantsStandIn t = false by simpa using List.all_eq_true.1 hall t hm)⟩)
    (by kernel_rfl)
#print axioms fnRow_card
end Go.Proofs.YtjpcdkhapeejjaaGreatDoor.fnRow
