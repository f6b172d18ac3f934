/- Steps of the proof of the law: contracts of functions of the given program, and plain lemmas about what they compute.
Conditions: none beyond those that each theorem names. -/
import Derived.Deep.Slices
import Derived.Lib.SmallJoins
import Derived.OpenShut
import Derived.Test.YtjpcdkhapeejjaaGreatDoorK02
import Derived.Test.YtjpcdkhapeejjaaGreatDoorK25
import Derived.Test.YtjpcdkhapeejjaaGreatDoorK42
import Derived.Test.YtjpcdkhapeejjaaGreatDoorK45
import Derived.Test.YtjpcdkhapeejjaaGreatDoorK47
import Derived.Test.YtjpcdkhapeejjaaGreatDoorK49
import Derived.Test.YtjpcdkhapeejjaaGreatDoorY3
set_option linter.unusedVariables false
set_option linter.unusedSimpArgs false
section
namespace Go.Proofs.YtjpcdkhapeejjaaGreatDoor.A
open Go.RowKit Cal Go.Proofs.YtjpcdkhapeejjaaGreatDoorW.PrintWords Go.Proofs.YtjpcdkhapeejjaaGreatDoorW.PrintLast Go.Proofs.YtjpcdkhapeejjaaGreatDoorW.PrintMore
structure GoodM (y m d h mi se : Int) : Prop where
  y0 : 1990 ≤ y
  y1 : y ≤ 2090
  m0 : 1 ≤ m
  m1 : m ≤ 12
  d0 : 1 ≤ d
  d1 : d ≤ dim y m
  h0 : 0 ≤ h
  h1 : h ≤ 23
  mi0 : 0 ≤ mi
  mi1 : mi ≤ 59
  s0 : 0 ≤ se
  s1 : se ≤ 59
theorem mgood_f (y m d h mi se : Int) : ∃ b, spec_MomentGood.f y m d h mi se = some b ∧ (b = true → GoodM y m d h mi se) := by
  unfold spec_MomentGood.f
  by_cases c1 : 1990 ≤ y
  case neg => rw [if_neg c1]; exact ⟨false, rfl, fun q => by cases q⟩
  by_cases c2 : y ≤ 2090
  case neg => rw [if_pos c1, if_neg c2]; exact ⟨false, rfl, fun q => by cases q⟩
  by_cases c3 : 1 ≤ m
  case neg => rw [if_pos c1, if_pos c2, if_neg c3]; exact ⟨false, rfl, fun q => by cases q⟩
  by_cases c4 : m ≤ 12
  case neg => rw [if_pos c1, if_pos c2, if_pos c3, if_neg c4]; exact ⟨false, rfl, fun q => by cases q⟩
  by_cases c5 : 1 ≤ d
  case neg => rw [if_pos c1, if_pos c2, if_pos c3, if_pos c4, if_neg c5]; exact ⟨false, rfl, fun q => by cases q⟩
  rw [if_pos c1, if_pos c2, if_pos c3, if_pos c4, if_pos c5, days_f2 y m (by omega) c3 c4, Option.bind_some]
  by_cases c6 : d ≤ dim y m
  case neg => rw [if_neg c6]; exact ⟨false, rfl, fun q => by cases q⟩
  by_cases c7 : 0 ≤ h
  case neg => rw [if_pos c6, if_neg c7]; exact ⟨false, rfl, fun q => by cases q⟩
  by_cases c8 : h ≤ 23
  case neg => rw [if_pos c6, if_pos c7, if_neg c8]; exact ⟨false, rfl, fun q => by cases q⟩
  by_cases c9 : 0 ≤ mi
  case neg => rw [if_pos c6, if_pos c7, if_pos c8, if_neg c9]; exact ⟨false, rfl, fun q => by cases q⟩
  by_cases c10 : mi ≤ 59
  case neg => rw [if_pos c6, if_pos c7, if_pos c8, if_pos c9, if_neg c10]; exact ⟨false, rfl, fun q => by cases q⟩
  by_cases c11 : 0 ≤ se
  case neg => rw [if_pos c6, if_pos c7, if_pos c8, if_pos c9, if_pos c10, if_neg c11]; exact ⟨false, rfl, fun q => by cases q⟩
  by_cases c12 : se ≤ 59
  case neg => rw [if_pos c6, if_pos c7, if_pos c8, if_pos c9, if_pos c10, if_pos c11, if_neg c12]; exact ⟨false, rfl, fun q => by cases q⟩
  rw [if_pos c6, if_pos c7, if_pos c8, if_pos c9, if_pos c10, if_pos c11, if_pos c12]
  exact ⟨true, rfl, fun _ => ⟨c1, c2, c3, c4, c5, c6, c7, c8, c9, c10, c11, c12⟩⟩
theorem GoodM.at_ {y m d h mi se : Int} (H : GoodM y m d h mi se) : ∃ s, mkS y m d h mi se = s ∧ yearS s = y ∧ monS s = m ∧ dayS s = d ∧ hourS s = h ∧ minS s = mi ∧ secS s = se ∧ lo0 + 34905600 ≤ s ∧ s + 250000000 ≤ hi0 ∧ MomIn y m d h mi se := by
  obtain ⟨y0, y1, m0, m1, d0, d1, h0, h1, mi0, mi1, s0, s1⟩ := H
  have hd := dim_bd y m m0 m1
  have f := mk_fields y m d h mi se (by omega) (by omega) ⟨m0, m1, d0, d1⟩ h0 h1 mi0 mi1 s0 s1
  have yf := ord_first y (by omega)
  have ym := year_mon y m m0 m1
  have od := ord_day1 y m d
  refine ⟨_, rfl, f.1, f.2.1, f.2.2.1, f.2.2.2.1, f.2.2.2.2.1, f.2.2.2.2.2, ?_, ?_, ⟨by omega, by omega, m0, m1, by omega, by omega, h0, h1, mi0, mi1, s0, s1⟩⟩
  · unfold lo0 mkS; omega
  · unfold hi0 mkS; omega
theorem kk_bd : 190000 ≤ KK := by unfold KK; decide
section
variable {f0 f1 f2 f3 f4 f5 : List S54}
theorem inext_f (h : GoodE f0 f1 f2 f3 f4 f5) (sec : Bool) (hs : sec = false → f0 = noSec) (n : Nat) (hn : n ≤ 10) (incl : Bool) (y m d hh mi se s t : Int) (hM : MomIn y m d hh mi se) (hms : mkS y m d hh mi se = s) (hI : InR s) (ht : InR t) (hk : tickOf KK false incl (segsOf f0 f1 f2 f3 f4 f5) s = some t) :
    impl_Next.f (strOfNums (joinW n (partsOf sec f0 f1 f2 f3 f4 f5))) y m d hh mi se incl = some (six t) := by
  have kk := kk_bd
  unfold impl_Next.f
  rw [seg_good h sec hs n hn KK (by omega), Option.bind_some, hms, if_pos ⟨rfl, rfl, hM, hI⟩, hk, Option.bind_some, if_pos ht]
  rfl
end
theorem cv_small {l : List (List S53)} (h : small l) : ∀ x ∈ cvE l, x.length ≤ 2147483647 := fun x hx => by
  unfold cvE at hx
  obtain ⟨y, hy, rfl⟩ := List.mem_map.1 hx
  rw [List.length_map]
  exact h.2 y hy
theorem asked_f (fs : List (List S54)) (sec : Bool) (hs : ∀ l ∈ fs, l.length ≤ 2147483647) (y m d h mi se : Int) : ∃ b, EvK (fun k => laws_asked.f k fs sec y m d h mi se) b ∧ (b = true → (∃ f0 f1 f2 f3 f4 f5, fs = fsOf f0 f1 f2 f3 f4 f5 ∧ GoodE f0 f1 f2 f3 f4 f5 ∧ (sec = false → f0 = noSec)) ∧ GoodM y m d h mi se) := by
  obtain ⟨b, e1, q1⟩ := ex_good fs sec hs
  obtain ⟨c, e2, q2⟩ := mgood_f y m d h mi se
  cases b with
  | false => exact ⟨false, EvK.bind (h := fun k (t146 : Bool) => if t146 = true then _ else some false) e1 ⟨0, fun k _ => rfl⟩, fun q => by cases q⟩
  | true =>
    refine ⟨c, EvK.bind (h := fun k (t146 : Bool) => if t146 = true then _ else some false) e1 ⟨0, fun k _ => ?_⟩, fun q => ⟨q1 rfl, q2 q⟩⟩
    show (if true = true then _ else _) = _
    rw [if_pos rfl]
    unfold laws_moment.f
    rw [Option.bind_some, e2]
    rfl
end Go.Proofs.YtjpcdkhapeejjaaGreatDoor.A
end
section
namespace Go.Proofs.YtjpcdkhapeejjaaGreatDoor.A
open Go.RowKit Cal Go.Proofs.YtjpcdkhapeejjaaGreatDoorW.PrintWords Go.Proofs.YtjpcdkhapeejjaaGreatDoorW.PrintLast Go.Proofs.YtjpcdkhapeejjaaGreatDoorW.PrintMore
theorem momin_of {t : Int} (h : InR t) : MomIn (yearS t) (monS t) (dayS t) (hourS t) (minS t) (secS t) := by
  have a := year_bd t h
  have b := mon_bd t
  have c := day_bd t
  refine ⟨a.1, a.2, b.1, b.2, by omega, by omega, ?_, ?_, ?_, ?_, ?_, ?_⟩ <;> first | (unfold hourS; omega) | (unfold minS; omega) | (unfold secS; omega)
end Go.Proofs.YtjpcdkhapeejjaaGreatDoor.A
end
section
namespace Go.Proofs.YtjpcdkhapeejjaaGreatDoor.A
open Go.ChangeShapes Go.WideShapes Go.RowKit Go.Proofs.YtjpcdkhapeejjaaGreatDoorW.PrintWords Go.Proofs.YtjpcdkhapeejjaaGreatDoorW.PrintLast Go.Proofs.YtjpcdkhapeejjaaGreatDoorW.PrintMore
set_option maxRecDepth 100000
section
variable {H : Type} {enc : TypeId × Value → H} {w : World} {base : Nat} {spare : Nat → Bool} {held : Bool}
theorem row_open {α : Type} (d : Kd α) {t e : TypeId} {fuel : Nat} {cs : List Value} {x : DataW H × List MemPlace} (ht : Tryz.prog.underlying t = some (.slice e)) (hC : Tryz.prog.cellsOf e = d.sz)
    (hel : ∀ (n : Nat) (c : List Value) (y : DataW H × List MemPlace), DataW.trod enc Tryz.prog w base spare held n e c = some y → ∃ z, d.K w z c) (h : DataW.trod enc Tryz.prog w base spare held fuel t cs = some x) :
    ∃ A len cap xs, cs = [.slice A len cap] ∧ len ≤ cap ∧ xs.length = len ∧ d.C w A len xs := by
  rcases Go.Deep.open_slice ht h with ⟨rfl, _⟩ | ⟨a, len, cap, m, n, D, Pl, rfl, _, hl, hm, hmm, _, hx⟩
  · exact ⟨none, 0, 0, [], rfl, Nat.le_refl _, rfl, rfl, by omega, fun h0 => absurd h0 (by omega)⟩
  · have hml : maxLen ≤ 9223372036854775807 := by unfold maxLen; decide
    have hlm : len ≤ m := by rw [hmm]; split <;> omega
    have hi : ∀ i, i < len → ∃ (p : α × List Value), d.K w p.1 p.2 ∧ ∀ j u, p.2[j]? = some u → w.cell? (a.add (i * d.sz + j)) = some u := fun i hi => by
      obtain ⟨c, h1, h2⟩ := hx i (by omega)
      obtain ⟨z, hz⟩ := hel n c _ h2
      refine ⟨(z, c), hz, fun j u hu => ?_⟩
      obtain ⟨_, hlen, hat⟩ := World.cells?_some h1
      rw [hC] at h1 hlen hat
      have hj : j < d.sz := by rw [← hlen]; exact (List.getElem?_eq_some_iff.1 hu).1
      have := hat j hj
      rw [Go.Deep.add_add] at this
      rw [this]; exact hu
    refine ⟨some a, len, cap, List.ofFn fun i : Fin len => (Classical.choose (hi i.1 i.2)).1, rfl, hl, List.length_ofFn, List.length_ofFn, by omega, fun _ => ⟨a, rfl, fun j p hp => ?_⟩⟩
    rw [List.getElem?_ofFn] at hp
    split at hp
    · rename_i hj
      cases hp
      have hs := Classical.choose_spec (hi j hj)
      exact ⟨_, d.K_len hs.1, hs.1, hs.2⟩
    · cases hp
theorem item_open (n : Nat) (c : List Value) (y : DataW H × List MemPlace) (h : DataW.trod enc Tryz.prog w base spare held n 53 c = some y) : ∃ z, k53.K w z c := by
  obtain ⟨y0, y1, y2, y3, m, _, hl, h0, h1, h2, h3⟩ := Go.Joins.trod_struct4 Tryz.underlying53 h
  have c4 : Tryz.prog.cellsOf 4 = 1 := by kernel_rfl
  have c3 : Tryz.prog.cellsOf 3 = 1 := by kernel_rfl
  have c53 : Tryz.prog.cellsOf 53 = 4 := by kernel_rfl
  have hl4 : c.length = 4 := hl.trans c53
  clear hl
  match c, hl4 with
  | [a0, a1, a2, a3], _ =>
    obtain ⟨b, e0, _⟩ := DataW.trod_bool Tryz.underlying4 h0
    obtain ⟨n1, e1, _, _⟩ := DataW.trod_int Tryz.underlying3 h1
    obtain ⟨n2, e2, _, _⟩ := DataW.trod_int Tryz.underlying3 h2
    obtain ⟨n3, e3, _, _⟩ := DataW.trod_int Tryz.underlying3 h3
    simp only [c4, c3, List.drop_zero, List.drop_succ_cons, List.take_succ_cons, List.take_zero, List.cons.injEq, and_true] at e0 e1 e2 e3
    subst e0 e1 e2 e3
    exact ⟨⟨b, n1, n2, n3⟩, k53_mk w ⟨b, n1, n2, n3⟩⟩
theorem list_open (n : Nat) (c : List Value) (y : DataW H × List MemPlace) (h : DataW.trod enc Tryz.prog w base spare held n 50 c = some y) : ∃ z, (Kd.slice 53 k53).K w z c := by
  obtain ⟨A, len, cap, xs, rfl, hl, hx, hC⟩ := row_open k53 (t := 50) (e := 53) Tryz.underlying50 (by kernel_rfl) item_open h
  exact ⟨xs, A, cap, by rw [hx], by omega, by rw [hx]; exact hC⟩
theorem expr_open {r : Reach} {b0 : Nat} {v : Value} {d : DataW H} {p : List MemPlace} (hv : Value.okWide Tryz.prog w r b0 24 v) (h : DataW.Trod enc Tryz.prog w base spare held 24 v d p) :
    ∃ A cap xs b, v = .agg #[.slice A xs.length cap, .bool b] ∧ xs.length ≤ cap ∧ Kd.C (Kd.slice 53 k53) w A xs.length xs := by
  have c24 : Tryz.prog.cellsOf 24 = 2 := by kernel_rfl
  have c22 : Tryz.prog.cellsOf 22 = 1 := by kernel_rfl
  have c4 : Tryz.prog.cellsOf 4 = 1 := by kernel_rfl
  obtain ⟨cs, rfl, hsz⟩ := okWide_struct Tryz.underlying24 hv
  obtain ⟨l⟩ := cs
  have hs2 : l.length = 2 := hsz.trans c24
  clear hsz
  match l, hs2 with
  | [a0, a1], _ =>
    obtain ⟨fuel, hf⟩ := h
    obtain ⟨y0, y1, n, _, _, h0, h1⟩ := trod_struct2 Tryz.underlying24 hf
    simp only [Value.cells, c22, c4, List.drop_zero, List.drop_succ_cons, List.take_succ_cons, List.take_zero] at h0 h1
    obtain ⟨A, len, cap, xs, e0, hl, hx, hC⟩ := row_open (Kd.slice 53 k53) (t := 22) (e := 50) Tryz.underlying22 (by kernel_rfl) list_open h0
    obtain ⟨b, e1, _⟩ := DataW.trod_bool Tryz.underlying4 h1
    simp only [List.cons.injEq, and_true] at e0 e1
    subst e0 e1
    subst hx
    exact ⟨A, cap, xs, b, rfl, hl, hC⟩
theorem mom_open {r : Reach} {b0 : Nat} {v : Value} {d : DataW H} {p : List MemPlace} (hv : Value.okWide Tryz.prog w r b0 26 v) (h : DataW.Trod enc Tryz.prog w base spare held 26 v d p) :
    ∃ y m dd hh mi se, v = .agg #[.int .i64 y, .int .i64 m, .int .i64 dd, .int .i64 hh, .int .i64 mi, .int .i64 se] := by
  have c26 : Tryz.prog.cellsOf 26 = 6 := by kernel_rfl
  have c3 : Tryz.prog.cellsOf 3 = 1 := by kernel_rfl
  obtain ⟨cs, rfl, hsz⟩ := okWide_struct Tryz.underlying26 hv
  obtain ⟨l⟩ := cs
  have hs6 : l.length = 6 := hsz.trans c26
  clear hsz
  match l, hs6 with
  | [a0, a1, a2, a3, a4, a5], _ =>
    obtain ⟨fuel, hf⟩ := h
    obtain ⟨xs, n, _, _, _, hlen, hg⟩ := DataW.trod_struct Tryz.underlying26 hf
    match xs, hlen with
    | [y0, y1, y2, y3, y4, y5], _ =>
      have g0 : DataW.trod enc Tryz.prog w base spare held n 3 [a0] = some y0 := by simpa [Value.cells, c3] using hg 0 _ rfl
      have g1 : DataW.trod enc Tryz.prog w base spare held n 3 [a1] = some y1 := by simpa [Value.cells, c3] using hg 1 _ rfl
      have g2 : DataW.trod enc Tryz.prog w base spare held n 3 [a2] = some y2 := by simpa [Value.cells, c3] using hg 2 _ rfl
      have g3 : DataW.trod enc Tryz.prog w base spare held n 3 [a3] = some y3 := by simpa [Value.cells, c3] using hg 3 _ rfl
      have g4 : DataW.trod enc Tryz.prog w base spare held n 3 [a4] = some y4 := by simpa [Value.cells, c3] using hg 4 _ rfl
      have g5 : DataW.trod enc Tryz.prog w base spare held n 3 [a5] = some y5 := by simpa [Value.cells, c3] using hg 5 _ rfl
      obtain ⟨n0, e0, _, _⟩ := DataW.trod_int Tryz.underlying3 g0
      obtain ⟨n1, e1, _, _⟩ := DataW.trod_int Tryz.underlying3 g1
      obtain ⟨n2, e2, _, _⟩ := DataW.trod_int Tryz.underlying3 g2
      obtain ⟨n3, e3, _, _⟩ := DataW.trod_int Tryz.underlying3 g3
      obtain ⟨n4, e4, _, _⟩ := DataW.trod_int Tryz.underlying3 g4
      obtain ⟨n5, e5, _, _⟩ := DataW.trod_int Tryz.underlying3 g5
      simp only [List.cons.injEq, and_true] at e0 e1 e2 e3 e4 e5
      subst e0 e1 e2 e3 e4 e5
      exact ⟨n0, n1, n2, n3, n4, n5, rfl⟩
end
end Go.Proofs.YtjpcdkhapeejjaaGreatDoor.A
end
section
namespace Go.Proofs.YtjpcdkhapeejjaaGreatDoor.A
open Go.RowKit Cal Go.Proofs.YtjpcdkhapeejjaaGreatDoorW.PrintWords Go.Proofs.YtjpcdkhapeejjaaGreatDoorW.PrintLast Go.Proofs.YtjpcdkhapeejjaaGreatDoorW.PrintMore
set_option maxRecDepth 100000
attribute [local go_sem] hset_drewN halloc_drewN
instance (y m d h mi se : Int) : Decidable (MomIn y m d h mi se) :=
  decidable_of_iff (1988 ≤ y ∧ y ≤ 2109 ∧ 1 ≤ m ∧ m ≤ 12 ∧ 0 ≤ d ∧ d ≤ 32 ∧ 0 ≤ h ∧ h ≤ 23 ∧ 0 ≤ mi ∧ mi ≤ 59 ∧ 0 ≤ se ∧ se ≤ 59) ⟨fun ⟨a, b, c, d, e, f, g, h, i, j, k, l⟩ => ⟨a, b, c, d, e, f, g, h, i, j, k, l⟩, fun q => ⟨q.y0, q.y1, q.m0, q.m1, q.d0, q.d1, q.h0, q.h1, q.mi0, q.mi1, q.s0, q.s1⟩⟩
set_option maxHeartbeats 8000000 in
theorem implDue_any (k : Nat) (ex : ByteArray) (segs : List ByteArray) (y m d h mi se : Int) (b : Bool) (w : World) (hM : MomIn y m d h mi se) (hs : gronx_Segments.f k ex = some (segs, none)) (hl : segs.length = 6) (hd : sdue k segs (mkS y m d h mi se) segs.length = some b) :
    Calls Tryz.prog 21 #[.string ex, .agg #[.int .i64 y, .int .i64 m, .int .i64 d, .int .i64 h, .int .i64 mi, .int .i64 se]] w fun e w' => e = .returned (.tuple #[.bool b, .bool true]) ∧ Below w.heap.size w w' := by
  have hu63 := Tryz.underlying63
  have hu26 := Tryz.underlying26
  have hu65 := Tryz.underlying65
  have HM := Aside0.mk ((Mem.start w).new (mo y m d h mi se))
  have TO := Aside0.mk fun W => timeOf_in y m d h mi se W hM
  have HSg := Aside0.mk hs
  have HNn : Aside0 (0 < segs.length) := ⟨by omega⟩
  have HL7 : Aside0 (segs.length ≤ 7) := ⟨by omega⟩
  obtain ⟨ms, hms⟩ : ∃ x : Int, mkS y m d h mi se = x := ⟨_, rfl⟩
  rw [hms] at TO hd
  have HD := Aside0.mk hd
  clear hM hs hl hd hms
  obtain ⟨k0, k1, k2, k3, k4, k5⟩ := mo_cells (HM.out.at_ 0 rfl)
  go_enter Tryz.func21, Tryz.ntmps21
  go_upto_region 1 with fail
  go_cut [6, 7] (fun s6 s7 wx => s6 = .bool b ∧ s7 = .nilIface ∧ Below w.heap.size w wx)
  case first =>
    go_region_held3 (fun w' => w'.cell? ⟨w.heap.size, 0, none⟩ = some (.int .i64 y) ∧ w'.cell? ⟨w.heap.size, 1, none⟩ = some (.int .i64 m) ∧ w'.cell? ⟨w.heap.size, 2, none⟩ = some (.int .i64 d) ∧ w'.cell? ⟨w.heap.size, 3, none⟩ = some (.int .i64 h) ∧ w'.cell? ⟨w.heap.size, 4, none⟩ = some (.int .i64 mi) ∧ w'.cell? ⟨w.heap.size, 5, none⟩ = some (.int .i64 se))
      (first | exact mo_cells (HM.out.at_ 0 rfl) | exact mo_cells (HM.out.at_ 1 rfl) | exact mo_cells (HM.out.at_ 2 rfl) | exact mo_cells (HM.out.at_ 3 rfl) | exact mo_cells (HM.out.drew.at_ 0 rfl) | exact mo_cells (HM.out.drew.at_ 1 rfl) | exact mo_cells (HM.out.drew.at_ 2 rfl) | exact mo_cells (HM.out.drew.at_ 3 rfl) | exact mo_cells ((HM.out.drewN _).at_ 0 rfl) | exact mo_cells ((HM.out.drewN _).at_ 1 rfl) | exact mo_cells ((HM.out.drewN _).at_ 2 rfl) | exact mo_cells ((HM.out.drewN _).at_ 3 rfl) | exact mo_cells ((HM.out.new (tb ms)).at_ 0 rfl) | exact mo_cells ((HM.out.new (tb ms)).at_ 1 rfl) | exact mo_cells ((HM.out.new (tb ms)).at_ 2 rfl) | exact mo_cells ((HM.out.new (tb ms)).at_ 3 rfl) | exact mo_cells ((HM.out.new (tb ms)).drew.at_ 0 rfl) | exact mo_cells ((HM.out.new (tb ms)).drew.at_ 1 rfl) | exact mo_cells ((HM.out.new (tb ms)).drew.at_ 2 rfl) | exact mo_cells ((HM.out.new (tb ms)).drew.at_ 3 rfl) | exact mo_cells (((HM.out.new (tb ms)).drewN _).at_ 0 rfl) | exact mo_cells (((HM.out.new (tb ms)).drewN _).at_ 1 rfl) | exact mo_cells (((HM.out.new (tb ms)).drewN _).at_ 2 rfl) | exact mo_cells (((HM.out.new (tb ms)).drewN _).at_ 3 rfl))
      (first
        | (go_at_call 36; (with_reducible refine (New_o _).mono ?_); rintro e wz ⟨gG, gC, rfl, hmm⟩; (first | have HN := Aside0.mk (hmm _ _ HM.out) | have HN := Aside0.mk (hmm _ _ HM.out.drew) | have HN := Aside0.mk (hmm _ _ (HM.out.new (tb ms))) | have HN := Aside0.mk (hmm _ _ (HM.out.new (tb ms)).drew) | have HN := Aside0.mk (hmm _ _ (HM.out.drewN _)) | have HN := Aside0.mk (hmm _ _ ((HM.out.new (tb ms)).drewN _))); clear HM hmm; have HM := HN; clear HN)
        | (go_at_call 31; (with_reducible refine (TO.out _).mono ?_); rintro e wz ⟨rfl, hb⟩; (first | have HN := Aside0.mk (HM.out.step hb) | have HN := Aside0.mk (HM.out.drew.step hb) | have HN := Aside0.mk ((HM.out.drewN _).step hb)); clear HM hb; have HM := HN; clear HN)
        | (go_at_call 37; (first
          | (with_reducible refine (IsDue_any k gG gC _ 2 1 0 ex segs ms 0 b _ w _ (HM.out.new (tb ms)) rfl rfl rfl (by decide) (by decide) HSg.out HNn.out HL7.out HD.out).mono ?_)
          | (with_reducible refine (IsDue_any k gG gC _ 2 1 0 ex segs ms 0 b _ w _ (HM.out.new (tb ms)).drew rfl rfl rfl (by decide) (by decide) HSg.out HNn.out HL7.out HD.out).mono ?_)
          | (with_reducible refine (IsDue_any k gG gC _ 2 1 0 ex segs ms 0 b _ w _ ((HM.out.new (tb ms)).drewN _) rfl rfl rfl (by decide) (by decide) HSg.out HNn.out HL7.out HD.out).mono ?_)
          | (refine (IsDue_any k gG gC _ 2 1 0 ex segs ms 0 b _ w _ (HM.out.new (tb ms)) rfl rfl rfl (by decide) (by decide) HSg.out HNn.out HL7.out HD.out).mono ?_)
          | (refine (IsDue_any k gG gC _ 2 1 0 ex segs ms 0 b _ w _ (HM.out.new (tb ms)).drew rfl rfl rfl (by decide) (by decide) HSg.out HNn.out HL7.out HD.out).mono ?_)
          | (refine (IsDue_any k gG gC _ 2 1 0 ex segs ms 0 b _ w _ ((HM.out.new (tb ms)).drewN _) rfl rfl rfl (by decide) (by decide) HSg.out HNn.out HL7.out HD.out).mono ?_)
          | (with_reducible refine (IsDue_any k gG gC _ 2 1 0 ex segs ms 0 b _ w _ HM.out rfl rfl rfl (by decide) (by decide) HSg.out HNn.out HL7.out HD.out).mono ?_)
          | (with_reducible refine (IsDue_any k gG gC _ 2 1 0 ex segs ms 0 b _ w _ HM.out.drew rfl rfl rfl (by decide) (by decide) HSg.out HNn.out HL7.out HD.out).mono ?_)
          | (with_reducible refine (IsDue_any k gG gC _ 2 1 0 ex segs ms 0 b _ w _ (HM.out.drewN _) rfl rfl rfl (by decide) (by decide) HSg.out HNn.out HL7.out HD.out).mono ?_)
          | (with_reducible refine (IsDue_any k gG gC _ 1 0 2 ex segs ms 0 b _ w _ HM.out rfl rfl rfl (by decide) (by decide) HSg.out HNn.out HL7.out HD.out).mono ?_)
          | (with_reducible refine (IsDue_any k gG gC _ 1 0 2 ex segs ms 0 b _ w _ HM.out.drew rfl rfl rfl (by decide) (by decide) HSg.out HNn.out HL7.out HD.out).mono ?_)
          | (with_reducible refine (IsDue_any k gG gC _ 1 0 2 ex segs ms 0 b _ w _ (HM.out.drewN _) rfl rfl rfl (by decide) (by decide) HSg.out HNn.out HL7.out HD.out).mono ?_)); rintro e wz ⟨rfl, hmz⟩; have HN := Aside0.mk hmz; clear HM hmz; have HM := HN; clear HN))
    all_goals (go_wp2_with fail; go_meet; exact ⟨rfl, rfl, by first | exact HM.out.below | exact HM.out.drew.below | exact (HM.out.drewN _).below⟩)
  case rest =>
    obtain ⟨rfl, rfl, HB⟩ := hcut
    clear HM
    go_upto_region 2 with fail
    go_cut [4, 5] (fun s4 s5 wx => s4 = .bool b ∧ s5 = .bool true ∧ Below w.heap.size w wx)
    case first =>
      go_region_with fail
      all_goals (go_wp2_with fail; go_meet; exact ⟨rfl, rfl, by first | exact HB | exact HB.drew | exact pw_below_drewN HB _⟩)
    case rest =>
      obtain ⟨rfl, rfl, HB2⟩ := hcut
      go_wp2
      go_ret2
      exact ⟨rfl, HB2⟩
end Go.Proofs.YtjpcdkhapeejjaaGreatDoor.A
end
section
namespace Go.Proofs.YtjpcdkhapeejjaaGreatDoor.A
open Go.RowKit Go.Proofs.YtjpcdkhapeejjaaGreatDoorW.PrintWords Go.Proofs.YtjpcdkhapeejjaaGreatDoorW.PrintLast Go.Proofs.YtjpcdkhapeejjaaGreatDoorW.PrintMore
open Cal in
def impl_Due.f (a0 : ByteArray) (a1_0 : Int) (a1_1 : Int) (a1_2 : Int) (a1_3 : Int) (a1_4 : Int) (a1_5 : Int) : Option (Bool × Bool) :=
  (gronx_Segments.f KK a0).bind fun sg => if sg.2 = none ∧ sg.1.length = 6 ∧ MomIn a1_0 a1_1 a1_2 a1_3 a1_4 a1_5 then (sdue KK sg.1 (mkS a1_0 a1_1 a1_2 a1_3 a1_4 a1_5) sg.1.length).bind fun b => some (b, true) else none
open Cal in
theorem impl_Due.calls (a0 : ByteArray) (a1_0 : Int) (a1_1 : Int) (a1_2 : Int) (a1_3 : Int) (a1_4 : Int) (a1_5 : Int) (r1 : Bool) (r2 : Bool) (w : World) (h : impl_Due.f a0 a1_0 a1_1 a1_2 a1_3 a1_4 a1_5 = some (r1, r2)) :
    Calls Tryz.prog 21 #[.string a0, .agg #[.int .i64 a1_0, .int .i64 a1_1, .int .i64 a1_2, .int .i64 a1_3, .int .i64 a1_4, .int .i64 a1_5]] w fun e w' => e = .returned (.tuple #[.bool r1, .bool r2]) ∧ Below w.heap.size w w' := by
  unfold impl_Due.f at h
  replace h := Option.bind_eq_some_iff.mp h
  obtain ⟨⟨segs, er⟩, hs, h⟩ := h
  by_cases c : er = none ∧ segs.length = 6 ∧ MomIn a1_0 a1_1 a1_2 a1_3 a1_4 a1_5
  case neg => rw [if_neg c] at h; cases h
  rw [if_pos c] at h
  obtain ⟨rfl, hl, hM⟩ := c
  replace h := Option.bind_eq_some_iff.mp h
  obtain ⟨b, hb, h⟩ := h
  cases h
  exact implDue_any KK a0 segs a1_0 a1_1 a1_2 a1_3 a1_4 a1_5 r1 w hM hs hl hb
end Go.Proofs.YtjpcdkhapeejjaaGreatDoor.A
end
section
namespace Go.Proofs.YtjpcdkhapeejjaaGreatDoor.A
open Go.RowKit Cal Go.Proofs.YtjpcdkhapeejjaaGreatDoorW.PrintWords Go.Proofs.YtjpcdkhapeejjaaGreatDoorW.PrintLast Go.Proofs.YtjpcdkhapeejjaaGreatDoorW.PrintMore
section
variable {f0 f1 f2 f3 f4 f5 : List S54}
theorem idue_f (h : GoodE f0 f1 f2 f3 f4 f5) (sec : Bool) (hs : sec = false → f0 = noSec) (n : Nat) (hn : n ≤ 10) (y m d hh mi se s : Int) (hM : MomIn y m d hh mi se) (hms : mkS y m d hh mi se = s) (hI : InR s) :
    impl_Due.f (strOfNums (joinW n (partsOf sec f0 f1 f2 f3 f4 f5))) y m d hh mi se = some (fitB f0 f1 f2 f3 f4 f5 s, true) := by
  have kk := kk_bd
  unfold impl_Due.f
  rw [seg_good h sec hs n hn KK (by omega), Option.bind_some, hms, if_pos ⟨rfl, rfl, hM⟩, show (segsOf f0 f1 f2 f3 f4 f5).length = 6 from rfl, sdue_E h (by omega) s hI]
  rfl
end
end Go.Proofs.YtjpcdkhapeejjaaGreatDoor.A
end
namespace Go.Proofs.YtjpcdkhapeejjaaGreatDoor.A
open Go.RowKit Cal Go.Proofs.YtjpcdkhapeejjaaGreatDoorW.PrintWords Go.Proofs.YtjpcdkhapeejjaaGreatDoorW.PrintLast Go.Proofs.YtjpcdkhapeejjaaGreatDoorW.PrintMore
def exp8 (n : Nat) (L : List Int) : List Int := L.flatMap fun x => if x = 32 then List.replicate (n + 1) 32 else [x]
theorem exp_app (n : Nat) (a b : List Int) : exp8 n (a ++ b) = exp8 n a ++ exp8 n b := by unfold exp8; exact List.flatMap_append
theorem exp_one (n : Nat) (x : Int) : exp8 n [x] = [x] ++ List.replicate (if x = 32 then n else 0) 32 := by
  show (if x = 32 then List.replicate (n + 1) 32 else [x]) ++ [] = _
  rw [List.append_nil]
  split
  · next h => subst h; rfl
  · rfl
theorem exp_word (n : Nat) : ∀ (f : List Int), (∀ x ∈ f, 33 ≤ x ∧ x ≤ 57) → exp8 n f = f
  | [], _ => rfl
  | x :: xs, h => by
    have h0 := h x List.mem_cons_self
    rw [show x :: xs = [x] ++ xs from rfl, exp_app, exp_one, if_neg (by omega), exp_word n xs fun y hy => h y (List.mem_cons_of_mem _ hy)]
    rfl
theorem exp_join (n : Nat) : ∀ fs : List (List Int), (∀ g ∈ fs, Part g) → exp8 n (joinW 0 fs) = joinW n fs
  | [], _ => rfl
  | [f], h => exp_word n f (h f List.mem_cons_self).al
  | f :: g :: fs, h => by
    show exp8 n (f ++ ([32] ++ joinW 0 (g :: fs))) = f ++ (List.replicate (n + 1) 32 ++ joinW n (g :: fs))
    rw [exp_app, exp_app, exp_word n f (h f List.mem_cons_self).al, exp_join n (g :: fs) fun x hx => h x (List.mem_cons_of_mem _ hx), exp_one, if_pos rfl]
    rfl
theorem spc_s (a : List Int) : ∀ k, spc (strOfNums a) k = strOfNums (a ++ List.replicate k 32)
  | 0 => by rw [List.replicate_zero, List.append_nil]; rfl
  | k + 1 => by rw [spc, spc_s a k, show (⟨#[32]⟩ : ByteArray) = strOfNums [32] from rfl, s_app, List.append_assoc, ← List.replicate_succ']
theorem wid_s (L : List Int) (hb : by8 L) (n : Nat) : ∀ i, i ≤ L.length → wid (strOfNums L) n i = strOfNums (exp8 n (L.take i))
  | 0, _ => rfl
  | i + 1, h => by
    have e : (L.take (i + 1)).drop i = [rd L (i : Int)] := by rw [ex_eq, drop_at L i h]; rfl
    have e2 : L.take (i + 1) = L.take i ++ [rd L (i : Int)] := by
      rw [← e]
      have := List.take_append_drop i (L.take (i + 1))
      rw [List.take_take, Nat.min_eq_left (by omega)] at this
      exact this.symm
    rw [wid, wid_s L hb n i (by omega), s_ext, e, s_app, s_bt L hb, spc_s, e2, exp_app, exp_one, List.append_assoc]
theorem str_size (L : List Int) : (strOfNums L).size = L.length := by simp [strOfNums, ByteArray.size]
section
variable {f0 f1 f2 f3 f4 f5 : List S54}
theorem parts_ok (h : GoodE f0 f1 f2 f3 f4 f5) (sec : Bool) : ∃ g gs, partsOf sec f0 f1 f2 f3 f4 f5 = g :: gs ∧ (∀ x ∈ g :: gs, Part x) ∧ (joinW 0 (g :: gs)).length ≤ 400 := by
  have l0 := field_len f0 h.g0.len
  have l1 := field_len f1 h.g1.len
  have l2 := field_len f2 h.g2.len
  have l3 := field_len f3 h.g3.len
  have l4 := field_len f4 h.g4.len
  have l5 := field_len f5 h.g5.len
  have hp : ∀ g ∈ [fieldL f0, fieldL f1, fieldL f2, fieldL f3, fieldL f4, fieldL f5], Part g ∧ g.length ≤ 54 := fun g hg => by
    simp only [List.mem_cons, List.not_mem_nil, or_false] at hg
    rcases hg with rfl | rfl | rfl | rfl | rfl | rfl
    · exact ⟨field_part 0 f0 h.g0, l0⟩
    · exact ⟨field_part 1 f1 h.g1, l1⟩
    · exact ⟨field_part 2 f2 h.g2, l2⟩
    · exact ⟨field_part 3 f3 h.g3, l3⟩
    · exact ⟨field_part 4 f4 h.g4, l4⟩
    · exact ⟨field_part 5 f5 h.g5, l5⟩
  cases sec with
  | true =>
    refine ⟨_, _, rfl, fun x hx => (hp x hx).1, ?_⟩
    have := part_len true 0 _ fun x hx => (hp x hx).2
    have e : (55 + 0) * [fieldL f0, fieldL f1, fieldL f2, fieldL f3, fieldL f4, fieldL f5].length = 330 := rfl
    omega
  | false =>
    refine ⟨_, _, rfl, fun x hx => (hp x (List.mem_cons_of_mem _ hx)).1, ?_⟩
    have := part_len true 0 _ fun x hx => (hp x (List.mem_cons_of_mem _ hx)).2
    have e : (55 + 0) * [fieldL f1, fieldL f2, fieldL f3, fieldL f4, fieldL f5].length = 275 := rfl
    omega
theorem wider (h : GoodE f0 f1 f2 f3 f4 f5) (sec : Bool) (n : Nat) : (strOfNums (joinW 0 (partsOf sec f0 f1 f2 f3 f4 f5))).size ≤ 1000000000000 ∧ wid (strOfNums (joinW 0 (partsOf sec f0 f1 f2 f3 f4 f5))) n (strOfNums (joinW 0 (partsOf sec f0 f1 f2 f3 f4 f5))).size = strOfNums (joinW n (partsOf sec f0 f1 f2 f3 f4 f5)) := by
  obtain ⟨g, gs, e, hp, hl⟩ := parts_ok h sec
  rw [e]
  refine ⟨by rw [str_size]; omega, ?_⟩
  rw [str_size, wid_s _ (joinW_al 0 gs g hp).by8 n _ (Nat.le_refl _), List.take_length, exp_join n _ hp]
end
theorem spaces_all (l : List (List S53)) (a : Bool) (y m d h mi se a2 : Int) (A : Option Addr) (c : Nat) (w : World) (hSt : StdAt w) (hw : 0 ≤ a2) (hr : Kd.C (Kd.slice 53 k53) w A l.length l) (hc : l.length ≤ c) :
    Calls Tryz.prog 8 #[.agg #[.slice A l.length c, .bool a], .agg #[.int .i64 y, .int .i64 m, .int .i64 d, .int .i64 h, .int .i64 mi, .int .i64 se], .int .u8 a2] w fun e w' => e = .returned (.bool true) ∧ Below w.heap.size w w' := by
  obtain ⟨b, ⟨K1, h1⟩, q1⟩ := fits_f l a
  have C10 := Aside0.mk fun (W : World) (hb : Below w.heap.size w W) => laws_zzFits1.calls K1 A c l a b W (Kd.C_below hr hb) hc (h1 K1 (Nat.le_refl _))
  cases b with
  | false => exact spaces_a A c l a y m d h mi se a2 w C10
  | true =>
  have hs := q1 rfl
  obtain ⟨q, ⟨K3, h3⟩, q3⟩ := asked_f (cvE l) a (cv_small hs) y m d h mi se
  obtain ⟨K2, h2⟩ := expr_f l hs a
  have C11 := Aside0.mk fun (W : World) (hb : Below w.heap.size w W) => laws_expr.calls K2 A c l a (cvE l) a W (Kd.C_below hr hb) hc (h2 K2 (Nat.le_refl _))
  have C12 := Aside0.mk fun (W : World) (Ao : Option Addr) (co : Nat) (hC : Kd.C (Kd.slice 54 k54) W Ao (cvE l).length (cvE l)) (hc' : (cvE l).length ≤ co) => laws_asked.calls K3 Ao co (cvE l) a y m d h mi se q W hC hc' (h3 K3 (Nat.le_refl _))
  cases q with
  | false => exact spaces_b A c l a y m d h mi se a2 w (cvE l) a C10 C11 C12
  | true =>
  obtain ⟨⟨f0, f1, f2, f3, f4, f5, hfs, hE, hns⟩, hG⟩ := q3 rfl
  obtain ⟨s, hms, e1, e2, e3, e4, e5, e6, hlo, hhi, hM⟩ := hG.at_
  have kk := kk_bd
  obtain ⟨t, ht0, ht1, hN, hsp, htk⟩ := next_both hE a false s (by omega) (by omega) KK kk
  have hI : InR s := inr_of (by omega) (by omega)
  have hIt : InR t := inr_of (by omega) (by omega)
  obtain ⟨n, hn⟩ : ∃ n : Nat, (n : Int) = a2.tmod 5 := ⟨(a2.tmod 5).toNat, by have := Int.tmod_nonneg 5 hw; omega⟩
  have hn4 : n ≤ 4 := by have := Int.tmod_lt_of_pos a2 (show (0 : Int) < 5 by decide); omega
  obtain ⟨hsz, hwd⟩ := wider hE a n
  have hin := inext_f hE a hns n (by omega) false y m d h mi se s t hM hms hI hIt htk
  have hd1 := idue_f hE a hns 0 (by decide) _ _ _ _ _ _ _ hM hms hI
  have hd2 := idue_f hE a hns n (by omega) _ _ _ _ _ _ _ hM hms hI
  rw [← hwd] at hin hd2
  have htx := text_f hE a KK (by omega)
  rw [e1, e2, e3, e4, e5, e6] at hsp
  rw [← hfs] at htx hsp
  exact spaces_c A c l a y m d h mi se a2 w (cvE l) a (fitB f0 f1 f2 f3 f4 f5 s) _ n _ _ _ _ _ _ C10 C11 C12 hn hn4 hsz
    ⟨fun W Ao co hC hc' => spec_Text.calls KK Ao co (cvE l) a _ W hC hc' htx⟩
    ⟨fun W => impl_Due.calls _ _ _ _ _ _ _ _ true W hd1⟩ ⟨fun W => impl_Due.calls _ _ _ _ _ _ _ _ true W hd2⟩
    ⟨fun W hw => impl_Next.calls _ y m d h mi se false _ _ _ _ _ _ true W hin (.inl (hSt.below hw))⟩
    ⟨fun W => laws_moment.calls y m d h mi se y m d h mi se W rfl⟩
    ⟨fun W Ao co hC hc' => spec_Next.calls KK Ao co (cvE l) a y m d h mi se false _ _ _ _ _ _ true W hC hc' hsp⟩
    ⟨fun W => same_yes _ _ _ _ _ _ W ⟨fun W => laws_moment.calls _ _ _ _ _ _ _ _ _ _ _ _ W rfl⟩⟩
end Go.Proofs.YtjpcdkhapeejjaaGreatDoor.A
