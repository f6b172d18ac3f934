/- Steps of the proof of the law: contracts of functions of the given program, and plain lemmas about what they compute.
Conditions: none beyond those that each theorem names. -/
import Derived.Deep.Slices
import Derived.Lib.SmallJoins
import Derived.OpenShut
import Derived.Test.YtjpcdkhapeejjaaGreatDoorK02
import Derived.Test.YtjpcdkhapeejjaaGreatDoorK25
import Derived.Test.YtjpcdkhapeejjaaGreatDoorK40
import Derived.Test.YtjpcdkhapeejjaaGreatDoorK41
import Derived.Test.YtjpcdkhapeejjaaGreatDoorK42
import Derived.Test.YtjpcdkhapeejjaaGreatDoorK45
import Derived.Test.YtjpcdkhapeejjaaGreatDoorK47
import Derived.Test.YtjpcdkhapeejjaaGreatDoorK49
import Derived.Test.YtjpcdkhapeejjaaGreatDoorY5
set_option linter.unusedVariables false
set_option linter.unusedSimpArgs false
section
namespace Go.Proofs.YtjpcdkhapeejjaaGreatDoor.A
open Go.RowKit Cal Go.Proofs.YtjpcdkhapeejjaaGreatDoorW.PrintWords Go.Proofs.YtjpcdkhapeejjaaGreatDoorW.PrintLast Go.Proofs.YtjpcdkhapeejjaaGreatDoorW.PrintMore
structure GoodM (y m d h mi se : Int) : Prop where
  y0 : 1990 ≤ y
  y1 : y ≤ 2090
  m0 : 1 ≤ m
  m1 : m ≤ 12
  d0 : 1 ≤ d
  d1 : d ≤ dim y m
  h0 : 0 ≤ h
  h1 : h ≤ 23
  mi0 : 0 ≤ mi
  mi1 : mi ≤ 59
  s0 : 0 ≤ se
  s1 : se ≤ 59
theorem mgood_f (y m d h mi se : Int) : ∃ b, spec_MomentGood.f y m d h mi se = some b ∧ (b = true → GoodM y m d h mi se) := by
  unfold spec_MomentGood.f
  by_cases c1 : 1990 ≤ y
  case neg => rw [if_neg c1]; exact ⟨false, rfl, fun q => by cases q⟩
  by_cases c2 : y ≤ 2090
  case neg => rw [if_pos c1, if_neg c2]; exact ⟨false, rfl, fun q => by cases q⟩
  by_cases c3 : 1 ≤ m
  case neg => rw [if_pos c1, if_pos c2, if_neg c3]; exact ⟨false, rfl, fun q => by cases q⟩
  by_cases c4 : m ≤ 12
  case neg => rw [if_pos c1, if_pos c2, if_pos c3, if_neg c4]; exact ⟨false, rfl, fun q => by cases q⟩
  by_cases c5 : 1 ≤ d
  case neg => rw [if_pos c1, if_pos c2, if_pos c3, if_pos c4, if_neg c5]; exact ⟨false, rfl, fun q => by cases q⟩
  rw [if_pos c1, if_pos c2, if_pos c3, if_pos c4, if_pos c5, days_f2 y m (by omega) c3 c4, Option.bind_some]
  by_cases c6 : d ≤ dim y m
  case neg => rw [if_neg c6]; exact ⟨false, rfl, fun q => by cases q⟩
  by_cases c7 : 0 ≤ h
  case neg => rw [if_pos c6, if_neg c7]; exact ⟨false, rfl, fun q => by cases q⟩
  by_cases c8 : h ≤ 23
  case neg => rw [if_pos c6, if_pos c7, if_neg c8]; exact ⟨false, rfl, fun q => by cases q⟩
  by_cases c9 : 0 ≤ mi
  case neg => rw [if_pos c6, if_pos c7, if_pos c8, if_neg c9]; exact ⟨false, rfl, fun q => by cases q⟩
  by_cases c10 : mi ≤ 59
  case neg => rw [if_pos c6, if_pos c7, if_pos c8, if_pos c9, if_neg c10]; exact ⟨false, rfl, fun q => by cases q⟩
  by_cases c11 : 0 ≤ se
  case neg => rw [if_pos c6, if_pos c7, if_pos c8, if_pos c9, if_pos c10, if_neg c11]; exact ⟨false, rfl, fun q => by cases q⟩
  by_cases c12 : se ≤ 59
  case neg => rw [if_pos c6, if_pos c7, if_pos c8, if_pos c9, if_pos c10, if_pos c11, if_neg c12]; exact ⟨false, rfl, fun q => by cases q⟩
  rw [if_pos c6, if_pos c7, if_pos c8, if_pos c9, if_pos c10, if_pos c11, if_pos c12]
  exact ⟨true, rfl, fun _ => ⟨c1, c2, c3, c4, c5, c6, c7, c8, c9, c10, c11, c12⟩⟩
theorem GoodM.at_ {y m d h mi se : Int} (H : GoodM y m d h mi se) : ∃ s, mkS y m d h mi se = s ∧ yearS s = y ∧ monS s = m ∧ dayS s = d ∧ hourS s = h ∧ minS s = mi ∧ secS s = se ∧ lo0 + 34905600 ≤ s ∧ s + 250000000 ≤ hi0 ∧ MomIn y m d h mi se := by
  obtain ⟨y0, y1, m0, m1, d0, d1, h0, h1, mi0, mi1, s0, s1⟩ := H
  have hd := dim_bd y m m0 m1
  have f := mk_fields y m d h mi se (by omega) (by omega) ⟨m0, m1, d0, d1⟩ h0 h1 mi0 mi1 s0 s1
  have yf := ord_first y (by omega)
  have ym := year_mon y m m0 m1
  have od := ord_day1 y m d
  refine ⟨_, rfl, f.1, f.2.1, f.2.2.1, f.2.2.2.1, f.2.2.2.2.1, f.2.2.2.2.2, ?_, ?_, ⟨by omega, by omega, m0, m1, by omega, by omega, h0, h1, mi0, mi1, s0, s1⟩⟩
  · unfold lo0 mkS; omega
  · unfold hi0 mkS; omega
theorem kk_bd : 190000 ≤ KK := by unfold KK; decide
section
variable {f0 f1 f2 f3 f4 f5 : List S54}
theorem inext_f (h : GoodE f0 f1 f2 f3 f4 f5) (sec : Bool) (hs : sec = false → f0 = noSec) (n : Nat) (hn : n ≤ 10) (incl : Bool) (y m d hh mi se s t : Int) (hM : MomIn y m d hh mi se) (hms : mkS y m d hh mi se = s) (hI : InR s) (ht : InR t) (hk : tickOf KK false incl (segsOf f0 f1 f2 f3 f4 f5) s = some t) :
    impl_Next.f (strOfNums (joinW n (partsOf sec f0 f1 f2 f3 f4 f5))) y m d hh mi se incl = some (six t) := by
  have kk := kk_bd
  unfold impl_Next.f
  rw [seg_good h sec hs n hn KK (by omega), Option.bind_some, hms, if_pos ⟨rfl, rfl, hM, hI⟩, hk, Option.bind_some, if_pos ht]
  rfl
end
theorem cv_small {l : List (List S53)} (h : small l) : ∀ x ∈ cvE l, x.length ≤ 2147483647 := fun x hx => by
  unfold cvE at hx
  obtain ⟨y, hy, rfl⟩ := List.mem_map.1 hx
  rw [List.length_map]
  exact h.2 y hy
theorem asked_f (fs : List (List S54)) (sec : Bool) (hs : ∀ l ∈ fs, l.length ≤ 2147483647) (y m d h mi se : Int) : ∃ b, EvK (fun k => laws_asked.f k fs sec y m d h mi se) b ∧ (b = true → (∃ f0 f1 f2 f3 f4 f5, fs = fsOf f0 f1 f2 f3 f4 f5 ∧ GoodE f0 f1 f2 f3 f4 f5 ∧ (sec = false → f0 = noSec)) ∧ GoodM y m d h mi se) := by
  obtain ⟨b, e1, q1⟩ := ex_good fs sec hs
  obtain ⟨c, e2, q2⟩ := mgood_f y m d h mi se
  cases b with
  | false => exact ⟨false, EvK.bind (h := fun k (t146 : Bool) => if t146 = true then _ else some false) e1 ⟨0, fun k _ => rfl⟩, fun q => by cases q⟩
  | true =>
    refine ⟨c, EvK.bind (h := fun k (t146 : Bool) => if t146 = true then _ else some false) e1 ⟨0, fun k _ => ?_⟩, fun q => ⟨q1 rfl, q2 q⟩⟩
    show (if true = true then _ else _) = _
    rw [if_pos rfl]
    unfold laws_moment.f
    rw [Option.bind_some, e2]
    rfl
end Go.Proofs.YtjpcdkhapeejjaaGreatDoor.A
end
section
namespace Go.Proofs.YtjpcdkhapeejjaaGreatDoor.A
open Go.RowKit Cal Go.Proofs.YtjpcdkhapeejjaaGreatDoorW.PrintWords Go.Proofs.YtjpcdkhapeejjaaGreatDoorW.PrintLast Go.Proofs.YtjpcdkhapeejjaaGreatDoorW.PrintMore
theorem momin_of {t : Int} (h : InR t) : MomIn (yearS t) (monS t) (dayS t) (hourS t) (minS t) (secS t) := by
  have a := year_bd t h
  have b := mon_bd t
  have c := day_bd t
  refine ⟨a.1, a.2, b.1, b.2, by omega, by omega, ?_, ?_, ?_, ?_, ?_, ?_⟩ <;> first | (unfold hourS; omega) | (unfold minS; omega) | (unfold secS; omega)
end Go.Proofs.YtjpcdkhapeejjaaGreatDoor.A
end
section
namespace Go.Proofs.YtjpcdkhapeejjaaGreatDoor.A
open Go.ChangeShapes Go.WideShapes Go.RowKit Go.Proofs.YtjpcdkhapeejjaaGreatDoorW.PrintWords Go.Proofs.YtjpcdkhapeejjaaGreatDoorW.PrintLast Go.Proofs.YtjpcdkhapeejjaaGreatDoorW.PrintMore
set_option maxRecDepth 100000
section
variable {H : Type} {enc : TypeId × Value → H} {w : World} {base : Nat} {spare : Nat → Bool} {held : Bool}
theorem row_open {α : Type} (d : Kd α) {t e : TypeId} {fuel : Nat} {cs : List Value} {x : DataW H × List MemPlace} (ht : Tryz.prog.underlying t = some (.slice e)) (hC : Tryz.prog.cellsOf e = d.sz)
    (hel : ∀ (n : Nat) (c : List Value) (y : DataW H × List MemPlace), DataW.trod enc Tryz.prog w base spare held n e c = some y → ∃ z, d.K w z c) (h : DataW.trod enc Tryz.prog w base spare held fuel t cs = some x) :
    ∃ A len cap xs, cs = [.slice A len cap] ∧ len ≤ cap ∧ xs.length = len ∧ d.C w A len xs := by
  rcases Go.Deep.open_slice ht h with ⟨rfl, _⟩ | ⟨a, len, cap, m, n, D, Pl, rfl, _, hl, hm, hmm, _, hx⟩
  · exact ⟨none, 0, 0, [], rfl, Nat.le_refl _, rfl, rfl, by omega, fun h0 => absurd h0 (by omega)⟩
  · have hml : maxLen ≤ 9223372036854775807 := by unfold maxLen; decide
    have hlm : len ≤ m := by rw [hmm]; split <;> omega
    have hi : ∀ i, i < len → ∃ (p : α × List Value), d.K w p.1 p.2 ∧ ∀ j u, p.2[j]? = some u → w.cell? (a.add (i * d.sz + j)) = some u := fun i hi => by
      obtain ⟨c, h1, h2⟩ := hx i (by omega)
      obtain ⟨z, hz⟩ := hel n c _ h2
      refine ⟨(z, c), hz, fun j u hu => ?_⟩
      obtain ⟨_, hlen, hat⟩ := World.cells?_some h1
      rw [hC] at h1 hlen hat
      have hj : j < d.sz := by rw [← hlen]; exact (List.getElem?_eq_some_iff.1 hu).1
      have := hat j hj
      rw [Go.Deep.add_add] at this
      rw [this]; exact hu
    refine ⟨some a, len, cap, List.ofFn fun i : Fin len => (Classical.choose (hi i.1 i.2)).1, rfl, hl, List.length_ofFn, List.length_ofFn, by omega, fun _ => ⟨a, rfl, fun j p hp => ?_⟩⟩
    rw [List.getElem?_ofFn] at hp
    split at hp
    · rename_i hj
      cases hp
      have hs := Classical.choose_spec (hi j hj)
      exact ⟨_, d.K_len hs.1, hs.1, hs.2⟩
    · cases hp
theorem item_open (n : Nat) (c : List Value) (y : DataW H × List MemPlace) (h : DataW.trod enc Tryz.prog w base spare held n 53 c = some y) : ∃ z, k53.K w z c := by
  obtain ⟨y0, y1, y2, y3, m, _, hl, h0, h1, h2, h3⟩ := Go.Joins.trod_struct4 Tryz.underlying53 h
  have c4 : Tryz.prog.cellsOf 4 = 1 := by kernel_rfl
  have c3 : Tryz.prog.cellsOf 3 = 1 := by kernel_rfl
  have c53 : Tryz.prog.cellsOf 53 = 4 := by kernel_rfl
  have hl4 : c.length = 4 := hl.trans c53
  clear hl
  match c, hl4 with
  | [a0, a1, a2, a3], _ =>
    obtain ⟨b, e0, _⟩ := DataW.trod_bool Tryz.underlying4 h0
    obtain ⟨n1, e1, _, _⟩ := DataW.trod_int Tryz.underlying3 h1
    obtain ⟨n2, e2, _, _⟩ := DataW.trod_int Tryz.underlying3 h2
    obtain ⟨n3, e3, _, _⟩ := DataW.trod_int Tryz.underlying3 h3
    simp only [c4, c3, List.drop_zero, List.drop_succ_cons, List.take_succ_cons, List.take_zero, List.cons.injEq, and_true] at e0 e1 e2 e3
    subst e0 e1 e2 e3
    exact ⟨⟨b, n1, n2, n3⟩, k53_mk w ⟨b, n1, n2, n3⟩⟩
theorem list_open (n : Nat) (c : List Value) (y : DataW H × List MemPlace) (h : DataW.trod enc Tryz.prog w base spare held n 50 c = some y) : ∃ z, (Kd.slice 53 k53).K w z c := by
  obtain ⟨A, len, cap, xs, rfl, hl, hx, hC⟩ := row_open k53 (t := 50) (e := 53) Tryz.underlying50 (by kernel_rfl) item_open h
  exact ⟨xs, A, cap, by rw [hx], by omega, by rw [hx]; exact hC⟩
theorem expr_open {r : Reach} {b0 : Nat} {v : Value} {d : DataW H} {p : List MemPlace} (hv : Value.okWide Tryz.prog w r b0 24 v) (h : DataW.Trod enc Tryz.prog w base spare held 24 v d p) :
    ∃ A cap xs b, v = .agg #[.slice A xs.length cap, .bool b] ∧ xs.length ≤ cap ∧ Kd.C (Kd.slice 53 k53) w A xs.length xs := by
  have c24 : Tryz.prog.cellsOf 24 = 2 := by kernel_rfl
  have c22 : Tryz.prog.cellsOf 22 = 1 := by kernel_rfl
  have c4 : Tryz.prog.cellsOf 4 = 1 := by kernel_rfl
  obtain ⟨cs, rfl, hsz⟩ := okWide_struct Tryz.underlying24 hv
  obtain ⟨l⟩ := cs
  have hs2 : l.length = 2 := hsz.trans c24
  clear hsz
  match l, hs2 with
  | [a0, a1], _ =>
    obtain ⟨fuel, hf⟩ := h
    obtain ⟨y0, y1, n, _, _, h0, h1⟩ := trod_struct2 Tryz.underlying24 hf
    simp only [Value.cells, c22, c4, List.drop_zero, List.drop_succ_cons, List.take_succ_cons, List.take_zero] at h0 h1
    obtain ⟨A, len, cap, xs, e0, hl, hx, hC⟩ := row_open (Kd.slice 53 k53) (t := 22) (e := 50) Tryz.underlying22 (by kernel_rfl) list_open h0
    obtain ⟨b, e1, _⟩ := DataW.trod_bool Tryz.underlying4 h1
    simp only [List.cons.injEq, and_true] at e0 e1
    subst e0 e1
    subst hx
    exact ⟨A, cap, xs, b, rfl, hl, hC⟩
theorem mom_open {r : Reach} {b0 : Nat} {v : Value} {d : DataW H} {p : List MemPlace} (hv : Value.okWide Tryz.prog w r b0 26 v) (h : DataW.Trod enc Tryz.prog w base spare held 26 v d p) :
    ∃ y m dd hh mi se, v = .agg #[.int .i64 y, .int .i64 m, .int .i64 dd, .int .i64 hh, .int .i64 mi, .int .i64 se] := by
  have c26 : Tryz.prog.cellsOf 26 = 6 := by kernel_rfl
  have c3 : Tryz.prog.cellsOf 3 = 1 := by kernel_rfl
  obtain ⟨cs, rfl, hsz⟩ := okWide_struct Tryz.underlying26 hv
  obtain ⟨l⟩ := cs
  have hs6 : l.length = 6 := hsz.trans c26
  clear hsz
  match l, hs6 with
  | [a0, a1, a2, a3, a4, a5], _ =>
    obtain ⟨fuel, hf⟩ := h
    obtain ⟨xs, n, _, _, _, hlen, hg⟩ := DataW.trod_struct Tryz.underlying26 hf
    match xs, hlen with
    | [y0, y1, y2, y3, y4, y5], _ =>
      have g0 : DataW.trod enc Tryz.prog w base spare held n 3 [a0] = some y0 := by simpa [Value.cells, c3] using hg 0 _ rfl
      have g1 : DataW.trod enc Tryz.prog w base spare held n 3 [a1] = some y1 := by simpa [Value.cells, c3] using hg 1 _ rfl
      have g2 : DataW.trod enc Tryz.prog w base spare held n 3 [a2] = some y2 := by simpa [Value.cells, c3] using hg 2 _ rfl
      have g3 : DataW.trod enc Tryz.prog w base spare held n 3 [a3] = some y3 := by simpa [Value.cells, c3] using hg 3 _ rfl
      have g4 : DataW.trod enc Tryz.prog w base spare held n 3 [a4] = some y4 := by simpa [Value.cells, c3] using hg 4 _ rfl
      have g5 : DataW.trod enc Tryz.prog w base spare held n 3 [a5] = some y5 := by simpa [Value.cells, c3] using hg 5 _ rfl
      obtain ⟨n0, e0, _, _⟩ := DataW.trod_int Tryz.underlying3 g0
      obtain ⟨n1, e1, _, _⟩ := DataW.trod_int Tryz.underlying3 g1
      obtain ⟨n2, e2, _, _⟩ := DataW.trod_int Tryz.underlying3 g2
      obtain ⟨n3, e3, _, _⟩ := DataW.trod_int Tryz.underlying3 g3
      obtain ⟨n4, e4, _, _⟩ := DataW.trod_int Tryz.underlying3 g4
      obtain ⟨n5, e5, _, _⟩ := DataW.trod_int Tryz.underlying3 g5
      simp only [List.cons.injEq, and_true] at e0 e1 e2 e3 e4 e5
      subst e0 e1 e2 e3 e4 e5
      exact ⟨n0, n1, n2, n3, n4, n5, rfl⟩
end
end Go.Proofs.YtjpcdkhapeejjaaGreatDoor.A
end
section
namespace Go.Proofs.YtjpcdkhapeejjaaGreatDoor.A
open Go.RowKit Cal Go.Proofs.YtjpcdkhapeejjaaGreatDoorW.PrintWords Go.Proofs.YtjpcdkhapeejjaaGreatDoorW.PrintLast Go.Proofs.YtjpcdkhapeejjaaGreatDoorW.PrintMore
set_option maxRecDepth 100000
attribute [local go_sem] hset_drewN halloc_drewN
set_option maxHeartbeats 16000000 in
theorem PrevTick_any (k : Nat) (ex : ByteArray) (segs : List ByteArray) (s r : Int) (incl : Bool) (w : World) (hI : InR s) (hstd : StdAt w ∨ incl = true)
    (hs : gronx_Segments.f k ex = some (segs, none)) (hn : 0 < segs.length) (hl : segs.length = 6) (h : tickOf k true incl segs s = some r) :
    Calls Tryz.prog 35 #[.string ex, .agg #[.int .u64 0, .int .i64 s, .pointer none], .bool incl] w fun e w' => e = .returned (.tuple #[.agg #[.int .u64 0, .int .i64 r, .pointer none], .nilIface]) ∧ Below w.heap.size w w' := by
  have hu63 := Tryz.underlying63
  have hu65 := Tryz.underlying65
  have hb1 : 1000000 ≤ s := by unfold InR at hI; omega
  have hb2 : s ≤ 100000000000 := by unfold InR at hI; omega
  have HM := Aside0.mk (((Mem.start w).new (tb s)).new (tb 0))
  rw [World.size_alloc] at HM
  unfold tickOf at h
  replace h := Option.bind_eq_some_iff.mp h
  obtain ⟨b, hd, h⟩ := h
  have HD := Aside0.mk hd
  have HSg := Aside0.mk hs
  have HNn := Aside0.mk hn
  have HL6 := Aside0.mk hl
  have HL7 : Aside0 (segs.length ≤ 7) := ⟨by omega⟩
  have HStd := Aside0.mk hstd
  have HH := Aside0.mk h
  clear hd hs hn hl hstd h hI
  have K0 := HM.out.c3 1 rfl
  obtain ⟨⟨d0, d1, d2⟩, _, _⟩ := K0
  go_enter Tryz.func35, Tryz.ntmps35
  go_upto_region 1 with fail
  go_cut [8, 9] (fun s8 s9 wx => ∃ gG gC b9, s8 = .pointer (some ⟨gG, 0, none⟩) ∧ s9 = .pointer (some ⟨b9, 0, none⟩) ∧ Aside0 (Mem w [(b9, tb s), (gG, grO gC), (gC, ckO 0), (w.heap.size + 1, tb 0), (w.heap.size, tb s)] wx))
  case first =>
    go_region_held3 (fun w' => w'.cell? ⟨w.heap.size, 0, none⟩ = some (.int .u64 0) ∧ w'.cell? ⟨w.heap.size, 1, none⟩ = some (.int .i64 s) ∧ w'.cell? ⟨w.heap.size, 2, none⟩ = some (.pointer none))
      (first | exact (HM.out.c3 1 rfl).1 | exact (HM.out.c3 2 rfl).1 | exact (HM.out.c3 3 rfl).1 | exact (HM.out.c3 4 rfl).1 | exact (HM.out.drew.c3 1 rfl).1 | exact (HM.out.drew.c3 2 rfl).1 | exact (HM.out.drew.c3 3 rfl).1 | exact (HM.out.drew.c3 4 rfl).1 | exact ((HM.out.new (tb 0)).c3 1 rfl).1 | exact ((HM.out.new (tb 0)).c3 2 rfl).1 | exact ((HM.out.new (tb 0)).c3 3 rfl).1 | exact ((HM.out.new (tb 0)).c3 4 rfl).1 | exact ((HM.out.new (tb 0)).drew.c3 1 rfl).1 | exact ((HM.out.new (tb 0)).drew.c3 2 rfl).1 | exact ((HM.out.new (tb 0)).drew.c3 3 rfl).1 | exact ((HM.out.new (tb 0)).drew.c3 4 rfl).1 | exact ((HM.out.new (tb s)).c3 1 rfl).1 | exact ((HM.out.new (tb s)).c3 2 rfl).1 | exact ((HM.out.new (tb s)).c3 3 rfl).1 | exact ((HM.out.new (tb s)).c3 4 rfl).1 | exact ((HM.out.new (tb s)).drew.c3 1 rfl).1 | exact ((HM.out.new (tb s)).drew.c3 2 rfl).1 | exact ((HM.out.new (tb s)).drew.c3 3 rfl).1 | exact ((HM.out.new (tb s)).drew.c3 4 rfl).1 | exact ((HM.out.set3 0 rfl (.int .u64 0) (.int .i64 s) (.pointer none)).c3 1 rfl).1 | exact ((HM.out.set3 0 rfl (.int .u64 0) (.int .i64 s) (.pointer none)).c3 2 rfl).1 | exact ((HM.out.set3 0 rfl (.int .u64 0) (.int .i64 s) (.pointer none)).c3 3 rfl).1 | exact ((HM.out.set3 0 rfl (.int .u64 0) (.int .i64 s) (.pointer none)).c3 4 rfl).1 | exact ((HM.out.set3 0 rfl (.int .u64 0) (.int .i64 s) (.pointer none)).drew.c3 1 rfl).1 | exact ((HM.out.set3 0 rfl (.int .u64 0) (.int .i64 s) (.pointer none)).drew.c3 2 rfl).1 | exact ((HM.out.set3 0 rfl (.int .u64 0) (.int .i64 s) (.pointer none)).drew.c3 3 rfl).1 | exact ((HM.out.set3 0 rfl (.int .u64 0) (.int .i64 s) (.pointer none)).drew.c3 4 rfl).1 | exact ((HM.out.set3 2 rfl (.int .u64 0) (.int .i64 s) (.pointer none)).c3 1 rfl).1 | exact ((HM.out.set3 2 rfl (.int .u64 0) (.int .i64 s) (.pointer none)).c3 2 rfl).1 | exact ((HM.out.set3 2 rfl (.int .u64 0) (.int .i64 s) (.pointer none)).c3 3 rfl).1 | exact ((HM.out.set3 2 rfl (.int .u64 0) (.int .i64 s) (.pointer none)).c3 4 rfl).1 | exact ((HM.out.set3 2 rfl (.int .u64 0) (.int .i64 s) (.pointer none)).drew.c3 1 rfl).1 | exact ((HM.out.set3 2 rfl (.int .u64 0) (.int .i64 s) (.pointer none)).drew.c3 2 rfl).1 | exact ((HM.out.set3 2 rfl (.int .u64 0) (.int .i64 s) (.pointer none)).drew.c3 3 rfl).1 | exact ((HM.out.set3 2 rfl (.int .u64 0) (.int .i64 s) (.pointer none)).drew.c3 4 rfl).1)
      (first
        | (go_at_call 36; (with_reducible refine (New_o _).mono ?_); rintro e wz ⟨gG, gC, rfl, hmm⟩; (first | have HN := Aside0.mk (hmm _ _ HM.out) | have HN := Aside0.mk (hmm _ _ HM.out.drew) | have HN := Aside0.mk (hmm _ _ (HM.out.new (tb 0))) | have HN := Aside0.mk (hmm _ _ (HM.out.new (tb 0)).drew) | have HN := Aside0.mk (hmm _ _ (HM.out.drewN _)) | have HN := Aside0.mk (hmm _ _ ((HM.out.new (tb 0)).drewN _))); clear HM hmm; have HM := HN; clear HN; (try (rw [World.size_alloc, World.size_alloc] at HM)); (first | obtain ⟨⟨a0, a1, a2⟩, ⟨a3, a4, a5⟩, a6⟩ := HM.out.c3 0 rfl | obtain ⟨⟨a0, a1, a2⟩, ⟨a3, a4, a5⟩, a6⟩ := HM.out.c3 2 rfl))
        | (go_at_call 43; (with_reducible refine (Truncate_any s _ hb1 hb2).mono ?_); rintro e wz ⟨rfl, hb⟩; (first | have HN := Aside0.mk (HM.out.step hb) | have HN := Aside0.mk (HM.out.drew.step hb) | have HN := Aside0.mk ((HM.out.new (tb 0)).step hb) | have HN := Aside0.mk ((HM.out.new (tb 0)).drew.step hb) | have HN := Aside0.mk ((HM.out.drewN _).step hb) | have HN := Aside0.mk (((HM.out.new (tb 0)).drewN _).step hb)); clear HM hb; have HM := HN; clear HN; (try (rw [World.size_alloc, World.size_alloc] at HM)); (first | obtain ⟨⟨a0, a1, a2⟩, ⟨a3, a4, a5⟩, a6⟩ := HM.out.c3 0 rfl | obtain ⟨⟨a0, a1, a2⟩, ⟨a3, a4, a5⟩, a6⟩ := HM.out.c3 2 rfl)))
    all_goals
      first
        | (go_wp2_with fail; go_meet; exact ⟨_, _, _, rfl, rfl, ⟨by first | exact HM.out.new (tb s) | exact (HM.out.new (tb s)).drew | exact (HM.out.new (tb s)).drewN _⟩⟩)
        | (obtain ⟨⟨a0, a1, a2⟩, ⟨a3, a4, a5⟩, a6⟩ := HM.out.c3 0 rfl; go_wp2_with fail; go_meet; exact ⟨_, _, _, rfl, rfl, ⟨by first | exact (HM.out.set3 0 rfl _ _ _) | exact (HM.out.set3 0 rfl _ _ _).drew | exact ((HM.out.set3 0 rfl _ _ _).drewN _)⟩⟩)
        | (obtain ⟨⟨a0, a1, a2⟩, ⟨a3, a4, a5⟩, a6⟩ := HM.out.c3 2 rfl; go_wp2_with fail; go_meet; exact ⟨_, _, _, rfl, rfl, ⟨by first | exact (HM.out.set3 2 rfl _ _ _).perm ((List.Perm.swap _ _ _).trans ((List.Perm.swap _ _ _).cons _)) | exact (HM.out.set3 2 rfl _ _ _).drew.perm ((List.Perm.swap _ _ _).trans ((List.Perm.swap _ _ _).cons _)) | exact ((HM.out.set3 2 rfl _ _ _).drewN _).perm ((List.Perm.swap _ _ _).trans ((List.Perm.swap _ _ _).cons _))⟩⟩)
  case rest =>
    obtain ⟨gG, gC, b9, rfl, rfl, HM⟩ := hcut
    clear d0 d1 d2
    obtain ⟨⟨a0, a1, a2⟩, ⟨a3, a4, a5⟩, a6⟩ := HM.out.c3 0 rfl
    obtain ⟨⟨e0, e1, e2⟩, ⟨e3, e4, e5⟩, e6⟩ := HM.out.c3 3 rfl
    obtain ⟨⟨d0, d1, d2⟩, _, _⟩ := HM.out.c3 4 rfl
    have H := HH.out
    clear HH
    cases b with
    | false =>
      rw [if_neg (fun hq => by cases hq.1)] at H
      have HLop := Aside0.mk H
      clear H
      go_upto_region 6 with (first
        | (go_at_call 37; (first | (with_reducible refine (IsDue_any k gG gC _ 3 2 0 ex segs s 0 false _ w _ (HM.out.new (tb s)) rfl rfl rfl (by decide) (by decide) HSg.out HNn.out HL7.out HD.out).mono ?_) | (refine (IsDue_any k gG gC _ 3 2 0 ex segs s 0 false _ w _ (HM.out.new (tb s)) rfl rfl rfl (by decide) (by decide) HSg.out HNn.out HL7.out HD.out).mono ?_)); rintro e wz ⟨rfl, hmz⟩; have HN : Aside0 (Mem w [(b9, tb s), (gG, grO gC), (gC, ckO s), (w.heap.size + 1, tb 0), (w.heap.size, tb s)] wz) := Aside0.mk (hmz.drop 1); clear HM hmz; have HM := HN; clear HN; clear a0 a1 a2 a3 a4 a5 a6 e0 e1 e2 e3 e4 e5 e6 d0 d1 d2; obtain ⟨⟨a0, a1, a2⟩, ⟨a3, a4, a5⟩, a6⟩ := HM.out.c3 0 rfl; obtain ⟨⟨e0, e1, e2⟩, ⟨e3, e4, e5⟩, e6⟩ := HM.out.c3 3 rfl; obtain ⟨⟨d0, d1, d2⟩, _, _⟩ := HM.out.c3 4 rfl)
        | (go_at_call 44; (with_reducible refine (gronx_Segments.calls k ex segs none _ HSg.out).mono ?_); rintro e wz ⟨v0, rfl, ho, hb⟩; obtain ⟨ad, cap, cur, rfl, hba, hS, hA⟩ := seg_at ho HNn.out; rw [HL6.out]; have HSA := Aside0.mk hA; have HN : Aside0 (Mem w [(ad.block, .cells cur 9 (0, 0)), (b9, tb s), (gG, grO gC), (gC, ckO s), (w.heap.size + 1, tb 0), (w.heap.size, tb s)] wz) := Aside0.mk (HM.out.join hb hba hS); clear HM hb hba hS hA ho; have HM := HN; clear HN; clear a0 a1 a2 a3 a4 a5 a6 e0 e1 e2 e3 e4 e5 e6 d0 d1 d2; obtain ⟨⟨a0, a1, a2⟩, ⟨a3, a4, a5⟩, a6⟩ := HM.out.c3 1 rfl; obtain ⟨⟨e0, e1, e2⟩, ⟨e3, e4, e5⟩, e6⟩ := HM.out.c3 4 rfl; obtain ⟨⟨d0, d1, d2⟩, _, _⟩ := HM.out.c3 5 rfl; (try simp only [errW_none])))
      go_cut [49] (fun s49 wx => s49 = .bool false ∧ Aside0 (Mem w [(ad.block, .cells cur 9 (0, 0)), (b9, tb s), (gG, grO gC), (gC, ckO s), (w.heap.size + 1, tb 0), (w.heap.size, tb s)] wx))
      case first =>
        go_quiet (fail)
        all_goals (go_wp2_with fail; go_meet; exact ⟨rfl, ⟨by first | exact HM.out | exact HM.out.drew | exact HM.out.drewN _⟩⟩)
      case rest =>
        obtain ⟨rfl, HM⟩ := hcut
        clear a0 a1 a2 a3 a4 a5 a6 e0 e1 e2 e3 e4 e5 e6 d0 d1 d2
        obtain ⟨⟨a0, a1, a2⟩, ⟨a3, a4, a5⟩, a6⟩ := HM.out.c3 1 rfl
        obtain ⟨⟨e0, e1, e2⟩, ⟨e3, e4, e5⟩, e6⟩ := HM.out.c3 4 rfl
        obtain ⟨⟨d0, d1, d2⟩, _, _⟩ := HM.out.c3 5 rfl
        go_wp2_with (first
          | (go_at_call 47; (with_reducible refine (loop6_any k gG gC cap 3 2 0 ad cur segs s s r true incl [(ad.block, .cells cur 9 (0, 0)), (b9, tb s), (gG, grO gC), (gC, ckO s), (w.heap.size + 1, tb 0), (w.heap.size, tb s)] w _ HM.out rfl rfl rfl (by decide) (by decide) HSA.out HL6.out HStd.out HLop.out).mono ?_); rintro e wz ⟨rfl, sc, hmz⟩; have HN := Aside0.mk hmz; clear HM hmz; have HM := HN; clear HN; clear a0 a1 a2 a3 a4 a5 a6 e0 e1 e2 e3 e4 e5 e6 d0 d1 d2; obtain ⟨⟨a0, a1, a2⟩, ⟨a3, a4, a5⟩, a6⟩ := HM.out.c3 1 rfl; obtain ⟨⟨e0, e1, e2⟩, ⟨e3, e4, e5⟩, e6⟩ := HM.out.c3 4 rfl; obtain ⟨⟨d0, d1, d2⟩, _, _⟩ := HM.out.c3 5 rfl; have g9 : w.heap.size ≤ b9 := HM.out.ge 1 rfl; have n1 : (b9 = w.heap.size + 1) = False := eq_false (HM.out.ne 1 4 rfl rfl (by decide)); have n2 : (w.heap.size + 1 = b9) = False := eq_false (HM.out.ne 4 1 rfl rfl (by decide))))
        refine bodyPost_ret (v := .tuple #[.agg #[.int .u64 0, .int .i64 r, .pointer none], .nilIface]) (by simp [results, Tryz.results35, go_sem, *]) rfl ⟨rfl, ?_⟩
        repeat (with_reducible first | exact HM.out.below | apply below_alloc | apply pw_below_drewN | apply below_drew1 | refine below_set ?_ (by omega))
    | true =>
      cases incl with
      | false =>
        rw [if_neg (fun hq => by cases hq.2)] at H
        have HLop := Aside0.mk H
        clear H
        go_upto_region 6 with (first
          | (go_at_call 37; (first | (with_reducible refine (IsDue_any k gG gC _ 3 2 0 ex segs s 0 true _ w _ (HM.out.new (tb s)) rfl rfl rfl (by decide) (by decide) HSg.out HNn.out HL7.out HD.out).mono ?_) | (refine (IsDue_any k gG gC _ 3 2 0 ex segs s 0 true _ w _ (HM.out.new (tb s)) rfl rfl rfl (by decide) (by decide) HSg.out HNn.out HL7.out HD.out).mono ?_)); rintro e wz ⟨rfl, hmz⟩; have HN : Aside0 (Mem w [(b9, tb s), (gG, grO gC), (gC, ckO s), (w.heap.size + 1, tb 0), (w.heap.size, tb s)] wz) := Aside0.mk (hmz.drop 1); clear HM hmz; have HM := HN; clear HN; clear a0 a1 a2 a3 a4 a5 a6 e0 e1 e2 e3 e4 e5 e6 d0 d1 d2; obtain ⟨⟨a0, a1, a2⟩, ⟨a3, a4, a5⟩, a6⟩ := HM.out.c3 0 rfl; obtain ⟨⟨e0, e1, e2⟩, ⟨e3, e4, e5⟩, e6⟩ := HM.out.c3 3 rfl; obtain ⟨⟨d0, d1, d2⟩, _, _⟩ := HM.out.c3 4 rfl)
          | (go_at_call 44; (with_reducible refine (gronx_Segments.calls k ex segs none _ HSg.out).mono ?_); rintro e wz ⟨v0, rfl, ho, hb⟩; obtain ⟨ad, cap, cur, rfl, hba, hS, hA⟩ := seg_at ho HNn.out; rw [HL6.out]; have HSA := Aside0.mk hA; have HN : Aside0 (Mem w [(ad.block, .cells cur 9 (0, 0)), (b9, tb s), (gG, grO gC), (gC, ckO s), (w.heap.size + 1, tb 0), (w.heap.size, tb s)] wz) := Aside0.mk (HM.out.join hb hba hS); clear HM hb hba hS hA ho; have HM := HN; clear HN; clear a0 a1 a2 a3 a4 a5 a6 e0 e1 e2 e3 e4 e5 e6 d0 d1 d2; obtain ⟨⟨a0, a1, a2⟩, ⟨a3, a4, a5⟩, a6⟩ := HM.out.c3 1 rfl; obtain ⟨⟨e0, e1, e2⟩, ⟨e3, e4, e5⟩, e6⟩ := HM.out.c3 4 rfl; obtain ⟨⟨d0, d1, d2⟩, _, _⟩ := HM.out.c3 5 rfl; (try simp only [errW_none])))
        go_cut [49] (fun s49 wx => s49 = .bool false ∧ Aside0 (Mem w [(ad.block, .cells cur 9 (0, 0)), (b9, tb s), (gG, grO gC), (gC, ckO s), (w.heap.size + 1, tb 0), (w.heap.size, tb s)] wx))
        case first =>
          go_quiet (fail)
          all_goals (go_wp2_with fail; go_meet; exact ⟨rfl, ⟨by first | exact HM.out | exact HM.out.drew | exact HM.out.drewN _⟩⟩)
        case rest =>
          obtain ⟨rfl, HM⟩ := hcut
          clear a0 a1 a2 a3 a4 a5 a6 e0 e1 e2 e3 e4 e5 e6 d0 d1 d2
          obtain ⟨⟨a0, a1, a2⟩, ⟨a3, a4, a5⟩, a6⟩ := HM.out.c3 1 rfl
          obtain ⟨⟨e0, e1, e2⟩, ⟨e3, e4, e5⟩, e6⟩ := HM.out.c3 4 rfl
          obtain ⟨⟨d0, d1, d2⟩, _, _⟩ := HM.out.c3 5 rfl
          go_wp2_with (first
            | (go_at_call 47; (with_reducible refine (loop6_any k gG gC cap 3 2 0 ad cur segs s s r true false [(ad.block, .cells cur 9 (0, 0)), (b9, tb s), (gG, grO gC), (gC, ckO s), (w.heap.size + 1, tb 0), (w.heap.size, tb s)] w _ HM.out rfl rfl rfl (by decide) (by decide) HSA.out HL6.out HStd.out HLop.out).mono ?_); rintro e wz ⟨rfl, sc, hmz⟩; have HN := Aside0.mk hmz; clear HM hmz; have HM := HN; clear HN; clear a0 a1 a2 a3 a4 a5 a6 e0 e1 e2 e3 e4 e5 e6 d0 d1 d2; obtain ⟨⟨a0, a1, a2⟩, ⟨a3, a4, a5⟩, a6⟩ := HM.out.c3 1 rfl; obtain ⟨⟨e0, e1, e2⟩, ⟨e3, e4, e5⟩, e6⟩ := HM.out.c3 4 rfl; obtain ⟨⟨d0, d1, d2⟩, _, _⟩ := HM.out.c3 5 rfl; have g9 : w.heap.size ≤ b9 := HM.out.ge 1 rfl; have n1 : (b9 = w.heap.size + 1) = False := eq_false (HM.out.ne 1 4 rfl rfl (by decide)); have n2 : (w.heap.size + 1 = b9) = False := eq_false (HM.out.ne 4 1 rfl rfl (by decide))))
          refine bodyPost_ret (v := .tuple #[.agg #[.int .u64 0, .int .i64 r, .pointer none], .nilIface]) (by simp [results, Tryz.results35, go_sem, *]) rfl ⟨rfl, ?_⟩
          repeat (with_reducible first | exact HM.out.below | apply below_alloc | apply pw_below_drewN | apply below_drew1 | refine below_set ?_ (by omega))
      | true =>
        rw [if_pos ⟨rfl, rfl⟩] at H
        cases H
        go_wp2_with (first
          | (go_at_call 37; (first | (with_reducible refine (IsDue_any k gG gC _ 3 2 0 ex segs s 0 true _ w _ (HM.out.new (tb s)) rfl rfl rfl (by decide) (by decide) HSg.out HNn.out HL7.out HD.out).mono ?_) | (refine (IsDue_any k gG gC _ 3 2 0 ex segs s 0 true _ w _ (HM.out.new (tb s)) rfl rfl rfl (by decide) (by decide) HSg.out HNn.out HL7.out HD.out).mono ?_)); rintro e wz ⟨rfl, hmz⟩; have HN : Aside0 (Mem w [(b9, tb s), (gG, grO gC), (gC, ckO s), (w.heap.size + 1, tb 0), (w.heap.size, tb s)] wz) := Aside0.mk (hmz.drop 1); clear HM hmz; have HM := HN; clear HN; clear a0 a1 a2 a3 a4 a5 a6 e0 e1 e2 e3 e4 e5 e6 d0 d1 d2; obtain ⟨⟨a0, a1, a2⟩, ⟨a3, a4, a5⟩, a6⟩ := HM.out.c3 0 rfl; obtain ⟨⟨e0, e1, e2⟩, ⟨e3, e4, e5⟩, e6⟩ := HM.out.c3 3 rfl; obtain ⟨⟨d0, d1, d2⟩, _, _⟩ := HM.out.c3 4 rfl))
        refine bodyPost_ret (v := .tuple #[.agg #[.int .u64 0, .int .i64 s, .pointer none], .nilIface]) (by simp [results, Tryz.results35, go_sem, *]) rfl ⟨rfl, ?_⟩
        repeat (with_reducible first | exact HM.out.below | apply below_alloc | apply pw_below_drewN | apply below_drew1 | refine below_set ?_ (by omega))
end Go.Proofs.YtjpcdkhapeejjaaGreatDoor.A
end
section
namespace Go.Proofs.YtjpcdkhapeejjaaGreatDoor.A
open Go.RowKit Cal Go.Proofs.YtjpcdkhapeejjaaGreatDoorW.PrintWords Go.Proofs.YtjpcdkhapeejjaaGreatDoorW.PrintLast Go.Proofs.YtjpcdkhapeejjaaGreatDoorW.PrintMore
section
variable {f0 f1 f2 f3 f4 f5 : List S54}
def NearDown (f0 f1 f2 f3 f4 f5 : List S54) (x t : Int) : Prop := t ≤ x ∧ fitB f0 f1 f2 f3 f4 f5 t = true ∧ ∀ q, t < q → q ≤ x → ¬ fitB f0 f1 f2 f3 f4 f5 q = true
theorem down_of (x t : Int) : Least (fitE true f0 f1 f2 f3 f4 f5) x t ↔ NearDown f0 f1 f2 f3 f4 f5 (-1 - x) (-1 - t) := by
  unfold Least NearDown
  constructor
  · intro ⟨a, b, c⟩
    refine ⟨by omega, (fit_iff (rev := true) t).1 b, fun q q0 q1 hq => c (-1 - q) (by omega) (by omega) ((fit_iff (rev := true) (-1 - q)).2 ?_)⟩
    rw [co_t, show -1 - (-1 - q) = q by omega]; exact hq
  · intro ⟨a, b, c⟩
    exact ⟨by omega, (fit_iff (rev := true) t).2 b, fun q q0 q1 hq => c (-1 - q) (by omega) (by omega) ((fit_iff (rev := true) q).1 hq)⟩
end
end Go.Proofs.YtjpcdkhapeejjaaGreatDoor.A
end
section
namespace Go.Proofs.YtjpcdkhapeejjaaGreatDoor.A
open Go.RowKit Cal Go.Proofs.YtjpcdkhapeejjaaGreatDoorW.PrintWords Go.Proofs.YtjpcdkhapeejjaaGreatDoorW.PrintLast Go.Proofs.YtjpcdkhapeejjaaGreatDoorW.PrintMore
set_option maxRecDepth 100000
attribute [local go_sem] hset_drewN halloc_drewN
instance (y m d h mi se : Int) : Decidable (MomIn y m d h mi se) :=
  decidable_of_iff (1988 ≤ y ∧ y ≤ 2109 ∧ 1 ≤ m ∧ m ≤ 12 ∧ 0 ≤ d ∧ d ≤ 32 ∧ 0 ≤ h ∧ h ≤ 23 ∧ 0 ≤ mi ∧ mi ≤ 59 ∧ 0 ≤ se ∧ se ≤ 59) ⟨fun ⟨a, b, c, d, e, f, g, h, i, j, k, l⟩ => ⟨a, b, c, d, e, f, g, h, i, j, k, l⟩, fun q => ⟨q.y0, q.y1, q.m0, q.m1, q.d0, q.d1, q.h0, q.h1, q.mi0, q.mi1, q.s0, q.s1⟩⟩
set_option maxHeartbeats 8000000 in
theorem implPrev_any (k : Nat) (ex : ByteArray) (segs : List ByteArray) (y m d h mi se r : Int) (incl : Bool) (w : World) (hM : MomIn y m d h mi se) (hI : InR (mkS y m d h mi se)) (hR : InR r) (hstd : StdAt w ∨ incl = true)
    (hs : gronx_Segments.f k ex = some (segs, none)) (hl : segs.length = 6) (ht : tickOf k true incl segs (mkS y m d h mi se) = some r) :
    Calls Tryz.prog 19 #[.string ex, .agg #[.int .i64 y, .int .i64 m, .int .i64 d, .int .i64 h, .int .i64 mi, .int .i64 se], .bool incl] w fun e w' => e = .returned (.tuple #[.agg #[.int .i64 (yearS r), .int .i64 (monS r), .int .i64 (dayS r), .int .i64 (hourS r), .int .i64 (minS r), .int .i64 (secS r)], .bool true]) ∧ Below w.heap.size w w' := by
  have hu63 := Tryz.underlying63
  have hu26 := Tryz.underlying26
  have hu65 := Tryz.underlying65
  have HM := Aside0.mk (((Mem.start w).new (mo y m d h mi se)).new (mo 0 0 0 0 0 0))
  rw [World.size_alloc] at HM
  have TO := Aside0.mk fun W => timeOf_in y m d h mi se W hM
  have TK := Aside0.mk fun (W : World) (hb : Below w.heap.size w W) => PrevTick_any k ex segs (mkS y m d h mi se) r incl W hI (hstd.imp (fun q => q.below hb) id) hs (by omega) hl ht
  have TR := Aside0.mk fun W => momentOf_any r W hR
  obtain ⟨ms, hms⟩ : ∃ x : Int, mkS y m d h mi se = x := ⟨_, rfl⟩
  rw [hms] at TO TK
  clear hM hI hR hstd hs hl ht hms
  go_enter Tryz.func19, Tryz.ntmps19
  go_wp2_with (first
    | (go_at_call 31; (with_reducible refine (TO.out _).mono ?_); rintro e wz ⟨rfl, hb⟩; have HN := Aside0.mk (HM.out.step hb); clear HM hb; have HM := HN; clear HN)
    | (go_at_call 35; (with_reducible refine (TK.out _ HM.out.below).mono ?_); rintro e wz ⟨rfl, hb⟩; have HN := Aside0.mk ((HM.out.step hb).new (tb r)); clear HM hb; have HM := HN; clear HN)
    | (go_at_call 32; (with_reducible refine (TR.out _).mono ?_); rintro e wz ⟨rfl, hb⟩; have HN := Aside0.mk (HM.out.step hb); clear HM hb; have HM := HN; clear HN; obtain ⟨k0, k1, k2, k3, k4, k5⟩ := mo_cells (HM.out.at_ 1 rfl); obtain ⟨f0, f1, f2, f3, f4, f5⟩ := mo_fr (HM.out.at_ 1 rfl); have klt : w.heap.size + 1 < _ := HM.out.lt 1 rfl))
  refine bodyPost_ret (v := .tuple #[.agg #[.int .i64 (yearS r), .int .i64 (monS r), .int .i64 (dayS r), .int .i64 (hourS r), .int .i64 (minS r), .int .i64 (secS r)], .bool true]) (by simp [results, Tryz.results19, go_sem, *]) rfl ⟨rfl, ?_⟩
  repeat (with_reducible first | exact HM.out.below | apply below_alloc | apply pw_below_drewN | apply below_drew1 | refine below_set ?_ (by omega))
end Go.Proofs.YtjpcdkhapeejjaaGreatDoor.A
end
section
namespace Go.Proofs.YtjpcdkhapeejjaaGreatDoor.A
open Go.RowKit Go.Proofs.YtjpcdkhapeejjaaGreatDoorW.PrintWords Go.Proofs.YtjpcdkhapeejjaaGreatDoorW.PrintLast Go.Proofs.YtjpcdkhapeejjaaGreatDoorW.PrintMore
open Cal in
def impl_Prev.f (a0 : ByteArray) (a1_0 : Int) (a1_1 : Int) (a1_2 : Int) (a1_3 : Int) (a1_4 : Int) (a1_5 : Int) (a2 : Bool) : Option (Int × Int × Int × Int × Int × Int × Bool) :=
  (gronx_Segments.f KK a0).bind fun sg => if sg.2 = none ∧ sg.1.length = 6 ∧ MomIn a1_0 a1_1 a1_2 a1_3 a1_4 a1_5 ∧ InR (mkS a1_0 a1_1 a1_2 a1_3 a1_4 a1_5) then (tickOf KK true a2 sg.1 (mkS a1_0 a1_1 a1_2 a1_3 a1_4 a1_5)).bind fun t => if InR t then some (yearS t, monS t, dayS t, hourS t, minS t, secS t, true) else none else none
open Cal in
theorem impl_Prev.calls (a0 : ByteArray) (a1_0 : Int) (a1_1 : Int) (a1_2 : Int) (a1_3 : Int) (a1_4 : Int) (a1_5 : Int) (a2 : Bool) (r1 : Int) (r2 : Int) (r3 : Int) (r4 : Int) (r5 : Int) (r6 : Int) (r7 : Bool) (w : World) (h : impl_Prev.f a0 a1_0 a1_1 a1_2 a1_3 a1_4 a1_5 a2 = some (r1, r2, r3, r4, r5, r6, r7)) (hw : StdAt w ∨ a2 = true) :
    Calls Tryz.prog 19 #[.string a0, .agg #[.int .i64 a1_0, .int .i64 a1_1, .int .i64 a1_2, .int .i64 a1_3, .int .i64 a1_4, .int .i64 a1_5], .bool a2] w fun e w' => e = .returned (.tuple #[.agg #[.int .i64 r1, .int .i64 r2, .int .i64 r3, .int .i64 r4, .int .i64 r5, .int .i64 r6], .bool r7]) ∧ Below w.heap.size w w' := by
  unfold impl_Prev.f at h
  replace h := Option.bind_eq_some_iff.mp h
  obtain ⟨⟨segs, er⟩, hs, h⟩ := h
  by_cases c : er = none ∧ segs.length = 6 ∧ MomIn a1_0 a1_1 a1_2 a1_3 a1_4 a1_5 ∧ InR (mkS a1_0 a1_1 a1_2 a1_3 a1_4 a1_5)
  case neg => rw [if_neg c] at h; cases h
  rw [if_pos c] at h
  obtain ⟨rfl, hl, hM, hI⟩ := c
  replace h := Option.bind_eq_some_iff.mp h
  obtain ⟨t, ht, h⟩ := h
  by_cases ct : InR t
  case neg => rw [if_neg ct] at h; cases h
  rw [if_pos ct] at h
  cases h
  exact implPrev_any KK a0 segs a1_0 a1_1 a1_2 a1_3 a1_4 a1_5 t a2 w hM hI ct hw hs hl ht
end Go.Proofs.YtjpcdkhapeejjaaGreatDoor.A
end
section
namespace Go.Proofs.YtjpcdkhapeejjaaGreatDoor.A
open Go.RowKit Cal Go.Proofs.YtjpcdkhapeejjaaGreatDoorW.PrintWords Go.Proofs.YtjpcdkhapeejjaaGreatDoorW.PrintLast Go.Proofs.YtjpcdkhapeejjaaGreatDoorW.PrintMore
section
variable {f0 f1 f2 f3 f4 f5 : List S54}
theorem iprev_f (h : GoodE f0 f1 f2 f3 f4 f5) (sec : Bool) (hs : sec = false → f0 = noSec) (n : Nat) (hn : n ≤ 10) (incl : Bool) (y m d hh mi se s t : Int) (hM : MomIn y m d hh mi se) (hms : mkS y m d hh mi se = s) (hI : InR s) (ht : InR t) (hk : tickOf KK true incl (segsOf f0 f1 f2 f3 f4 f5) s = some t) :
    impl_Prev.f (strOfNums (joinW n (partsOf sec f0 f1 f2 f3 f4 f5))) y m d hh mi se incl = some (six t) := by
  have kk := kk_bd
  unfold impl_Prev.f
  rw [seg_good h sec hs n hn KK (by omega), Option.bind_some, hms, if_pos ⟨rfl, rfl, hM, hI⟩, hk, Option.bind_some, if_pos ht]
  rfl
end
end Go.Proofs.YtjpcdkhapeejjaaGreatDoor.A
end
namespace Go.Proofs.YtjpcdkhapeejjaaGreatDoor.A
open Go.RowKit Cal Go.Proofs.YtjpcdkhapeejjaaGreatDoorW.PrintWords Go.Proofs.YtjpcdkhapeejjaaGreatDoorW.PrintLast Go.Proofs.YtjpcdkhapeejjaaGreatDoorW.PrintMore
section
variable {f0 f1 f2 f3 f4 f5 : List S54}
theorem prev_tick (h : GoodE f0 f1 f2 f3 f4 f5) (s : Int) (s0 : lo0 + 34905600 ≤ s) (s1 : s ≤ hi0) (k : Nat) (hk : 190000 ≤ k) : ∃ t, NearDown f0 f1 f2 f3 f4 f5 (s - 1) t ∧ tickOf k true false (segsOf f0 f1 f2 f3 f4 f5) s = some t := by
  obtain ⟨t, ht, hd, hh⟩ := least_E true f0 f1 f2 f3 f4 f5 h (-1 - s + 1) (by rw [loD_t]; omega) (by rw [hiD_t]; omega)
  have hu := (down_of (-1 - s + 1) t).1 ht
  rw [show -1 - (-1 - s + 1) = s - 1 by omega] at hu
  have hx := ht.1
  have hh' := hh
  rw [hiD_t] at hh'
  refine ⟨-1 - t, hu, ?_⟩
  have := tick_behind (k := k) h (by omega) (-1 - s) t ht (by rw [loD_t]; omega) hh (by omega)
  rw [co_t, co_t, show -1 - (-1 - s) = s by omega] at this
  exact this
theorem row_seq (hE : GoodE f0 f1 f2 f3 f4 f5) (a : Bool) (s : Int) (hlo : lo0 + 34905600 ≤ s) (hhi : s + 250000000 ≤ hi0) :
    ∃ T : Nat → Int, (∀ i : Nat, i ≤ 5 → s ≤ T i ∧ T i ≤ s + 209433600) ∧
      (spec_Next.f KK (fsOf f0 f1 f2 f3 f4 f5) a (yearS s) (monS s) (dayS s) (hourS s) (minS s) (secS s) true = some (six (T 0)) ∧ tickOf KK false true (segsOf f0 f1 f2 f3 f4 f5) s = some (T 0)) ∧
      ∀ i : Nat, i < 5 → spec_Next.f KK (fsOf f0 f1 f2 f3 f4 f5) a (yearS (T i)) (monS (T i)) (dayS (T i)) (hourS (T i)) (minS (T i)) (secS (T i)) false = some (six (T (i + 1))) ∧
        tickOf KK false false (segsOf f0 f1 f2 f3 f4 f5) (T i) = some (T (i + 1)) ∧ tickOf KK true false (segsOf f0 f1 f2 f3 f4 f5) (T (i + 1)) = some (T i) := by
  have kk := kk_bd
  have step : ∀ x : Int, ∃ t : Int, lo0 ≤ x → x + 34905600 ≤ hi0 → (t ≤ x + 34905600 ∧ NearUp f0 f1 f2 f3 f4 f5 (x + 1) t ∧
      spec_Next.f KK (fsOf f0 f1 f2 f3 f4 f5) a (yearS x) (monS x) (dayS x) (hourS x) (minS x) (secS x) false = some (six t) ∧ tickOf KK false false (segsOf f0 f1 f2 f3 f4 f5) x = some t) := fun x => by
    by_cases c : lo0 ≤ x ∧ x + 34905600 ≤ hi0
    · obtain ⟨t, _, h1, h2, h3, h4⟩ := next_both hE a false x c.1 c.2 KK kk
      rw [if_neg (by decide)] at h2
      exact ⟨t, fun _ _ => ⟨h1, h2, h3, h4⟩⟩
    · exact ⟨x, fun p q => absurd ⟨p, q⟩ c⟩
  obtain ⟨N, hN⟩ := Classical.axiomOfChoice step
  obtain ⟨t0, g0, g1, g2, g3, g4⟩ := next_both hE a true s (by omega) (by omega) KK kk
  obtain ⟨T, hT0, hT⟩ : ∃ T : Nat → Int, T 0 = t0 ∧ ∀ i, T (i + 1) = N (T i) := ⟨fun i => Nat.rec t0 (fun _ x => N x) i, rfl, fun _ => rfl⟩
  have bd : ∀ i : Nat, i ≤ 5 → s ≤ T i ∧ T i ≤ s + 34905600 * ((i : Int) + 1) ∧ fitB f0 f1 f2 f3 f4 f5 (T i) = true := by
    intro i
    induction i with
    | zero => intro _; rw [hT0]; exact ⟨g0, by omega, g2.2.1⟩
    | succ i ih =>
      intro h
      obtain ⟨b0, b1, b2⟩ := ih (by omega)
      obtain ⟨h1, h2, _, _⟩ := hN (T i) (by omega) (by omega)
      rw [← hT] at h1 h2
      have h3 := h2.1
      exact ⟨by omega, by omega, h2.2.1⟩
  refine ⟨T, fun i hi => ?_, ?_, fun i hi => ?_⟩
  · have := bd i hi
    exact ⟨this.1, by omega⟩
  · rw [hT0]; exact ⟨g3, g4⟩
  · obtain ⟨b0, b1, b2⟩ := bd i (by omega)
    obtain ⟨h1, h2, h3, h4⟩ := hN (T i) (by omega) (by omega)
    rw [← hT] at h1 h2 h3 h4
    refine ⟨h3, h4, ?_⟩
    obtain ⟨p, p2, p4⟩ := prev_tick hE (T (i + 1)) (by have := h2.1; omega) (by omega) KK kk
    rw [p4]
    have q0 := h2.1
    have q1 := p2.1
    by_cases c : p = T i
    · rw [c]
    exfalso
    by_cases d : p < T i
    · exact p2.2.2 (T i) d (by omega) b2
    · exact h2.2.2 p (by omega) (by omega) p2.2.1
end
theorem row_all (l : List (List S53)) (a : Bool) (y m d h mi se a2 : Int) (A : Option Addr) (c : Nat) (w : World) (hSt : StdAt w) (hr : Kd.C (Kd.slice 53 k53) w A l.length l) (hc : l.length ≤ c) :
    Calls Tryz.prog 9 #[.agg #[.slice A l.length c, .bool a], .agg #[.int .i64 y, .int .i64 m, .int .i64 d, .int .i64 h, .int .i64 mi, .int .i64 se], .int .i64 a2] w fun e w' => e = .returned (.bool true) ∧ Below w.heap.size w w' := by
  obtain ⟨b, ⟨K1, h1⟩, q1⟩ := fits_f l a
  have C10 := Aside0.mk fun (W : World) (hb : Below w.heap.size w W) => laws_zzFits1.calls K1 A c l a b W (Kd.C_below hr hb) hc (h1 K1 (Nat.le_refl _))
  cases b with
  | false => exact row_a A c l a y m d h mi se a2 w C10
  | true =>
  have hs := q1 rfl
  obtain ⟨q, ⟨K3, h3⟩, q3⟩ := asked_f (cvE l) a (cv_small hs) y m d h mi se
  obtain ⟨K2, h2⟩ := expr_f l hs a
  have C11 := Aside0.mk fun (W : World) (hb : Below w.heap.size w W) => laws_expr.calls K2 A c l a (cvE l) a W (Kd.C_below hr hb) hc (h2 K2 (Nat.le_refl _))
  have C12 := Aside0.mk fun (W : World) (Ao : Option Addr) (co : Nat) (hC : Kd.C (Kd.slice 54 k54) W Ao (cvE l).length (cvE l)) (hc' : (cvE l).length ≤ co) => laws_asked.calls K3 Ao co (cvE l) a y m d h mi se q W hC hc' (h3 K3 (Nat.le_refl _))
  cases q with
  | false => exact row_b A c l a y m d h mi se a2 w (cvE l) a false C10 C11 C12 (.inl rfl)
  | true =>
  by_cases d0 : a2 < 1
  · exact row_b A c l a y m d h mi se a2 w (cvE l) a true C10 C11 C12 (.inr (.inl (decide_eq_true d0)))
  by_cases d1 : 5 < a2
  · exact row_b A c l a y m d h mi se a2 w (cvE l) a true C10 C11 C12 (.inr (.inr ⟨decide_eq_false d0, decide_eq_true d1⟩))
  obtain ⟨⟨f0, f1, f2, f3, f4, f5, hfs, hE, hns⟩, hG⟩ := q3 rfl
  obtain ⟨s, hms, e1, e2, e3, e4, e5, e6, hlo, hhi, hM⟩ := hG.at_
  have kk := kk_bd
  obtain ⟨T, hB, ⟨hsp, htk⟩, hT⟩ := row_seq hE a s hlo hhi
  have hI : InR s := inr_of (by omega) (by omega)
  have hIt : ∀ i, i ≤ 5 → InR (T i) := fun i hi => by have := hB i hi; exact inr_of (by omega) (by omega)
  have hin := inext_f hE a hns 0 (by decide) true y m d h mi se s (T 0) hM hms hI (hIt 0 (by omega)) htk
  have htx := text_f hE a KK (by omega)
  rw [e1, e2, e3, e4, e5, e6] at hsp
  rw [← hfs] at htx hsp
  exact row_c A c l a y m d h mi se a2 w (cvE l) a _ (fun i => yearS (T i)) (fun i => monS (T i)) (fun i => dayS (T i)) (fun i => hourS (T i)) (fun i => minS (T i)) (fun i => secS (T i)) C10 C11 C12 (decide_eq_false d0) (decide_eq_false d1)
    ⟨fun W Ao co hC hc' => spec_Text.calls KK Ao co (cvE l) a _ W hC hc' htx⟩
    ⟨fun W hw => impl_Next.calls _ y m d h mi se true _ _ _ _ _ _ true W hin (.inr rfl)⟩
    ⟨fun W => laws_moment.calls y m d h mi se y m d h mi se W rfl⟩
    ⟨fun W Ao co hC hc' => spec_Next.calls KK Ao co (cvE l) a y m d h mi se true _ _ _ _ _ _ true W hC hc' hsp⟩
    ⟨fun i hi W hw => impl_Next.calls _ _ _ _ _ _ _ false _ _ _ _ _ _ true W (inext_f hE a hns 0 (by decide) false _ _ _ _ _ _ (T i) (T (i + 1)) (momin_of (hIt i (by omega))) (mk_rt _) (hIt i (by omega)) (hIt (i + 1) (by omega)) (hT i hi).2.1) (.inl (hSt.below hw))⟩
    ⟨fun i hi W Ao co hC hc' => spec_Next.calls KK Ao co (cvE l) a _ _ _ _ _ _ false _ _ _ _ _ _ true W hC hc' (by rw [hfs]; exact (hT i hi).1)⟩
    ⟨fun i hi W hw => impl_Prev.calls _ _ _ _ _ _ _ false _ _ _ _ _ _ true W (iprev_f hE a hns 0 (by decide) false _ _ _ _ _ _ (T (i + 1)) (T i) (momin_of (hIt (i + 1) (by omega))) (mk_rt _) (hIt (i + 1) (by omega)) (hIt i (by omega)) (hT i hi).2.2) (.inl (hSt.below hw))⟩
    ⟨fun i W => same_yes _ _ _ _ _ _ W ⟨fun W => laws_moment.calls _ _ _ _ _ _ _ _ _ _ _ _ W rfl⟩⟩
end Go.Proofs.YtjpcdkhapeejjaaGreatDoor.A
