/- Steps of the proof of the law: contracts of functions of the given program, and plain lemmas about what they compute.
Conditions: none beyond those that each theorem names. -/
import Derived.Test.YtjpcdkhapeejjaaGreatDoorK02
import Derived.Test.YtjpcdkhapeejjaaGreatDoorK41
import Derived.Test.YtjpcdkhapeejjaaGreatDoorK44
import Derived.Test.YtjpcdkhapeejjaaGreatDoorK45
import Derived.Test.YtjpcdkhapeejjaaGreatDoorKA
import Derived.Test.YtjpcdkhapeejjaaGreatDoorP00
import Derived.Test.YtjpcdkhapeejjaaGreatDoorPD
set_option linter.unusedVariables false
set_option linter.unusedSimpArgs false
section
namespace Go.Proofs.YtjpcdkhapeejjaaGreatDoor.A
open Go.RowKit Cal Go.Proofs.YtjpcdkhapeejjaaGreatDoorW.PrintWords Go.Proofs.YtjpcdkhapeejjaaGreatDoorW.PrintLast Go.Proofs.YtjpcdkhapeejjaaGreatDoorW.PrintMore
theorem fmtL_eq (s : Int) : fmtL s = [48 + yearS s / 1000, 48 + yearS s / 100 % 10, 48 + yearS s / 10 % 10, 48 + yearS s % 10, 45, 48 + monS s / 10, 48 + monS s % 10, 45, 48 + dayS s / 10, 48 + dayS s % 10, 32, 48 + hourS s / 10, 48 + hourS s % 10, 58, 48 + minS s / 10, 48 + minS s % 10, 58, 48 + secS s / 10, 48 + secS s % 10] := by
  unfold fmtL four two
  rfl
theorem fmt_inj {a b : Int} (ha : InR a) (hb : InR b) (h : (fmtB a).toList = (fmtB b).toList) : a = b := by
  have by_ : ∀ s, InR s → by8 (fmtL s) := fun s hs => by
    have y := year_bd s hs
    have m := mon_bd s
    have d := day_bd s
    have hh := hour_bd s
    have mi := min_bd s
    have se := sec_bd s
    rw [fmtL_eq]
    intro x hx
    simp only [List.mem_cons, List.not_mem_nil, or_false] at hx
    omega
  have e := (s_list_eq (by_ a ha) (by_ b hb)).1 h
  rw [fmtL_eq, fmtL_eq] at e
  simp only [List.cons.injEq, and_true, true_and] at e
  have ya := year_bd a ha
  have yb := year_bd b hb
  have ma := mon_bd a
  have mb := mon_bd b
  have da := day_bd a
  have db := day_bd b
  have ha2 := hour_bd a
  have hb2 := hour_bd b
  have mia := min_bd a
  have mib := min_bd b
  have sa := sec_bd a
  have sb := sec_bd b
  rw [← mk_rt a, ← mk_rt b]
  rw [show yearS a = yearS b by omega, show monS a = monS b by omega, show dayS a = dayS b by omega, show hourS a = hourS b by omega, show minS a = minS b by omega, show secS a = secS b by omega]
section
variable {rev : Bool} {k : Nat} {f0 f1 f2 f3 f4 f5 : List S54}
theorem lop_hit (incl : Bool) (start : Int) (n : Nat) (x y : Int) (h : cor rev (rnd k rev (segsOf f0 f1 f2 f3 f4 f5) 6 (co rev x)) = some (y, true)) :
    lop k rev incl start (segsOf f0 f1 f2 f3 f4 f5) (n + 1) (co rev x) = lop k rev incl start (segsOf f0 f1 f2 f3 f4 f5) n (co rev y) := by
  rw [lop, show (segsOf f0 f1 f2 f3 f4 f5).length = 6 from rfl, cor_some h, Option.bind_some, lopC, if_pos rfl]
theorem lop_end (incl : Bool) (start : Int) (n : Nat) (x : Int) (h : cor rev (rnd k rev (segsOf f0 f1 f2 f3 f4 f5) 6 (co rev x)) = some (x, false)) :
    lop k rev incl start (segsOf f0 f1 f2 f3 f4 f5) (n + 1) (co rev x) = if incl = true then some (co rev x) else if InR (co rev x) ∧ InR start then (if (fmtB (co rev x)).toList = (fmtB start).toList then lop k rev incl start (segsOf f0 f1 f2 f3 f4 f5) n (if rev = true then co rev x - 1 else co rev x + 1) else some (co rev x)) else none := by
  rw [lop, show (segsOf f0 f1 f2 f3 f4 f5).length = 6 from rfl, cor_some h, Option.bind_some, lopC, if_neg (fun hq => by cases hq)]
theorem inr_co {x : Int} (a : loD rev ≤ x) (b : x ≤ hiD rev) : InR (co rev x) := by
  have := co_in a b
  exact inr_of (by omega) (by omega)
/-- From x on, the search ends at the nearest moment that fits, unless that is its start. -/
theorem lop_reach (hE : GoodE f0 f1 f2 f3 f4 f5) (hk : 1000 ≤ k) (incl : Bool) (start : Int) (x t : Int) (hl : Least (fitE rev f0 f1 f2 f3 f4 f5) x t) (hx : loD rev ≤ x) (ht : t ≤ hiD rev) (D : Nat) (hD : t / 86400 - x / 86400 ≤ (D : Int)) (hn : incl = true ∨ (co rev t ≠ start ∧ InR start)) (n : Nat) (hN : D + 10 ≤ n) :
    lop k rev incl start (segsOf f0 f1 f2 f3 f4 f5) n (co rev x) = some (co rev t) := by
  have hR := round_E rev k f0 f1 f2 f3 f4 f5 hE hk
  obtain ⟨c, hc, hs⟩ := l_any hR.1 (it := fun n x => lop k rev incl start (segsOf f0 f1 f2 f3 f4 f5) n (co rev x)) (fun n x y h => lop_hit incl start n x y h) (full_E rev f0 f1 f2 f3 f4 f5 hE) ht D x hl hx hD
  have hxt := hl.1
  have e := hs (n - c)
  have e : lop k rev incl start (segsOf f0 f1 f2 f3 f4 f5) (n - c + c) (co rev x) = lop k rev incl start (segsOf f0 f1 f2 f3 f4 f5) (n - c) (co rev t) := e
  rw [show n - c + c = n by omega] at e
  rw [e]
  obtain ⟨n', hn'⟩ : ∃ n', n - c = n' + 1 := ⟨n - c - 1, by omega⟩
  rw [hn', lop_end incl start n' t (hR.2 t t (by omega) (Int.le_refl _) ht hl.2.1 hl.2.1)]
  by_cases hi : incl = true
  · rw [if_pos hi]
  · rw [if_neg hi]
    rcases hn with a | ⟨hne, hI⟩
    · exact absurd a hi
    · rw [if_pos ⟨inr_co (by omega) ht, hI⟩, if_neg (fun q => hne (fmt_inj (inr_co (by omega) ht) hI q))]
theorem co_step (x : Int) : (if rev = true then co rev x - 1 else co rev x + 1) = co rev (x + 1) := by
  cases rev
  · rfl
  · rw [if_pos rfl, co_t, co_t]; omega
instance fitDec (x : Int) : Decidable ((fitE rev f0 f1 f2 f3 f4 f5).at x) := inferInstanceAs (Decidable ((hasF 5 f5 _ = true ∧ hasF 4 f4 _ = true ∧ hasF 3 f3 _ = true) ∧ hasF 2 f2 _ = true ∧ hasF 1 f1 _ = true ∧ hasF 0 f0 _ = true))
/-- Behind the start alone. -/
theorem lop_behind (hE : GoodE f0 f1 f2 f3 f4 f5) (hk : 1000 ≤ k) (x t : Int) (hl : Least (fitE rev f0 f1 f2 f3 f4 f5) (x + 1) t) (hx : loD rev ≤ x) (ht : t ≤ hiD rev) (D : Nat) (hD : t / 86400 - x / 86400 ≤ (D : Int)) (n : Nat) (hN : D + 11 ≤ n) :
    lop k rev false (co rev x) (segsOf f0 f1 f2 f3 f4 f5) n (co rev x) = some (co rev t) := by
  have hxt := hl.1
  have hI : InR (co rev x) := inr_co hx (by omega)
  have hne : co rev t ≠ co rev x := fun e => by
    have := congrArg (co rev) e
    rw [co_co, co_co] at this
    omega
  by_cases hf : (fitE rev f0 f1 f2 f3 f4 f5).at x
  · have hR := round_E rev k f0 f1 f2 f3 f4 f5 hE hk
    obtain ⟨n', rfl⟩ : ∃ n', n = n' + 1 := ⟨n - 1, by omega⟩
    rw [lop_end false (co rev x) n' x (hR.2 x t hx (by omega) ht hl.2.1 hf), if_neg (by decide), if_pos ⟨hI, hI⟩, if_pos rfl, co_step]
    exact lop_reach hE hk false (co rev x) (x + 1) t hl (by omega) ht D (by omega) (.inr ⟨hne, hI⟩) n' (by omega)
  · have hl2 : Least (fitE rev f0 f1 f2 f3 f4 f5) x t := ⟨by omega, hl.2.1, fun q a b => by
      by_cases e : q = x
      · rw [e]; exact hf
      · exact hl.2.2 q (by omega) b⟩
    exact lop_reach hE hk false (co rev x) x t hl2 hx ht D hD (.inr ⟨hne, hI⟩) n (by omega)
theorem sdue_step (segs : List ByteArray) (j : Nat) (J : Int) (hJ : (j : Int) = J) (l : List S54) (s : Int) (hg : GoodF J l) (hj : J ≤ 5) (hs : rdOf ByteArray.empty segs J = tx l) (hi : (tx l).toList ≠ [42] → isect k segs (tx l) j = some ()) (hI : InR s) (hk : 1000 ≤ k) :
    sdue k segs s (j + 1) = if hasF J l (posV s J) = true then sdue k segs s j else some false := by
  subst hJ
  have hb := field_by8 (j : Int) l hg.it
  have hp := pos_bd s (j : Int) (by omega) hj
  rw [sdue, hs]
  by_cases c : (tx l).toList = ([42] : List UInt8)
  · have hst : StarF l := by
      refine text_star (j : Int) l hg ?_
      unfold tx at c
      by_cases d : fieldL l = [42]
      · exact d
      · exact absurd c (ns42 hb d)
    rw [if_pos c, if_pos (star_has (j : Int) l hst _ hp.1 hp.2)]
  · have c63 : ¬ (tx l).toList = ([63] : List UInt8) := by
      unfold tx
      refine ns63 hb fun d => ?_
      have := field_mem (j : Int) l hg.it 63 (by rw [d]; exact List.mem_singleton.2 rfl)
      omega
    have := due_f k (j : Int) l s hg (by omega) hj hI hk
    have : dueA k (tx l) (j : Int) s = some (hasF (j : Int) l (posV s (j : Int))) := this
    rw [if_neg c, if_neg c63, hi c, Option.bind_some, this, Option.bind_some]
/-- Whether an expression is due at a moment. -/
def fitB (f0 f1 f2 f3 f4 f5 : List S54) (s : Int) : Bool := hasF 5 f5 (wdS s) && (hasF 4 f4 (monS s) && (hasF 3 f3 (dayS s) && (hasF 2 f2 (hourS s) && (hasF 1 f1 (minS s) && hasF 0 f0 (secS s)))))
theorem sdue_E (hE : GoodE f0 f1 f2 f3 f4 f5) (hk : 1000 ≤ k) (s : Int) (hI : InR s) : sdue k (segsOf f0 f1 f2 f3 f4 f5) s 6 = some (fitB f0 f1 f2 f3 f4 f5 s) := by
  have q : ∀ j : Nat, j ≠ 5 → ∀ sg, isect k (segsOf f0 f1 f2 f3 f4 f5) sg j = some () := fun j hj sg => by unfold isect; rw [if_neg hj]
  rw [sdue_step (segsOf f0 f1 f2 f3 f4 f5) 5 5 rfl f5 s hE.g5 (by decide) rfl (fun c => isect_ok k f0 f1 f2 f3 f4 f5 hE c hk) hI hk]
  rw [sdue_step (segsOf f0 f1 f2 f3 f4 f5) 4 4 rfl f4 s hE.g4 (by decide) rfl (fun c => q 4 (by decide) _) hI hk]
  rw [sdue_step (segsOf f0 f1 f2 f3 f4 f5) 3 3 rfl f3 s hE.g3 (by decide) rfl (fun c => q 3 (by decide) _) hI hk]
  rw [sdue_step (segsOf f0 f1 f2 f3 f4 f5) 2 2 rfl f2 s hE.g2 (by decide) rfl (fun c => q 2 (by decide) _) hI hk]
  rw [sdue_step (segsOf f0 f1 f2 f3 f4 f5) 1 1 rfl f1 s hE.g1 (by decide) rfl (fun c => q 1 (by decide) _) hI hk]
  rw [sdue_step (segsOf f0 f1 f2 f3 f4 f5) 0 0 rfl f0 s hE.g0 (by decide) rfl (fun c => q 0 (by decide) _) hI hk]
  show _ = some (hasF 5 f5 (posV s 5) && (hasF 4 f4 (posV s 4) && (hasF 3 f3 (posV s 3) && (hasF 2 f2 (posV s 2) && (hasF 1 f1 (posV s 1) && hasF 0 f0 (posV s 0))))))
  cases hasF 5 f5 (posV s 5)
  · rfl
  cases hasF 4 f4 (posV s 4)
  · rfl
  cases hasF 3 f3 (posV s 3)
  · rfl
  cases hasF 2 f2 (posV s 2)
  · rfl
  cases hasF 1 f1 (posV s 1)
  · rfl
  cases hasF 0 f0 (posV s 0)
  · rfl
  · rfl
theorem fit_iff (x : Int) : (fitE rev f0 f1 f2 f3 f4 f5).at x ↔ fitB f0 f1 f2 f3 f4 f5 (co rev x) = true := by
  have e : (fitE rev f0 f1 f2 f3 f4 f5).at x ↔ (hasF 5 f5 (posV (co rev x) 5) = true ∧ hasF 4 f4 (posV (co rev x) 4) = true ∧ hasF 3 f3 (posV (co rev x) 3) = true) ∧ hasF 2 f2 (posV (co rev x) 2) = true ∧ hasF 1 f1 (posV (co rev x) 1) = true ∧ hasF 0 f0 (posV (co rev x) 0) = true := by
    rw [p5, p4, p3, p2, p1, p0]; exact Iff.rfl
  have e2 : fitB f0 f1 f2 f3 f4 f5 (co rev x) = (hasF 5 f5 (posV (co rev x) 5) && (hasF 4 f4 (posV (co rev x) 4) && (hasF 3 f3 (posV (co rev x) 3) && (hasF 2 f2 (posV (co rev x) 2) && (hasF 1 f1 (posV (co rev x) 1) && hasF 0 f0 (posV (co rev x) 0)))))) := rfl
  rw [e, e2]
  simp only [Bool.and_eq_true]
  exact ⟨fun ⟨⟨a, b, c⟩, d, e, f⟩ => ⟨a, b, c, d, e, f⟩, fun ⟨a, b, c, d, e, f⟩ => ⟨⟨a, b, c⟩, d, e, f⟩⟩
/-- The tick, with the moment itself. -/
theorem tick_incl (hE : GoodE f0 f1 f2 f3 f4 f5) (hk : 1000 ≤ k) (x t : Int) (hl : Least (fitE rev f0 f1 f2 f3 f4 f5) x t) (hx : loD rev ≤ x) (ht : t ≤ hiD rev) (hD : t / 86400 - x / 86400 ≤ 450) :
    tickOf k rev true (segsOf f0 f1 f2 f3 f4 f5) (co rev x) = some (co rev t) := by
  have hxt := hl.1
  unfold tickOf
  rw [show (segsOf f0 f1 f2 f3 f4 f5).length = 6 from rfl, sdue_E hE hk _ (inr_co hx (by omega)), Option.bind_some]
  by_cases hf : fitB f0 f1 f2 f3 f4 f5 (co rev x) = true
  · rw [if_pos ⟨hf, rfl⟩]
    have := hl.le (Int.le_refl x) ((fit_iff x).2 hf)
    rw [show t = x by omega]
  · rw [if_neg (fun q => hf q.1)]
    exact lop_reach hE hk true _ x t hl hx ht 450 (by omega) (.inl rfl) 500 (by decide)
/-- The tick behind the moment. -/
theorem tick_behind (hE : GoodE f0 f1 f2 f3 f4 f5) (hk : 1000 ≤ k) (x t : Int) (hl : Least (fitE rev f0 f1 f2 f3 f4 f5) (x + 1) t) (hx : loD rev ≤ x) (ht : t ≤ hiD rev) (hD : t / 86400 - x / 86400 ≤ 450) :
    tickOf k rev false (segsOf f0 f1 f2 f3 f4 f5) (co rev x) = some (co rev t) := by
  have hxt := hl.1
  unfold tickOf
  rw [show (segsOf f0 f1 f2 f3 f4 f5).length = 6 from rfl, sdue_E hE hk _ (inr_co hx (by omega)), Option.bind_some, if_neg (fun q => by cases q.2)]
  exact lop_behind hE hk x t hl hx ht 450 (by omega) 500 (by decide)
end
end Go.Proofs.YtjpcdkhapeejjaaGreatDoor.A
end
section
namespace Go.Proofs.YtjpcdkhapeejjaaGreatDoor.A
open Go.RowKit Cal Go.Proofs.YtjpcdkhapeejjaaGreatDoorW.PrintWords Go.Proofs.YtjpcdkhapeejjaaGreatDoorW.PrintLast Go.Proofs.YtjpcdkhapeejjaaGreatDoorW.PrintMore
theorem dim_feb (y : Int) : 28 ≤ dim y 2 ∧ dim y 2 ≤ 29 := by
  unfold dim; rw [if_pos rfl]; split <;> decide
/-- A year's months, by their first days. -/
theorem year_tab (y : Int) : ordE y 2 1 = ordE y 1 1 + 31 ∧ ordE y 3 1 = ordE y 2 1 + dim y 2 ∧ ordE y 4 1 = ordE y 3 1 + 31 ∧ ordE y 5 1 = ordE y 4 1 + 30 ∧ ordE y 6 1 = ordE y 5 1 + 31 ∧ ordE y 7 1 = ordE y 6 1 + 30 ∧ ordE y 8 1 = ordE y 7 1 + 31 ∧ ordE y 9 1 = ordE y 8 1 + 31 ∧ ordE y 10 1 = ordE y 9 1 + 30 ∧ ordE y 11 1 = ordE y 10 1 + 31 ∧ ordE y 12 1 = ordE y 11 1 + 30 ∧ ordE (y + 1) 1 1 = ordE y 12 1 + 31 :=
  ⟨ord_mon y 1 (by decide) (by decide), ord_mon y 2 (by decide) (by decide), ord_mon y 3 (by decide) (by decide), ord_mon y 4 (by decide) (by decide), ord_mon y 5 (by decide) (by decide), ord_mon y 6 (by decide) (by decide), ord_mon y 7 (by decide) (by decide), ord_mon y 8 (by decide) (by decide), ord_mon y 9 (by decide) (by decide), ord_mon y 10 (by decide) (by decide), ord_mon y 11 (by decide) (by decide), ord_yr y⟩
/-- A date of a year lies in it, and a year later the same month begins 365 or 366 days later. -/
theorem year_mon (y m : Int) (m0 : 1 ≤ m) (m1 : m ≤ 12) : ordE y 1 1 ≤ ordE y m 1 ∧ ordE y m 1 ≤ ordE y 1 1 + 335 ∧ ordE y m 1 + dim y m ≤ ordE (y + 1) 1 1 ∧ ordE (y + 1) 1 1 ≤ ordE y 1 1 + 366 ∧ ordE (y + 1) m 1 ≤ ordE y m 1 + 366 := by
  obtain ⟨a1, a2, a3, a4, a5, a6, a7, a8, a9, a10, a11, a12⟩ := year_tab y
  obtain ⟨b1, b2, b3, b4, b5, b6, b7, b8, b9, b10, b11, b12⟩ := year_tab (y + 1)
  have f1 := dim_feb y
  have f2 := dim_feb (y + 1)
  have hl : dim y 2 = 29 → dim (y + 1) 2 = 28 := by
    intro h
    rcases dim_cases y 2 (by decide) (by decide) with ⟨_, q, e⟩ | ⟨_, q, e⟩ | ⟨q, _⟩ | ⟨q, _⟩
    · rcases dim_cases (y + 1) 2 (by decide) (by decide) with ⟨_, q2, e2⟩ | ⟨_, q2, e2⟩ | ⟨q2, _⟩ | ⟨q2, _⟩
      · rw [leapY_iff] at q q2; omega
      · exact e2
      · omega
      · omega
    · omega
    · omega
    · omega
  rcases mcases m0 m1 with rfl | rfl | rfl | rfl | rfl | rfl | rfl | rfl | rfl | rfl | rfl | rfl
  · have d : dim y 1 = 31 := rfl
    omega
  · omega
  · have d : dim y 3 = 31 := rfl
    omega
  · have d : dim y 4 = 30 := rfl
    omega
  · have d : dim y 5 = 31 := rfl
    omega
  · have d : dim y 6 = 30 := rfl
    omega
  · have d : dim y 7 = 31 := rfl
    omega
  · have d : dim y 8 = 31 := rfl
    omega
  · have d : dim y 9 = 30 := rfl
    omega
  · have d : dim y 10 = 31 := rfl
    omega
  · have d : dim y 11 = 30 := rfl
    omega
  · have d : dim y 12 = 31 := rfl
    omega
/-- A day that fits, of each year: its month is the same one each year. -/
def dayFit (f3 f4 f5 : List S54) (E : Int) : Prop := hasF 5 f5 (wdE E) = true ∧ hasF 4 f4 (monE E) = true ∧ hasF 3 f3 (dayE E) = true
theorem year_day {f0 f1 f2 f3 f4 f5 : List S54} (h : GoodE f0 f1 f2 f3 f4 f5) : ∃ m, 1 ≤ m ∧ m ≤ 12 ∧ ∀ y, 1 ≤ y → y ≤ 2900 → ∃ d, 1 ≤ d ∧ d ≤ dim y m ∧ dayFit f3 f4 f5 (ordE y m d) := by
  obtain ⟨v4, a4, b4, h4⟩ := has_some 4 f4 h.g4 (by decide) (by decide)
  have a4 : 1 ≤ v4 := a4
  have b4 : v4 ≤ 12 := b4
  have wd6 : ∀ E, 0 ≤ wdE E ∧ wdE E ≤ 6 := fun E => by unfold wdE; omega
  rcases h.st with hs | hs
  · -- all days of the month: a day of the week is met in its first seven days
    obtain ⟨v5, a5, b5, h5⟩ := has_some 5 f5 h.g5 (by decide) (by decide)
    have a5 : 0 ≤ v5 := a5
    have b5 : v5 ≤ 6 := b5
    refine ⟨v4, a4, b4, fun y y0 y1 => ?_⟩
    have hd := dim_bd y v4 a4 b4
    refine ⟨1 + (v5 - wdE (ordE y v4 1)) % 7, by omega, by omega, ?_⟩
    have at_ := at_date y v4 (1 + (v5 - wdE (ordE y v4 1)) % 7) y0 y1 ⟨a4, b4, by omega, by omega⟩
    have hw : wdE (ordE y v4 (1 + (v5 - wdE (ordE y v4 1)) % 7)) = v5 := by
      rw [ord_day1]
      have e : ∀ u : Int, wdE u = (u + 3) % 7 := fun u => rfl
      rw [e, e]
      omega
    exact ⟨by rw [hw]; exact h5, by rw [at_.2.1]; exact h4, star_has 3 f3 hs _ (by rw [at_.1]; show (1 : Int) ≤ _; omega) (by rw [at_.1]; show _ ≤ (31 : Int); omega)⟩
  · -- all days of the week: a number of the field of days
    obtain ⟨x, xs, hx⟩ : ∃ x xs, f3 = x :: xs := by
      cases hf : f3 with
      | nil => exact absurd hf h.g3.ne
      | cons x xs => exact ⟨x, xs, rfl⟩
    have gx := h.g3.it x (by rw [hx]; exact List.mem_cons_self)
    obtain ⟨n, hn⟩ : ∃ n, n = if x.f0 = true then (1 : Int) else x.f1 := ⟨_, rfl⟩
    have hin : hasF 3 f3 n = true := by
      rw [hx]
      unfold hasF
      rw [List.any_cons]
      have : hasI 3 x n = true := by
        unfold hasI
        rw [hn]
        cases hf : x.f0 with
        | true =>
          rw [if_pos rfl, if_pos rfl, if_pos rfl]
          exact decide_eq_true ⟨by decide, by decide, by show ((1 : Int) - 1) % x.f3 = 0; rw [Int.sub_self]; exact Int.zero_emod _⟩
        | false =>
          have := gx.r hf
          rw [if_neg (show ¬ (false = true) by decide), if_neg (show ¬ (false = true) by decide), if_neg (show ¬ (false = true) by decide)]
          exact decide_eq_true ⟨Int.le_refl _, this.2.2, by rw [Int.sub_self]; exact Int.zero_emod _⟩
      rw [this, Bool.true_or]
    have n1 : 1 ≤ n ∧ n ≤ 31 := by
      rw [hn]
      cases hf : x.f0 with
      | true => rw [if_pos rfl]; decide
      | false =>
        have := gx.r hf
        rw [if_neg (show ¬ (false = true) by decide)]
        have e1 : low 3 = 1 := rfl
        have e2 : high 3 = 31 := rfl
        omega
    by_cases h31 : n ≤ 28
    · refine ⟨v4, a4, b4, fun y y0 y1 => ?_⟩
      have hd := dim_bd y v4 a4 b4
      have at_ := at_date y v4 n y0 y1 ⟨a4, b4, by omega, by omega⟩
      exact ⟨n, by omega, by omega, star_has 5 f5 hs _ (wd6 _).1 (wd6 _).2, by rw [at_.2.1]; exact h4, by rw [at_.1]; exact hin⟩
    · have hs4 : StarF f4 := by
        rcases h.d28 with a | a
        · exact a
        · exfalso
          cases hf : x.f0 with
          | true => rw [hf, if_pos rfl] at hn; omega
          | false =>
            have := a x (by rw [hx]; exact List.mem_cons_self) hf
            rw [hf, if_neg (show ¬ (false = true) by decide)] at hn
            omega
      refine ⟨1, by decide, by decide, fun y y0 y1 => ?_⟩
      have d31 : dim y 1 = 31 := rfl
      have at_ := at_date y 1 n y0 y1 ⟨by decide, by decide, by omega, by omega⟩
      exact ⟨n, by omega, by omega, star_has 5 f5 hs _ (wd6 _).1 (wd6 _).2, star_has 4 f4 hs4 _ (by rw [at_.2.1]; decide) (by rw [at_.2.1]; decide), by rw [at_.1]; exact hin⟩
theorem day_on {f0 f1 f2 f3 f4 f5 : List S54} (h : GoodE f0 f1 f2 f3 f4 f5) (E : Int) (h0 : 700000 ≤ E) (h1 : E ≤ 800000) : ∃ E', E ≤ E' ∧ E' ≤ E + 400 ∧ dayFit f3 f4 f5 E' := by
  obtain ⟨m, m0, m1, hy⟩ := year_day h
  have hyi := year_in E h0 h1
  have hv := valid_date E h0 h1
  have hr := ord_rt E
  obtain ⟨d, d0, d1, hd⟩ := hy (yearE E) (by omega) (by omega)
  obtain ⟨e, e0, e1, he⟩ := hy (yearE E + 1) (by omega) (by omega)
  have q1 := year_mon (yearE E) m m0 m1
  have q2 := year_mon (yearE E) (monE E) hv.1 hv.2.1
  have q3 := year_mon (yearE E + 1) m m0 m1
  have q4 := dim_bd (yearE E) m m0 m1
  have q5 := dim_bd (yearE E + 1) m m0 m1
  have hv3 := hv.2.2.1
  have hv4 := hv.2.2.2
  rw [ord_day1] at hr hd he
  by_cases c : E ≤ ordE (yearE E) m 1 + (d - 1)
  · exact ⟨_, c, by omega, hd⟩
  · exact ⟨_, by omega, by omega, he⟩
theorem day_back {f0 f1 f2 f3 f4 f5 : List S54} (h : GoodE f0 f1 f2 f3 f4 f5) (E : Int) (h0 : 700000 ≤ E) (h1 : E ≤ 800000) : ∃ E', E' ≤ E ∧ E ≤ E' + 400 ∧ dayFit f3 f4 f5 E' := by
  obtain ⟨m, m0, m1, hy⟩ := year_day h
  have hyi := year_in E h0 h1
  have hv := valid_date E h0 h1
  have hr := ord_rt E
  obtain ⟨d, d0, d1, hd⟩ := hy (yearE E) (by omega) (by omega)
  obtain ⟨e, e0, e1, he⟩ := hy (yearE E - 1) (by omega) (by omega)
  have q1 := year_mon (yearE E) m m0 m1
  have q2 := year_mon (yearE E) (monE E) hv.1 hv.2.1
  have q3 := year_mon (yearE E - 1) m m0 m1
  rw [show yearE E - 1 + 1 = yearE E by omega] at q3
  have q4 := dim_bd (yearE E) m m0 m1
  have q5 := dim_bd (yearE E - 1) m m0 m1
  have hv3 := hv.2.2.1
  have hv4 := hv.2.2.2
  rw [ord_day1] at hr hd he
  by_cases c : ordE (yearE E) m 1 + (d - 1) ≤ E
  · exact ⟨_, c, by omega, hd⟩
  · exact ⟨_, by omega, by omega, he⟩
theorem least_of (P : Int → Prop) [DecidablePred P] : ∀ (n : Nat) (x t : Int), t - x = (n : Int) → P t → ∃ u, x ≤ u ∧ u ≤ t ∧ P u ∧ ∀ q, x ≤ q → q < u → ¬ P q
  | 0, x, t, h, hP => ⟨t, by omega, Int.le_refl _, hP, fun q a b => by omega⟩
  | n + 1, x, t, h, hP => by
    by_cases c : P x
    · exact ⟨x, Int.le_refl _, by omega, c, fun q a b => by omega⟩
    · obtain ⟨u, u0, u1, hu, hz⟩ := least_of P n (x + 1) t (by omega) hP
      exact ⟨u, by omega, u1, hu, fun q a b => by
        by_cases e : q = x
        · rw [e]; exact c
        · exact hz q (by omega) b⟩
/-- The nearest moment that fits, from x on. -/
theorem least_E (rev : Bool) (f0 f1 f2 f3 f4 f5 : List S54) (h : GoodE f0 f1 f2 f3 f4 f5) (x : Int) (hx : loD rev ≤ x) (hx2 : x + 34819200 ≤ hiD rev) : ∃ t, Least (fitE rev f0 f1 f2 f3 f4 f5) x t ∧ t / 86400 - x / 86400 ≤ 402 ∧ t ≤ hiD rev := by
  have hb := day_bdD hx (show x ≤ hiD rev by omega)
  obtain ⟨⟨n2, a2, b2, h2⟩, ⟨n1, a1, b1, h1⟩, ⟨n0, a0, b0, h0⟩⟩ := full_E rev f0 f1 f2 f3 f4 f5 h
  have hday : ∃ b, x / 86400 + 1 ≤ b ∧ b ≤ x / 86400 + 401 ∧ (fitE rev f0 f1 f2 f3 f4 f5).d b := by
    cases rev
    · rw [co_f] at hb
      obtain ⟨E, e0, e1, hE⟩ := day_on h (x / 86400 + 1 + 306) (by omega) (by omega)
      refine ⟨E - 306, by omega, by omega, ?_⟩
      show hasF 5 f5 (wdE (E - 306 + 306)) = true ∧ hasF 4 f4 (monE (E - 306 + 306)) = true ∧ hasF 3 f3 (dayE (E - 306 + 306)) = true
      rw [show E - 306 + 306 = E by omega]
      exact hE
    · rw [co_t] at hb
      obtain ⟨E, e0, e1, hE⟩ := day_back h (-1 - x / 86400 - 1 + 306) (by omega) (by omega)
      refine ⟨-1 - (E - 306), by omega, by omega, ?_⟩
      show hasF 5 f5 (wdE (-1 - (-1 - (E - 306)) + 306)) = true ∧ hasF 4 f4 (monE (-1 - (-1 - (E - 306)) + 306)) = true ∧ hasF 3 f3 (dayE (-1 - (-1 - (E - 306)) + 306)) = true
      rw [show -1 - (-1 - (E - 306)) + 306 = E by omega]
      exact hE
  obtain ⟨b, hb0, hb1, hbd⟩ := hday
  have hfit : (fitE rev f0 f1 f2 f3 f4 f5).at (b * 86400 + n2 * 3600 + n1 * 60 + n0) := by
    refine ⟨?_, ?_, ?_, ?_⟩
    · rw [show (b * 86400 + n2 * 3600 + n1 * 60 + n0) / 86400 = b by omega]; exact hbd
    · rw [show (b * 86400 + n2 * 3600 + n1 * 60 + n0) % 86400 / 3600 = n2 by omega]; exact h2
    · rw [show (b * 86400 + n2 * 3600 + n1 * 60 + n0) % 3600 / 60 = n1 by omega]; exact h1
    · rw [show (b * 86400 + n2 * 3600 + n1 * 60 + n0) % 60 = n0 by omega]; exact h0
  obtain ⟨t, t0, t1, ht, hz⟩ := least_of (fun q => (fitE rev f0 f1 f2 f3 f4 f5).at q) (b * 86400 + n2 * 3600 + n1 * 60 + n0 - x).toNat x _ (by omega) hfit
  exact ⟨t, ⟨t0, ht, hz⟩, by omega, by omega⟩
end Go.Proofs.YtjpcdkhapeejjaaGreatDoor.A
end
section
namespace Go.Proofs.YtjpcdkhapeejjaaGreatDoor.A
open Go.RowKit Go.Proofs.YtjpcdkhapeejjaaGreatDoorW.PrintWords Go.Proofs.YtjpcdkhapeejjaaGreatDoorW.PrintLast Go.Proofs.YtjpcdkhapeejjaaGreatDoorW.PrintMore
mutual
def spec_Prev.j0 : Nat → Int → List (List (S54)) → Bool → Int → Int → Int → Int → Int → Int → Option (Int × Int × Int × Int × Int × Int × Bool)
  | 0, _, _, _, _, _, _, _, _, _ => none
  | k + 1, x8, x283000, x283001, x284000, x284001, x284002, x284003, x284004, x284005 => spec_Prev.l0 k x8 0 x283000 x283001 x284000 x284001 x284002 x284003 x284004 x284005
def spec_Prev.l0 : Nat → Int → Int → List (List (S54)) → Bool → Int → Int → Int → Int → Int → Int → Option (Int × Int × Int × Int × Int × Int × Bool)
  | 0, _, _, _, _, _, _, _, _, _, _ => none
  | k + 1, x8, x16, x283000, x283001, x284000, x284001, x284002, x284003, x284004, x284005 => if x16 < 800 then (if x8 ≥ 0 then ((spec_DayFits.f k x283000 x283001 x284000 x284001 x284002 x284003 x284004 x284005).bind fun t286 => (spec_Prev.j2 k x8 x16 t286 x283000 x283001 x284000 x284001 x284002 x284003 x284004 x284005)) else (spec_Prev.j2 k x8 x16 false x283000 x283001 x284000 x284001 x284002 x284003 x284004 x284005)) else (some (0, 0, 0, 0, 0, 0, false))
def spec_Prev.j2 : Nat → Int → Int → Bool → List (List (S54)) → Bool → Int → Int → Int → Int → Int → Int → Option (Int × Int × Int × Int × Int × Int × Bool)
  | 0, _, _, _, _, _, _, _, _, _, _, _ => none
  | k + 1, x8, x16, x24, x283000, x283001, x284000, x284001, x284002, x284003, x284004, x284005 => if x24 = true then ((spec_InDay.f k x283000 x283001 x8 true).bind fun t287 => (if t287 ≥ 0 then ((spec_At.f x284000 x284001 x284002 x284003 x284004 x284005 t287).bind fun bt288 => (some (bt288.1, bt288.2.1, bt288.2.2.1, bt288.2.2.2.1, bt288.2.2.2.2.1, bt288.2.2.2.2.2, true))) else ((spec_DayPrev.f x284000 x284001 x284002 x284003 x284004 x284005).bind fun bt294 => (spec_Prev.l0 k 86399 (wrap64 (x16 + 1)) x283000 x283001 bt294.1 bt294.2.1 bt294.2.2.1 bt294.2.2.2.1 bt294.2.2.2.2.1 bt294.2.2.2.2.2)))) else ((spec_DayPrev.f x284000 x284001 x284002 x284003 x284004 x284005).bind fun bt300 => (spec_Prev.l0 k 86399 (wrap64 (x16 + 1)) x283000 x283001 bt300.1 bt300.2.1 bt300.2.2.1 bt300.2.2.2.1 bt300.2.2.2.2.1 bt300.2.2.2.2.2))
end
def spec_Prev.f (k : Nat) (l0_0 : List (List (S54))) (a0_1 : Bool) (a1_0 : Int) (a1_1 : Int) (a1_2 : Int) (a1_3 : Int) (a1_4 : Int) (a1_5 : Int) (a2 : Bool) : Option (Int × Int × Int × Int × Int × Int × Bool) := (spec_Seconds.f a1_0 a1_1 a1_2 a1_3 a1_4 a1_5).bind fun t285 => (if a2 = true then (spec_Prev.j0 k t285 l0_0 a0_1 a1_0 a1_1 a1_2 a1_3 a1_4 a1_5) else (spec_Prev.j0 k (wrap64 (t285 - 1)) l0_0 a0_1 a1_0 a1_1 a1_2 a1_3 a1_4 a1_5))
theorem spec_Prev.mono_l : ∀ k, (∀ y0 y1 y2 y3 y4 y5 y6 y7 y8, LeO (spec_Prev.j0 k y0 y1 y2 y3 y4 y5 y6 y7 y8) (spec_Prev.j0 (k + 1) y0 y1 y2 y3 y4 y5 y6 y7 y8)) ∧ (∀ y0 y1 y2 y3 y4 y5 y6 y7 y8 y9, LeO (spec_Prev.l0 k y0 y1 y2 y3 y4 y5 y6 y7 y8 y9) (spec_Prev.l0 (k + 1) y0 y1 y2 y3 y4 y5 y6 y7 y8 y9)) ∧ (∀ y0 y1 y2 y3 y4 y5 y6 y7 y8 y9 y10, LeO (spec_Prev.j2 k y0 y1 y2 y3 y4 y5 y6 y7 y8 y9 y10) (spec_Prev.j2 (k + 1) y0 y1 y2 y3 y4 y5 y6 y7 y8 y9 y10))
  | 0 => ⟨fun _ _ _ _ _ _ _ _ _ r h => by simp [spec_Prev.j0] at h, fun _ _ _ _ _ _ _ _ _ _ r h => by simp [spec_Prev.l0] at h, fun _ _ _ _ _ _ _ _ _ _ _ r h => by simp [spec_Prev.j2] at h⟩
  | k + 1 => by
    obtain ⟨ih0, ih1, ih2⟩ := spec_Prev.mono_l k
    refine ⟨?_, ?_, ?_⟩
    · intro y0 y1 y2 y3 y4 y5 y6 y7 y8
      unfold spec_Prev.j0
      repeat' first
      | (with_reducible exact ih0 _ _ _ _ _ _ _ _ _)
      | (with_reducible exact ih1 _ _ _ _ _ _ _ _ _ _)
      | (with_reducible exact ih2 _ _ _ _ _ _ _ _ _ _ _)
      | (with_reducible exact spec_DayFits.mono _ _ _ _ _ _ _ _ _)
      | (with_reducible exact spec_InDay.mono _ _ _ _ _)
      | (with_reducible exact LeO.refl _)
      | (with_reducible exact LeO.none _)
      | (with_reducible refine LeO.ite ?_ ?_)
      | (with_reducible refine LeO.bind ?_ (fun _ => ?_))
      | exact ih0 _ _ _ _ _ _ _ _ _
      | exact ih1 _ _ _ _ _ _ _ _ _ _
      | exact ih2 _ _ _ _ _ _ _ _ _ _ _
      | exact spec_DayFits.mono _ _ _ _ _ _ _ _ _
      | exact spec_InDay.mono _ _ _ _ _
      | exact LeO.none _
      | refine LeO.ite ?_ ?_
      | refine LeO.bind ?_ (fun _ => ?_)
    · intro y0 y1 y2 y3 y4 y5 y6 y7 y8 y9
      unfold spec_Prev.l0
      repeat' first
      | (with_reducible exact ih0 _ _ _ _ _ _ _ _ _)
      | (with_reducible exact ih1 _ _ _ _ _ _ _ _ _ _)
      | (with_reducible exact ih2 _ _ _ _ _ _ _ _ _ _ _)
      | (with_reducible exact spec_DayFits.mono _ _ _ _ _ _ _ _ _)
      | (with_reducible exact spec_InDay.mono _ _ _ _ _)
      | (with_reducible exact LeO.refl _)
      | (with_reducible exact LeO.none _)
      | (with_reducible refine LeO.ite ?_ ?_)
      | (with_reducible refine LeO.bind ?_ (fun _ => ?_))
      | exact ih0 _ _ _ _ _ _ _ _ _
      | exact ih1 _ _ _ _ _ _ _ _ _ _
      | exact ih2 _ _ _ _ _ _ _ _ _ _ _
      | exact spec_DayFits.mono _ _ _ _ _ _ _ _ _
      | exact spec_InDay.mono _ _ _ _ _
      | exact LeO.none _
      | refine LeO.ite ?_ ?_
      | refine LeO.bind ?_ (fun _ => ?_)
    · intro y0 y1 y2 y3 y4 y5 y6 y7 y8 y9 y10
      unfold spec_Prev.j2
      repeat' first
      | (with_reducible exact ih0 _ _ _ _ _ _ _ _ _)
      | (with_reducible exact ih1 _ _ _ _ _ _ _ _ _ _)
      | (with_reducible exact ih2 _ _ _ _ _ _ _ _ _ _ _)
      | (with_reducible exact spec_DayFits.mono _ _ _ _ _ _ _ _ _)
      | (with_reducible exact spec_InDay.mono _ _ _ _ _)
      | (with_reducible exact LeO.refl _)
      | (with_reducible exact LeO.none _)
      | (with_reducible refine LeO.ite ?_ ?_)
      | (with_reducible refine LeO.bind ?_ (fun _ => ?_))
      | exact ih0 _ _ _ _ _ _ _ _ _
      | exact ih1 _ _ _ _ _ _ _ _ _ _
      | exact ih2 _ _ _ _ _ _ _ _ _ _ _
      | exact spec_DayFits.mono _ _ _ _ _ _ _ _ _
      | exact spec_InDay.mono _ _ _ _ _
      | exact LeO.none _
      | refine LeO.ite ?_ ?_
      | refine LeO.bind ?_ (fun _ => ?_)
theorem spec_Prev.mono : ∀ a0 a1 a2 a3 a4 a5 a6 a7 a8 k, LeO (spec_Prev.f k a0 a1 a2 a3 a4 a5 a6 a7 a8) (spec_Prev.f (k + 1) a0 a1 a2 a3 a4 a5 a6 a7 a8) := by
  intro a0 a1 a2 a3 a4 a5 a6 a7 a8 k
  obtain ⟨ih0, ih1, ih2⟩ := spec_Prev.mono_l k
  unfold spec_Prev.f
  repeat' first
      | (with_reducible exact ih0 _ _ _ _ _ _ _ _ _)
      | (with_reducible exact ih1 _ _ _ _ _ _ _ _ _ _)
      | (with_reducible exact ih2 _ _ _ _ _ _ _ _ _ _ _)
      | (with_reducible exact spec_DayFits.mono _ _ _ _ _ _ _ _ _)
      | (with_reducible exact spec_InDay.mono _ _ _ _ _)
      | (with_reducible exact LeO.refl _)
      | (with_reducible exact LeO.none _)
      | (with_reducible refine LeO.ite ?_ ?_)
      | (with_reducible refine LeO.bind ?_ (fun _ => ?_))
      | exact ih0 _ _ _ _ _ _ _ _ _
      | exact ih1 _ _ _ _ _ _ _ _ _ _
      | exact ih2 _ _ _ _ _ _ _ _ _ _ _
      | exact spec_DayFits.mono _ _ _ _ _ _ _ _ _
      | exact spec_InDay.mono _ _ _ _ _
      | exact LeO.none _
      | refine LeO.ite ?_ ?_
      | refine LeO.bind ?_ (fun _ => ?_)
set_option maxHeartbeats 8000000 in
set_option maxRecDepth 100000 in
theorem spec_Prev.calls (k : Nat) (A0_0 : Option Addr) (c0_0 : Nat) (l0_0 : List (List (S54))) (a0_1 : Bool) (a1_0 : Int) (a1_1 : Int) (a1_2 : Int) (a1_3 : Int) (a1_4 : Int) (a1_5 : Int) (a2 : Bool) (r1 : Int) (r2 : Int) (r3 : Int) (r4 : Int) (r5 : Int) (r6 : Int) (r7 : Bool) (w : World) (hr0_0 : Kd.C (Kd.slice 54 k54) w A0_0 l0_0.length l0_0) (hc0_0 : l0_0.length ≤ c0_0) (h : spec_Prev.f k l0_0 a0_1 a1_0 a1_1 a1_2 a1_3 a1_4 a1_5 a2 = some (r1, r2, r3, r4, r5, r6, r7)) :
    Calls Tryz.prog 18 #[.agg #[.slice A0_0 l0_0.length c0_0, .bool a0_1], .agg #[.int .i64 a1_0, .int .i64 a1_1, .int .i64 a1_2, .int .i64 a1_3, .int .i64 a1_4, .int .i64 a1_5], .bool a2] w fun e w' => e = .returned (.tuple #[.agg #[.int .i64 r1, .int .i64 r2, .int .i64 r3, .int .i64 r4, .int .i64 r5, .int .i64 r6], .bool r7]) ∧ Below w.heap.size w w' := by
  have hu30 := Tryz.underlying30
  have hu33 := Tryz.underlying33
  unfold spec_Prev.f at h
  replace h := Option.bind_eq_some_iff.mp h
  obtain ⟨t0, A0, h⟩ := h
  have C23 := Aside0.mk fun (W : World) => spec_Seconds.calls a1_0 a1_1 a1_2 a1_3 a1_4 a1_5 t0 W A0
  have HM := Aside0.mk ((((Mem.start w).new (et 30 A0_0 l0_0.length c0_0 a0_1)).new (mt 33 a1_0 a1_1 a1_2 a1_3 a1_4 a1_5)).new (mt 33 0 0 0 0 0 0))
  rw [World.size_alloc, World.size_alloc] at HM
  obtain ⟨kk, s1, hkk, hs1, H⟩ : ∃ kk s1, kk ≤ k ∧ (s1 = if a2 = true then t0 else wrap64 (t0 - 1)) ∧ spec_Prev.l0 kk s1 0 l0_0 a0_1 a1_0 a1_1 a1_2 a1_3 a1_4 a1_5 = some (r1, r2, r3, r4, r5, r6, r7) := by
    cases k with
    | zero => cases a2 <;> simp [spec_Prev.j0] at h
    | succ kk =>
      refine ⟨kk, _, Nat.le_succ _, rfl, ?_⟩
      cases a2
      · rw [if_neg (by simp), spec_Prev.j0] at h
        rw [if_neg (by simp)]
        exact h
      · rw [if_pos rfl, spec_Prev.j0] at h
        rw [if_pos rfl]
        exact h
  have H' := Aside0.mk H
  clear H h A0
  go_enter Tryz.func18, Tryz.ntmps18
  go_upto_if 13 with (first | (go_at_call 23; (with_reducible refine Calls.mono (C23.out _) ?_); rintro e wd ⟨rfl, hb⟩; have HN := Aside0.mk (HM.out.step hb); clear HM hb; have HM := HN; clear HN))
  go_cut [8] (fun v8 wc => v8 = .int .i64 s1 ∧ Aside0 (Mem w [(w.heap.size + 1 + 1, mt 33 0 0 0 0 0 0), (w.heap.size + 1, mt 33 a1_0 a1_1 a1_2 a1_3 a1_4 a1_5), (w.heap.size, et 30 A0_0 l0_0.length c0_0 a0_1)] wc))
  case first =>
    cases a2
    · rw [if_neg (by simp)] at hs1
      subst hs1
      go_wp2
      go_meet
      exact ⟨rfl, HM⟩
    · rw [if_pos rfl] at hs1
      subst hs1
      go_wp2
      go_meet
      exact ⟨rfl, HM⟩
  case rest =>
  obtain ⟨rfl, HM⟩ := hcut
  clear C23 hs1
  go_wp2
  go_loopg [8, 16] kk (fun kq v8 v16 w' => ∃ s i y m d q mi se : Int, v8 = .int .i64 s ∧ v16 = .int .i64 i ∧ Aside0 (spec_Prev.l0 kq s i l0_0 a0_1 y m d q mi se = some (r1, r2, r3, r4, r5, r6, r7)) ∧ Aside0 (kq ≤ k) ∧ Aside0 (Mem w [(w.heap.size + 1 + 1, mt 33 0 0 0 0 0 0), (w.heap.size + 1, mt 33 y m d q mi se), (w.heap.size, et 30 A0_0 l0_0.length c0_0 a0_1)] w'))
  case atStart => exact ⟨s1, 0, a1_0, a1_1, a1_2, a1_3, a1_4, a1_5, rfl, rfl, H', ⟨hkk⟩, HM⟩
  case round =>
    clear H' HM
    obtain ⟨s, i, y, m, d, q, mi, se, rfl, rfl, HA, HK, HM⟩ := hrel
    obtain ⟨e0, e1⟩ := et_cells (HM.out.at_ 2 rfl); obtain ⟨k0, k1, k2, k3, k4, k5⟩ := mt_cells (HM.out.at_ 1 rfl); obtain ⟨z0, z1, z2, z3, z4, z5⟩ := mt_cells (HM.out.at_ 0 rfl); obtain ⟨f0, f1, f2, f3, f4, f5⟩ := mt_frozen (HM.out.at_ 1 rfl); obtain ⟨g0, g1, g2, g3, g4, g5⟩ := mt_frozen (HM.out.at_ 0 rfl)
    rcases gk with _ | ka
    · exact absurd HA.out (by simp [spec_Prev.l0])
    have H := HA.out
    clear HA
    rw [spec_Prev.l0] at H
    by_cases c1 : i < 800
    case neg =>
      rw [if_neg c1] at H
      have b1 := decide_eq_false c1
      cases H
      go_wp2
      refine bodyPost_ret (v := .tuple #[.agg #[.int .i64 0, .int .i64 0, .int .i64 0, .int .i64 0, .int .i64 0, .int .i64 0], .bool false]) (by simp [results, Tryz.results18, go_sem, *]) rfl ⟨rfl, (HM.out.set6 0 rfl _ _ _ _ _ _).below⟩
    rw [if_pos c1] at H
    have b1 := decide_eq_true c1
    clear c1
    rcases ka with _ | kb
    · exfalso
      revert H
      split
      · intro H
        obtain ⟨t, _, H⟩ := Option.bind_eq_some_iff.mp H
        exact absurd H (by simp [spec_Prev.j2])
      · intro H
        exact absurd H (by simp [spec_Prev.j2])
    by_cases c2 : s ≥ 0
    case neg =>
      rw [if_neg c2, spec_Prev.j2, if_neg (by simp)] at H
      have b2 : decide (0 ≤ s) = false := decide_eq_false c2
      clear c2
      replace H := Option.bind_eq_some_iff.mp H
      obtain ⟨⟨n1, n2, n3, n4, n5, n6⟩, A3, H⟩ := H
      dsimp only at A3 H
      have C29 := Aside0.mk fun (W : World) => spec_DayPrev.calls y m d q mi se n1 n2 n3 n4 n5 n6 W A3
      clear A3
      go_wp2_with (first | (go_at_call 34; (with_reducible refine Calls.mono (C29.out _) ?_); rintro e wd ⟨rfl, hb⟩; have HN := Aside0.mk (HM.out.step hb); clear HM hb e0 e1 k0 k1 k2 k3 k4 k5 z0 z1 z2 z3 z4 z5 f0 f1 f2 f3 f4 f5 g0 g1 g2 g3 g4 g5; have HM := HN; clear HN; obtain ⟨e0, e1⟩ := et_cells (HM.out.at_ 2 rfl); obtain ⟨k0, k1, k2, k3, k4, k5⟩ := mt_cells (HM.out.at_ 1 rfl); obtain ⟨z0, z1, z2, z3, z4, z5⟩ := mt_cells (HM.out.at_ 0 rfl); obtain ⟨f0, f1, f2, f3, f4, f5⟩ := mt_frozen (HM.out.at_ 1 rfl); obtain ⟨g0, g1, g2, g3, g4, g5⟩ := mt_frozen (HM.out.at_ 0 rfl)))
      go_roundg kb
      case measure => omega
      case rel => exact ⟨86399, _, n1, n2, n3, n4, n5, n6, rfl, rfl, ⟨H⟩, ⟨by have := HK.out; omega⟩, ⟨HM.out.set6 1 rfl _ _ _ _ _ _⟩⟩
    rw [if_pos c2] at H
    have b2 : decide (0 ≤ s) = true := decide_eq_true c2
    clear c2
    replace H := Option.bind_eq_some_iff.mp H
    obtain ⟨t1, A1, H⟩ := H
    have C27 := Aside0.mk fun (W : World) (hb : Below w.heap.size w W) => spec_DayFits.calls (kb + 1) A0_0 c0_0 l0_0 a0_1 y m d q mi se t1 W (Kd.C_below hr0_0 hb) hc0_0 A1
    clear A1
    cases t1 with
    | false =>
      rw [spec_Prev.j2, if_neg (by simp)] at H
      replace H := Option.bind_eq_some_iff.mp H
      obtain ⟨⟨n1, n2, n3, n4, n5, n6⟩, A3, H⟩ := H
      dsimp only at A3 H
      have C29 := Aside0.mk fun (W : World) => spec_DayPrev.calls y m d q mi se n1 n2 n3 n4 n5 n6 W A3
      clear A3
      go_wp2_with (first | (go_at_call 27; (with_reducible refine Calls.mono (C27.out _ HM.out.below) ?_); rintro e wd ⟨rfl, hb⟩; have HN := Aside0.mk (HM.out.step hb); clear HM hb e0 e1 k0 k1 k2 k3 k4 k5 z0 z1 z2 z3 z4 z5 f0 f1 f2 f3 f4 f5 g0 g1 g2 g3 g4 g5; have HM := HN; clear HN; obtain ⟨e0, e1⟩ := et_cells (HM.out.at_ 2 rfl); obtain ⟨k0, k1, k2, k3, k4, k5⟩ := mt_cells (HM.out.at_ 1 rfl); obtain ⟨z0, z1, z2, z3, z4, z5⟩ := mt_cells (HM.out.at_ 0 rfl); obtain ⟨f0, f1, f2, f3, f4, f5⟩ := mt_frozen (HM.out.at_ 1 rfl); obtain ⟨g0, g1, g2, g3, g4, g5⟩ := mt_frozen (HM.out.at_ 0 rfl)) | (go_at_call 34; (with_reducible refine Calls.mono (C29.out _) ?_); rintro e wd ⟨rfl, hb⟩; have HN := Aside0.mk (HM.out.step hb); clear HM hb e0 e1 k0 k1 k2 k3 k4 k5 z0 z1 z2 z3 z4 z5 f0 f1 f2 f3 f4 f5 g0 g1 g2 g3 g4 g5; have HM := HN; clear HN; obtain ⟨e0, e1⟩ := et_cells (HM.out.at_ 2 rfl); obtain ⟨k0, k1, k2, k3, k4, k5⟩ := mt_cells (HM.out.at_ 1 rfl); obtain ⟨z0, z1, z2, z3, z4, z5⟩ := mt_cells (HM.out.at_ 0 rfl); obtain ⟨f0, f1, f2, f3, f4, f5⟩ := mt_frozen (HM.out.at_ 1 rfl); obtain ⟨g0, g1, g2, g3, g4, g5⟩ := mt_frozen (HM.out.at_ 0 rfl)))
      go_roundg kb
      case measure => omega
      case rel => exact ⟨86399, _, n1, n2, n3, n4, n5, n6, rfl, rfl, ⟨H⟩, ⟨by have := HK.out; omega⟩, ⟨HM.out.set6 1 rfl _ _ _ _ _ _⟩⟩
    | true =>
    rw [spec_Prev.j2, if_pos rfl] at H
    replace H := Option.bind_eq_some_iff.mp H
    obtain ⟨t2, A2, H⟩ := H
    have C28 := Aside0.mk fun (W : World) (hb : Below w.heap.size w W) => spec_InDay.calls kb A0_0 c0_0 l0_0 a0_1 s true t2 W (Kd.C_below hr0_0 hb) hc0_0 A2
    clear A2
    by_cases c3 : t2 ≥ 0
    case neg =>
      rw [if_neg c3] at H
      have b3 : decide (0 ≤ t2) = false := decide_eq_false c3
      replace H := Option.bind_eq_some_iff.mp H
      obtain ⟨⟨n1, n2, n3, n4, n5, n6⟩, A3, H⟩ := H
      dsimp only at A3 H
      have C29 := Aside0.mk fun (W : World) => spec_DayPrev.calls y m d q mi se n1 n2 n3 n4 n5 n6 W A3
      clear A3
      go_wp2_with (first | (go_at_call 27; (with_reducible refine Calls.mono (C27.out _ HM.out.below) ?_); rintro e wd ⟨rfl, hb⟩; have HN := Aside0.mk (HM.out.step hb); clear HM hb e0 e1 k0 k1 k2 k3 k4 k5 z0 z1 z2 z3 z4 z5 f0 f1 f2 f3 f4 f5 g0 g1 g2 g3 g4 g5; have HM := HN; clear HN; obtain ⟨e0, e1⟩ := et_cells (HM.out.at_ 2 rfl); obtain ⟨k0, k1, k2, k3, k4, k5⟩ := mt_cells (HM.out.at_ 1 rfl); obtain ⟨z0, z1, z2, z3, z4, z5⟩ := mt_cells (HM.out.at_ 0 rfl); obtain ⟨f0, f1, f2, f3, f4, f5⟩ := mt_frozen (HM.out.at_ 1 rfl); obtain ⟨g0, g1, g2, g3, g4, g5⟩ := mt_frozen (HM.out.at_ 0 rfl)) | (go_at_call 28; (with_reducible refine Calls.mono (C28.out _ HM.out.below) ?_); rintro e wd ⟨rfl, hb⟩; have HN := Aside0.mk (HM.out.step hb); clear HM hb e0 e1 k0 k1 k2 k3 k4 k5 z0 z1 z2 z3 z4 z5 f0 f1 f2 f3 f4 f5 g0 g1 g2 g3 g4 g5; have HM := HN; clear HN; obtain ⟨e0, e1⟩ := et_cells (HM.out.at_ 2 rfl); obtain ⟨k0, k1, k2, k3, k4, k5⟩ := mt_cells (HM.out.at_ 1 rfl); obtain ⟨z0, z1, z2, z3, z4, z5⟩ := mt_cells (HM.out.at_ 0 rfl); obtain ⟨f0, f1, f2, f3, f4, f5⟩ := mt_frozen (HM.out.at_ 1 rfl); obtain ⟨g0, g1, g2, g3, g4, g5⟩ := mt_frozen (HM.out.at_ 0 rfl)) | (go_at_call 34; (with_reducible refine Calls.mono (C29.out _) ?_); rintro e wd ⟨rfl, hb⟩; have HN := Aside0.mk (HM.out.step hb); clear HM hb e0 e1 k0 k1 k2 k3 k4 k5 z0 z1 z2 z3 z4 z5 f0 f1 f2 f3 f4 f5 g0 g1 g2 g3 g4 g5; have HM := HN; clear HN; obtain ⟨e0, e1⟩ := et_cells (HM.out.at_ 2 rfl); obtain ⟨k0, k1, k2, k3, k4, k5⟩ := mt_cells (HM.out.at_ 1 rfl); obtain ⟨z0, z1, z2, z3, z4, z5⟩ := mt_cells (HM.out.at_ 0 rfl); obtain ⟨f0, f1, f2, f3, f4, f5⟩ := mt_frozen (HM.out.at_ 1 rfl); obtain ⟨g0, g1, g2, g3, g4, g5⟩ := mt_frozen (HM.out.at_ 0 rfl)))
      go_roundg kb
      case measure => omega
      case rel => exact ⟨86399, _, n1, n2, n3, n4, n5, n6, rfl, rfl, ⟨H⟩, ⟨by have := HK.out; omega⟩, ⟨HM.out.set6 1 rfl _ _ _ _ _ _⟩⟩
    rw [if_pos c3] at H
    have b3 : decide (0 ≤ t2) = true := decide_eq_true c3
    replace H := Option.bind_eq_some_iff.mp H
    obtain ⟨⟨n1, n2, n3, n4, n5, n6⟩, A3, H⟩ := H
    dsimp only at A3 H
    have C20 := Aside0.mk fun (W : World) => spec_At.calls y m d q mi se t2 n1 n2 n3 n4 n5 n6 W A3
    cases H
    go_wp2_with (first | (go_at_call 27; (with_reducible refine Calls.mono (C27.out _ HM.out.below) ?_); rintro e wd ⟨rfl, hb⟩; have HN := Aside0.mk (HM.out.step hb); clear HM hb e0 e1 k0 k1 k2 k3 k4 k5 z0 z1 z2 z3 z4 z5 f0 f1 f2 f3 f4 f5 g0 g1 g2 g3 g4 g5; have HM := HN; clear HN; obtain ⟨e0, e1⟩ := et_cells (HM.out.at_ 2 rfl); obtain ⟨k0, k1, k2, k3, k4, k5⟩ := mt_cells (HM.out.at_ 1 rfl); obtain ⟨z0, z1, z2, z3, z4, z5⟩ := mt_cells (HM.out.at_ 0 rfl); obtain ⟨f0, f1, f2, f3, f4, f5⟩ := mt_frozen (HM.out.at_ 1 rfl); obtain ⟨g0, g1, g2, g3, g4, g5⟩ := mt_frozen (HM.out.at_ 0 rfl)) | (go_at_call 28; (with_reducible refine Calls.mono (C28.out _ HM.out.below) ?_); rintro e wd ⟨rfl, hb⟩; have HN := Aside0.mk (HM.out.step hb); clear HM hb e0 e1 k0 k1 k2 k3 k4 k5 z0 z1 z2 z3 z4 z5 f0 f1 f2 f3 f4 f5 g0 g1 g2 g3 g4 g5; have HM := HN; clear HN; obtain ⟨e0, e1⟩ := et_cells (HM.out.at_ 2 rfl); obtain ⟨k0, k1, k2, k3, k4, k5⟩ := mt_cells (HM.out.at_ 1 rfl); obtain ⟨z0, z1, z2, z3, z4, z5⟩ := mt_cells (HM.out.at_ 0 rfl); obtain ⟨f0, f1, f2, f3, f4, f5⟩ := mt_frozen (HM.out.at_ 1 rfl); obtain ⟨g0, g1, g2, g3, g4, g5⟩ := mt_frozen (HM.out.at_ 0 rfl)) | (go_at_call 20; (with_reducible refine Calls.mono (C20.out _) ?_); rintro e wd ⟨rfl, hb⟩; have HN := Aside0.mk (HM.out.step hb); clear HM hb e0 e1 k0 k1 k2 k3 k4 k5 z0 z1 z2 z3 z4 z5 f0 f1 f2 f3 f4 f5 g0 g1 g2 g3 g4 g5; have HM := HN; clear HN; obtain ⟨e0, e1⟩ := et_cells (HM.out.at_ 2 rfl); obtain ⟨k0, k1, k2, k3, k4, k5⟩ := mt_cells (HM.out.at_ 1 rfl); obtain ⟨z0, z1, z2, z3, z4, z5⟩ := mt_cells (HM.out.at_ 0 rfl); obtain ⟨f0, f1, f2, f3, f4, f5⟩ := mt_frozen (HM.out.at_ 1 rfl); obtain ⟨g0, g1, g2, g3, g4, g5⟩ := mt_frozen (HM.out.at_ 0 rfl)))
    refine bodyPost_ret (v := .tuple #[.agg #[.int .i64 r1, .int .i64 r2, .int .i64 r3, .int .i64 r4, .int .i64 r5, .int .i64 r6], .bool true]) (by simp [results, Tryz.results18, go_sem, *]) rfl ⟨rfl, (HM.out.set6 0 rfl _ _ _ _ _ _).below⟩
end Go.Proofs.YtjpcdkhapeejjaaGreatDoor.A
end
section
namespace Go.Proofs.YtjpcdkhapeejjaaGreatDoor.A
open Go.RowKit Cal Go.Proofs.YtjpcdkhapeejjaaGreatDoorW.PrintWords Go.Proofs.YtjpcdkhapeejjaaGreatDoorW.PrintLast Go.Proofs.YtjpcdkhapeejjaaGreatDoorW.PrintMore
theorem leap_f (y : Int) (h : 0 ≤ y) : spec_Leap.f y = some (leapY y) := by
  unfold spec_Leap.f
  rw [tmod_eq _ _ h, tmod_eq _ _ h, tmod_eq _ _ h]
  unfold leapY
  by_cases a : y % 4 = 0
  · rw [if_pos a]
    by_cases b : y % 100 = 0
    · rw [if_pos b, a, b]
      congr 1
    · rw [if_neg b, a]
      have : (y % 100 != 0) = true := bne_iff_ne.mpr b
      rw [this]; rfl
  · rw [if_neg a]
    have : (y % 4 == 0) = false := beq_eq_false_iff_ne.mpr a
    rw [this]; rfl
theorem days_f2 (y m : Int) (h : 0 ≤ y) (m0 : 1 ≤ m) (m1 : m ≤ 12) : spec_Days.f y m = some (dim y m) := by
  unfold spec_Days.f dim
  rw [if_pos (by omega), if_pos (by omega)]
  by_cases c : m = 2
  · rw [if_pos c, if_pos c, leap_f y h, Option.bind_some]
    split <;> rfl
  · rw [if_neg c, if_neg c]; rfl
theorem ord_first (y : Int) (h : 1 ≤ y) : ordE y 1 1 = (y - 1) * 365 + (y - 1) / 4 - (y - 1) / 100 + (y - 1) / 400 + 306 := by
  unfold ordE
  rw [if_pos (by omega)]
  obtain ⟨c, n, hz, n0, n1⟩ : ∃ c n : Int, y - 1 = 100 * c + n ∧ 0 ≤ n ∧ n ≤ 99 := ⟨(y - 1) / 100, (y - 1) % 100, by omega, by omega, by omega⟩
  rw [hz, show (100 * c + n) / 100 = c by omega, show (100 * c + n) % 100 = n by omega]
  obtain ⟨c4, r, rfl, r0, r1⟩ : ∃ f r : Int, c = 4 * f + r ∧ 0 ≤ r ∧ r ≤ 3 := ⟨c / 4, c % 4, by omega, by omega, by omega⟩
  obtain ⟨n4, q, rfl, q0, q1⟩ : ∃ f r : Int, n = 4 * f + r ∧ 0 ≤ r ∧ r ≤ 3 := ⟨n / 4, n % 4, by omega, by omega, by omega⟩
  rw [show (100 * (4 * c4 + r) + (4 * n4 + q)) / 4 = 25 * (4 * c4 + r) + n4 by omega, show (100 * (4 * c4 + r) + (4 * n4 + q)) / 400 = c4 by omega]
  rcases (show r = 0 ∨ r = 1 ∨ r = 2 ∨ r = 3 by omega) with rfl | rfl | rfl | rfl <;> rcases (show q = 0 ∨ q = 1 ∨ q = 2 ∨ q = 3 by omega) with rfl | rfl | rfl | rfl <;> omega
theorem wd_l (y m : Int) (y0 : 0 ≤ y) (m0 : 1 ≤ m) (m1 : m ≤ 12) : ∀ (n : Nat) (i acc : Int) (k : Nat), 1 ≤ i → i + (n : Int) = m → 0 ≤ acc → acc ≤ 10000000 → n < k → spec_Weekday.l0 k y m acc i = some ((acc + (ordE y m 1 - ordE y i 1)) % 7)
  | n, i, acc, 0, _, _, _, _, hk => by omega
  | 0, i, acc, k + 1, i0, hi, a0, a1, hk => by
    have : i = m := by omega
    subst this
    rw [spec_Weekday.l0, if_neg (by omega), tmod_eq _ _ a0, show acc + (ordE y i 1 - ordE y i 1) = acc by omega]
  | n + 1, i, acc, k + 1, i0, hi, a0, a1, hk => by
    have hd := dim_bd y i i0 (by omega)
    have hm := ord_mon y i i0 (by omega)
    by_cases ha : acc ≤ 9999900
    · rw [spec_Weekday.l0, if_pos (by omega), days_f2 y i y0 i0 (by omega), Option.bind_some, w64' _ (by omega) (by omega), w64' _ (by omega) (by omega), wd_l y m y0 m0 m1 n (i + 1) (acc + dim y i) k (by omega) (by omega) (by omega) (by omega) (by omega)]
      rw [show acc + dim y i + (ordE y m 1 - ordE y (i + 1) 1) = acc + (ordE y m 1 - ordE y i 1) by omega]
    · -- not met: the sum stays small; the bound is generous
      rw [spec_Weekday.l0, if_pos (by omega), days_f2 y i y0 i0 (by omega), Option.bind_some, w64' _ (by omega) (by omega), w64' _ (by omega) (by omega)]
      exact wd_l2 y m y0 m0 m1 n (i + 1) (acc + dim y i) k (by omega) (by omega) (by omega) (by omega) (by omega) (acc + (ordE y m 1 - ordE y i 1)) (by omega)
  where
  wd_l2 (y m : Int) (y0 : 0 ≤ y) (m0 : 1 ≤ m) (m1 : m ≤ 12) : ∀ (n : Nat) (i acc : Int) (k : Nat), 1 ≤ i → i + (n : Int) = m → 0 ≤ acc → acc ≤ 10000000 + 31 * i → n < k → ∀ u, u = acc + (ordE y m 1 - ordE y i 1) → spec_Weekday.l0 k y m acc i = some (u % 7)
  | n, i, acc, 0, _, _, _, _, hk, _, _ => by omega
  | 0, i, acc, k + 1, i0, hi, a0, a1, hk, u, hu => by
    have : i = m := by omega
    subst this
    rw [spec_Weekday.l0, if_neg (by omega), tmod_eq _ _ a0, show u = acc by omega]
  | n + 1, i, acc, k + 1, i0, hi, a0, a1, hk, u, hu => by
    have hd := dim_bd y i i0 (by omega)
    have hm := ord_mon y i i0 (by omega)
    rw [spec_Weekday.l0, if_pos (by omega), days_f2 y i y0 i0 (by omega), Option.bind_some, w64' _ (by omega) (by omega), w64' _ (by omega) (by omega)]
    exact wd_l2 y m y0 m0 m1 n (i + 1) (acc + dim y i) k (by omega) (by omega) (by omega) (by omega) (by omega) u (by omega)
theorem weekday_f (y m d : Int) (y0 : 1 ≤ y) (y1 : y ≤ 2900) (m0 : 1 ≤ m) (m1 : m ≤ 12) (d0 : 1 ≤ d) (d1 : d ≤ 31) (k : Nat) (hk : 20 ≤ k) : spec_Weekday.f k y m d = some (wdE (ordE y m d)) := by
  have hf := ord_first y y0
  unfold spec_Weekday.f
  have e4 : Int.tdiv (y - 1) 4 = (y - 1) / 4 := Int.tdiv_eq_ediv_of_nonneg (by omega)
  have e100 : Int.tdiv (y - 1) 100 = (y - 1) / 100 := Int.tdiv_eq_ediv_of_nonneg (by omega)
  have e400 : Int.tdiv (y - 1) 400 = (y - 1) / 400 := Int.tdiv_eq_ediv_of_nonneg (by omega)
  rw [w64' (y - 1) (by omega) (by omega), e4, e100, e400, w64' ((y - 1) * 365) (by omega) (by omega), w64' ((y - 1) / 4) (by omega) (by omega), w64' ((y - 1) / 100) (by omega) (by omega), w64' ((y - 1) / 400) (by omega) (by omega)]
  rw [w64' ((y - 1) * 365 + (y - 1) / 4) (by omega) (by omega), w64' ((y - 1) * 365 + (y - 1) / 4 - (y - 1) / 100) (by omega) (by omega), w64' ((y - 1) * 365 + (y - 1) / 4 - (y - 1) / 100 + (y - 1) / 400) (by omega) (by omega), w64' ((y - 1) * 365 + (y - 1) / 4 - (y - 1) / 100 + (y - 1) / 400 + d) (by omega) (by omega)]
  rw [wd_l y m (by omega) m0 m1 (m - 1).toNat 1 _ k (by omega) (by omega) (by omega) (by omega) (by omega)]
  congr 1
  rw [ord_day1 y m d]
  have e : ∀ u : Int, wdE u = (u + 3) % 7 := fun u => rfl
  rw [e]
  omega
/-- The list of fields. -/
def fsOf (f0 f1 f2 f3 f4 f5 : List S54) : List (List S54) := [f0, f1, f2, f3, f4, f5]
theorem dayfits_f (f0 f1 f2 f3 f4 f5 : List S54) (h : GoodE f0 f1 f2 f3 f4 f5) (sec : Bool) (y m d a b c : Int) (y0 : 1 ≤ y) (y1 : y ≤ 2900) (m0 : 1 ≤ m) (m1 : m ≤ 12) (d0 : 1 ≤ d) (d1 : d ≤ 31) (k : Nat) (hk : 20 ≤ k) :
    spec_DayFits.f k (fsOf f0 f1 f2 f3 f4 f5) sec y m d a b c = some (hasF 3 f3 d && (hasF 4 f4 m && hasF 5 f5 (wdE (ordE y m d)))) := by
  have hw : 0 ≤ wdE (ordE y m d) ∧ wdE (ordE y m d) ≤ 6 := by unfold wdE; omega
  unfold spec_DayFits.f
  rw [if_pos (by show (3 : Int) < 6; decide), if_pos (by show (4 : Int) < 6; decide), if_pos (by show (5 : Int) < 6; decide)]
  rw [show rd_L5 (fsOf f0 f1 f2 f3 f4 f5) 3 = f3 from rfl, show rd_L5 (fsOf f0 f1 f2 f3 f4 f5) 4 = f4 from rfl, show rd_L5 (fsOf f0 f1 f2 f3 f4 f5) 5 = f5 from rfl]
  rw [has_f 3 d f3 h.g3 (by decide) (by decide) (by omega) (by omega) k (by omega), Option.bind_some, has_f 4 m f4 h.g4 (by decide) (by decide) (by omega) (by omega) k (by omega), Option.bind_some, weekday_f y m d y0 y1 m0 m1 d0 d1 k hk, Option.bind_some, has_f 5 _ f5 h.g5 (by decide) (by decide) (by omega) (by omega) k (by omega), Option.bind_some]
  cases hasF 3 f3 d
  · rfl
  · cases hasF 4 f4 m
    · rfl
    · rfl
theorem dayprev_f (E a b c : Int) (h0 : 700001 ≤ E) (h1 : E ≤ 800000) : spec_DayPrev.f (yearE E) (monE E) (dayE E) a b c = some (yearE (E - 1), monE (E - 1), dayE (E - 1), 0, 0, 0) := by
  have hyi := year_in E (by omega) h1
  obtain ⟨m0, m1, d0, d1⟩ := valid_date E (by omega) h1
  have hd := dim_bd (yearE E) (monE E) m0 m1
  obtain ⟨n0, n1, p0, p1⟩ := valid_date (E - 1) (by omega) (by omega)
  have hyp := year_in (E - 1) (by omega) (by omega)
  have hnx := next_day (E - 1) (by omega) (by omega)
  rw [show E - 1 + 1 = E by omega] at hnx
  unfold spec_DayPrev.f
  rw [if_pos (by omega)]
  rcases hnx with ⟨q, e1, e2, e3⟩ | ⟨q, q2, e1, e2, e3⟩ | ⟨q, q2, e1, e2, e3⟩
  · rw [if_pos (by omega), e1, e2, show dayE E - 1 = dayE (E - 1) by omega]
  · rw [if_neg (by omega), if_pos (by omega), e1, show monE E - 1 = monE (E - 1) by omega, days_f2 _ _ (by omega) n0 n1, Option.bind_some, q]
  · rw [if_neg (by omega), if_neg (by omega), show yearE E - 1 = yearE (E - 1) by omega, days_f2 _ _ (by omega) (by decide) (by decide), Option.bind_some, q, q2]
end Go.Proofs.YtjpcdkhapeejjaaGreatDoor.A
end
section
namespace Go.Proofs.YtjpcdkhapeejjaaGreatDoor.A
open Go.RowKit Cal Go.Proofs.YtjpcdkhapeejjaaGreatDoorW.PrintWords Go.Proofs.YtjpcdkhapeejjaaGreatDoorW.PrintLast Go.Proofs.YtjpcdkhapeejjaaGreatDoorW.PrintMore
def fit3 (f0 f1 f2 : List S54) (s : Int) : Bool := hasF 2 f2 (s / 3600) && (hasF 1 f1 (s / 60 % 60) && hasF 0 f0 (s % 60))
theorem tdiv_eq (a b : Int) (h : 0 ≤ a) : Int.tdiv a b = a / b := Int.tdiv_eq_ediv_of_nonneg h
theorem fit3_h {f0 f1 f2 : List S54} {s q : Int} (h : hasF 2 f2 (s / 3600) = false) (e : q / 3600 = s / 3600) : fit3 f0 f1 f2 q = false := by unfold fit3; rw [e, h]; rfl
theorem fit3_m {f0 f1 f2 : List S54} {s q : Int} (h : hasF 1 f1 (s / 60 % 60) = false) (e : q / 60 = s / 60) : fit3 f0 f1 f2 q = false := by
  unfold fit3; rw [e, h, Bool.false_and, Bool.and_false]
theorem fit3_s {f0 f1 f2 : List S54} {s : Int} (h : hasF 0 f0 (s % 60) = false) : fit3 f0 f1 f2 s = false := by
  unfold fit3; rw [h, Bool.and_false, Bool.and_false]
section
variable {f0 f1 f2 f3 f4 f5 : List S54}
theorem in_down (h : GoodE f0 f1 f2 f3 f4 f5) (sec : Bool) : ∀ (N : Nat) (s : Int) (k : Nat), -1 ≤ s → s < 86400 → s + 1 ≤ (N : Int) → 2 * N + 20 < k →
    ∃ r, spec_InDay.l0 k true s (fsOf f0 f1 f2 f3 f4 f5) sec = some r ∧ ((0 ≤ r ∧ r ≤ s ∧ fit3 f0 f1 f2 r = true ∧ ∀ q, r < q → q ≤ s → fit3 f0 f1 f2 q = false) ∨ (r = -1 ∧ ∀ q, 0 ≤ q → q ≤ s → fit3 f0 f1 f2 q = false))
  | N, s, 0, _, _, _, hk => by omega
  | N, s, 1, _, _, _, hk => by omega
  | 0, s, k + 2, h0, h1, hN, hk => by
    refine ⟨-1, ?_, .inr ⟨rfl, fun q a b => by omega⟩⟩
    rw [spec_InDay.l0, if_neg (by omega), spec_InDay.j1, if_neg (by decide)]
  | N + 1, s, k + 2, h0, h1, hN, hk => by
    by_cases he : s = -1
    · refine ⟨-1, ?_, .inr ⟨rfl, fun q a b => by omega⟩⟩
      rw [spec_InDay.l0, if_neg (by omega), spec_InDay.j1, if_neg (by decide)]
    have h0 : 0 ≤ s := by omega
    rw [spec_InDay.l0, if_pos (by omega), decide_eq_true (by omega), spec_InDay.j1, if_pos rfl, if_pos (by show (2 : Int) < 6; decide), tdiv_eq _ _ h0, tdiv_eq _ _ h0, w64' (s / 3600) (by omega) (by omega), w64' (s / 60) (by omega) (by omega), tmod_eq _ _ h0, tmod_eq _ _ (show 0 ≤ s / 60 by omega)]
    rw [show rd_L5 (fsOf f0 f1 f2 f3 f4 f5) 2 = f2 from rfl, show rd_L5 (fsOf f0 f1 f2 f3 f4 f5) 1 = f1 from rfl, show rd_L5 (fsOf f0 f1 f2 f3 f4 f5) 0 = f0 from rfl]
    rw [has_f 2 _ f2 h.g2 (by decide) (by decide) (by omega) (by omega) k (by omega), Option.bind_some]
    cases ch : hasF 2 f2 (s / 3600) with
    | false =>
      rw [if_neg (by decide), if_pos rfl, w64' (s / 3600 * 3600) (by omega) (by omega), w64' (s / 3600 * 3600 - 1) (by omega) (by omega)]
      obtain ⟨r, hr, hc⟩ := in_down h sec N (s / 3600 * 3600 - 1) k (by omega) (by omega) (by omega) (by omega)
      refine ⟨r, hr, ?_⟩
      rcases hc with ⟨a, b, c, d⟩ | ⟨a, b⟩
      · refine .inl ⟨a, by omega, c, fun q q0 q1 => ?_⟩
        by_cases e : s / 3600 * 3600 - 1 < q
        · exact fit3_h ch (by omega)
        · exact d q q0 (by omega)
      · refine .inr ⟨a, fun q q0 q1 => ?_⟩
        by_cases e : s / 3600 * 3600 - 1 < q
        · exact fit3_h ch (by omega)
        · exact b q q0 (by omega)
    | true =>
      rw [if_pos rfl, if_pos (by show (1 : Int) < 6; decide), has_f 1 _ f1 h.g1 (by decide) (by decide) (by omega) (by omega) k (by omega), Option.bind_some]
      cases cm : hasF 1 f1 (s / 60 % 60) with
      | false =>
        rw [if_neg (by decide), if_pos rfl, w64' (s / 3600 * 3600) (by omega) (by omega), w64' (s / 60 % 60 * 60) (by omega) (by omega), w64' (s / 3600 * 3600 + s / 60 % 60 * 60) (by omega) (by omega), w64' (s / 3600 * 3600 + s / 60 % 60 * 60 - 1) (by omega) (by omega)]
        obtain ⟨r, hr, hc⟩ := in_down h sec N (s / 3600 * 3600 + s / 60 % 60 * 60 - 1) k (by omega) (by omega) (by omega) (by omega)
        refine ⟨r, hr, ?_⟩
        rcases hc with ⟨a, b, c, d⟩ | ⟨a, b⟩
        · refine .inl ⟨a, by omega, c, fun q q0 q1 => ?_⟩
          by_cases e : s / 3600 * 3600 + s / 60 % 60 * 60 - 1 < q
          · exact fit3_m cm (by omega)
          · exact d q q0 (by omega)
        · refine .inr ⟨a, fun q q0 q1 => ?_⟩
          by_cases e : s / 3600 * 3600 + s / 60 % 60 * 60 - 1 < q
          · exact fit3_m cm (by omega)
          · exact b q q0 (by omega)
      | true =>
        rw [if_pos rfl, if_pos (by show (0 : Int) < 6; decide), has_f 0 _ f0 h.g0 (by decide) (by decide) (by omega) (by omega) k (by omega), Option.bind_some]
        cases cs : hasF 0 f0 (s % 60) with
        | true =>
          rw [if_pos rfl]
          exact ⟨s, rfl, .inl ⟨h0, Int.le_refl _, by unfold fit3; rw [ch, cm, cs]; rfl, fun q a b => by omega⟩⟩
        | false =>
          rw [if_neg (by decide), if_pos rfl, w64' (s - 1) (by omega) (by omega)]
          obtain ⟨r, hr, hc⟩ := in_down h sec N (s - 1) k (by omega) (by omega) (by omega) (by omega)
          refine ⟨r, hr, ?_⟩
          rcases hc with ⟨a, b, c, d⟩ | ⟨a, b⟩
          · refine .inl ⟨a, by omega, c, fun q q0 q1 => ?_⟩
            by_cases e : q = s
            · rw [e]; exact fit3_s cs
            · exact d q q0 (by omega)
          · refine .inr ⟨a, fun q q0 q1 => ?_⟩
            by_cases e : q = s
            · rw [e]; exact fit3_s cs
            · exact b q q0 (by omega)
end
end Go.Proofs.YtjpcdkhapeejjaaGreatDoor.A
end
