/- Steps of the proof of the law: contracts of functions of the given program, and plain lemmas about what they compute.
Conditions: none beyond those that each theorem names. -/
import Derived.Test.YtjpcdkhapeejjaaGreatDoorK42
set_option linter.unusedVariables false
set_option linter.unusedSimpArgs false
open Go.RowKit Go.Proofs.YtjpcdkhapeejjaaGreatDoorW.PrintWords Go.Proofs.YtjpcdkhapeejjaaGreatDoorW.PrintLast Go.Proofs.YtjpcdkhapeejjaaGreatDoorW.PrintMore
namespace Go.Proofs.YtjpcdkhapeejjaaGreatDoor.A
open Cal
theorem fmtL_eq (s : Int) : fmtL s = [48 + yearS s / 1000, 48 + yearS s / 100 % 10, 48 + yearS s / 10 % 10, 48 + yearS s % 10, 45, 48 + monS s / 10, 48 + monS s % 10, 45, 48 + dayS s / 10, 48 + dayS s % 10, 32, 48 + hourS s / 10, 48 + hourS s % 10, 58, 48 + minS s / 10, 48 + minS s % 10, 58, 48 + secS s / 10, 48 + secS s % 10] := by
  unfold fmtL four two
  rfl
theorem fmt_inj {a b : Int} (ha : InR a) (hb : InR b) (h : (fmtB a).toList = (fmtB b).toList) : a = b := by
  have by_ : ∀ s, InR s → by8 (fmtL s) := fun s hs => by
    have y := year_bd s hs
    have m := mon_bd s
    have d := day_bd s
    have hh := hour_bd s
    have mi := min_bd s
    have se := sec_bd s
    rw [fmtL_eq]
    intro x hx
    simp only [List.mem_cons, List.not_mem_nil, or_false] at hx
    omega
  have e := (s_list_eq (by_ a ha) (by_ b hb)).1 h
  rw [fmtL_eq, fmtL_eq] at e
  simp only [List.cons.injEq, and_true, true_and] at e
  have ya := year_bd a ha
  have yb := year_bd b hb
  have ma := mon_bd a
  have mb := mon_bd b
  have da := day_bd a
  have db := day_bd b
  have ha2 := hour_bd a
  have hb2 := hour_bd b
  have mia := min_bd a
  have mib := min_bd b
  have sa := sec_bd a
  have sb := sec_bd b
  rw [← mk_rt a, ← mk_rt b]
  rw [show yearS a = yearS b by omega, show monS a = monS b by omega, show dayS a = dayS b by omega, show hourS a = hourS b by omega, show minS a = minS b by omega, show secS a = secS b by omega]
section
variable {rev : Bool} {k : Nat} {f0 f1 f2 f3 f4 f5 : List S54}
theorem lop_hit (incl : Bool) (start : Int) (n : Nat) (x y : Int) (h : cor rev (rnd k rev (segsOf f0 f1 f2 f3 f4 f5) 6 (co rev x)) = some (y, true)) :
    lop k rev incl start (segsOf f0 f1 f2 f3 f4 f5) (n + 1) (co rev x) = lop k rev incl start (segsOf f0 f1 f2 f3 f4 f5) n (co rev y) := by
  rw [lop, show (segsOf f0 f1 f2 f3 f4 f5).length = 6 from rfl, cor_some h, Option.bind_some, lopC, if_pos rfl]
theorem lop_end (incl : Bool) (start : Int) (n : Nat) (x : Int) (h : cor rev (rnd k rev (segsOf f0 f1 f2 f3 f4 f5) 6 (co rev x)) = some (x, false)) :
    lop k rev incl start (segsOf f0 f1 f2 f3 f4 f5) (n + 1) (co rev x) = if incl = true then some (co rev x) else if InR (co rev x) ∧ InR start then (if (fmtB (co rev x)).toList = (fmtB start).toList then lop k rev incl start (segsOf f0 f1 f2 f3 f4 f5) n (if rev = true then co rev x - 1 else co rev x + 1) else some (co rev x)) else none := by
  rw [lop, show (segsOf f0 f1 f2 f3 f4 f5).length = 6 from rfl, cor_some h, Option.bind_some, lopC, if_neg (fun hq => by cases hq)]
theorem inr_co {x : Int} (a : loD rev ≤ x) (b : x ≤ hiD rev) : InR (co rev x) := by
  have := co_in a b
  exact inr_of (by omega) (by omega)
/-- From x on, the search ends at the nearest moment that fits, unless that is its start. -/
theorem lop_reach (hE : GoodE f0 f1 f2 f3 f4 f5) (hk : 1000 ≤ k) (incl : Bool) (start : Int) (x t : Int) (hl : Least (fitE rev f0 f1 f2 f3 f4 f5) x t) (hx : loD rev ≤ x) (ht : t ≤ hiD rev) (D : Nat) (hD : t / 86400 - x / 86400 ≤ (D : Int)) (hn : incl = true ∨ (co rev t ≠ start ∧ InR start)) (n : Nat) (hN : D + 10 ≤ n) :
    lop k rev incl start (segsOf f0 f1 f2 f3 f4 f5) n (co rev x) = some (co rev t) := by
  have hR := round_E rev k f0 f1 f2 f3 f4 f5 hE hk
  obtain ⟨c, hc, hs⟩ := l_any hR.1 (it := fun n x => lop k rev incl start (segsOf f0 f1 f2 f3 f4 f5) n (co rev x)) (fun n x y h => lop_hit incl start n x y h) (full_E rev f0 f1 f2 f3 f4 f5 hE) ht D x hl hx hD
  have hxt := hl.1
  have e := hs (n - c)
  have e : lop k rev incl start (segsOf f0 f1 f2 f3 f4 f5) (n - c + c) (co rev x) = lop k rev incl start (segsOf f0 f1 f2 f3 f4 f5) (n - c) (co rev t) := e
  rw [show n - c + c = n by omega] at e
  rw [e]
  obtain ⟨n', hn'⟩ : ∃ n', n - c = n' + 1 := ⟨n - c - 1, by omega⟩
  rw [hn', lop_end incl start n' t (hR.2 t t (by omega) (Int.le_refl _) ht hl.2.1 hl.2.1)]
  by_cases hi : incl = true
  · rw [if_pos hi]
  · rw [if_neg hi]
    rcases hn with a | ⟨hne, hI⟩
    · exact absurd a hi
    · rw [if_pos ⟨inr_co (by omega) ht, hI⟩, if_neg (fun q => hne (fmt_inj (inr_co (by omega) ht) hI q))]
theorem co_step (x : Int) : (if rev = true then co rev x - 1 else co rev x + 1) = co rev (x + 1) := by
  cases rev
  · rfl
  · rw [if_pos rfl, co_t, co_t]; omega
instance fitDec (x : Int) : Decidable ((fitE rev f0 f1 f2 f3 f4 f5).at x) := inferInstanceAs (Decidable ((hasF 5 f5 _ = true ∧ hasF 4 f4 _ = true ∧ hasF 3 f3 _ = true) ∧ hasF 2 f2 _ = true ∧ hasF 1 f1 _ = true ∧ hasF 0 f0 _ = true))
/-- Behind the start alone. -/
theorem lop_behind (hE : GoodE f0 f1 f2 f3 f4 f5) (hk : 1000 ≤ k) (x t : Int) (hl : Least (fitE rev f0 f1 f2 f3 f4 f5) (x + 1) t) (hx : loD rev ≤ x) (ht : t ≤ hiD rev) (D : Nat) (hD : t / 86400 - x / 86400 ≤ (D : Int)) (n : Nat) (hN : D + 11 ≤ n) :
    lop k rev false (co rev x) (segsOf f0 f1 f2 f3 f4 f5) n (co rev x) = some (co rev t) := by
  have hxt := hl.1
  have hI : InR (co rev x) := inr_co hx (by omega)
  have hne : co rev t ≠ co rev x := fun e => by
    have := congrArg (co rev) e
    rw [co_co, co_co] at this
    omega
  by_cases hf : (fitE rev f0 f1 f2 f3 f4 f5).at x
  · have hR := round_E rev k f0 f1 f2 f3 f4 f5 hE hk
    obtain ⟨n', rfl⟩ : ∃ n', n = n' + 1 := ⟨n - 1, by omega⟩
    rw [lop_end false (co rev x) n' x (hR.2 x t hx (by omega) ht hl.2.1 hf), if_neg (by decide), if_pos ⟨hI, hI⟩, if_pos rfl, co_step]
    exact lop_reach hE hk false (co rev x) (x + 1) t hl (by omega) ht D (by omega) (.inr ⟨hne, hI⟩) n' (by omega)
  · have hl2 : Least (fitE rev f0 f1 f2 f3 f4 f5) x t := ⟨by omega, hl.2.1, fun q a b => by
      by_cases e : q = x
      · rw [e]; exact hf
      · exact hl.2.2 q (by omega) b⟩
    exact lop_reach hE hk false (co rev x) x t hl2 hx ht D hD (.inr ⟨hne, hI⟩) n (by omega)
theorem sdue_step (segs : List ByteArray) (j : Nat) (J : Int) (hJ : (j : Int) = J) (l : List S54) (s : Int) (hg : GoodF J l) (hj : J ≤ 5) (hs : rdOf ByteArray.empty segs J = tx l) (hi : (tx l).toList ≠ [42] → isect k segs (tx l) j = some ()) (hI : InR s) (hk : 1000 ≤ k) :
    sdue k segs s (j + 1) = if hasF J l (posV s J) = true then sdue k segs s j else some false := by
  subst hJ
  have hb := field_by8 (j : Int) l hg.it
  have hp := pos_bd s (j : Int) (by omega) hj
  rw [sdue, hs]
  by_cases c : (tx l).toList = ([42] : List UInt8)
  · have hst : StarF l := by
      refine text_star (j : Int) l hg ?_
      unfold tx at c
      by_cases d : fieldL l = [42]
      · exact d
      · exact absurd c (ns42 hb d)
    rw [if_pos c, if_pos (star_has (j : Int) l hst _ hp.1 hp.2)]
  · have c63 : ¬ (tx l).toList = ([63] : List UInt8) := by
      unfold tx
      refine ns63 hb fun d => ?_
      have := field_mem (j : Int) l hg.it 63 (by rw [d]; exact List.mem_singleton.2 rfl)
      omega
    have := due_f k (j : Int) l s hg (by omega) hj hI hk
    have : dueA k (tx l) (j : Int) s = some (hasF (j : Int) l (posV s (j : Int))) := this
    rw [if_neg c, if_neg c63, hi c, Option.bind_some, this, Option.bind_some]
/-- Whether an expression is due at a moment. -/
def fitB (f0 f1 f2 f3 f4 f5 : List S54) (s : Int) : Bool := hasF 5 f5 (wdS s) && (hasF 4 f4 (monS s) && (hasF 3 f3 (dayS s) && (hasF 2 f2 (hourS s) && (hasF 1 f1 (minS s) && hasF 0 f0 (secS s)))))
theorem sdue_E (hE : GoodE f0 f1 f2 f3 f4 f5) (hk : 1000 ≤ k) (s : Int) (hI : InR s) : sdue k (segsOf f0 f1 f2 f3 f4 f5) s 6 = some (fitB f0 f1 f2 f3 f4 f5 s) := by
  have q : ∀ j : Nat, j ≠ 5 → ∀ sg, isect k (segsOf f0 f1 f2 f3 f4 f5) sg j = some () := fun j hj sg => by unfold isect; rw [if_neg hj]
  rw [sdue_step (segsOf f0 f1 f2 f3 f4 f5) 5 5 rfl f5 s hE.g5 (by decide) rfl (fun c => isect_ok k f0 f1 f2 f3 f4 f5 hE c hk) hI hk]
  rw [sdue_step (segsOf f0 f1 f2 f3 f4 f5) 4 4 rfl f4 s hE.g4 (by decide) rfl (fun c => q 4 (by decide) _) hI hk]
  rw [sdue_step (segsOf f0 f1 f2 f3 f4 f5) 3 3 rfl f3 s hE.g3 (by decide) rfl (fun c => q 3 (by decide) _) hI hk]
  rw [sdue_step (segsOf f0 f1 f2 f3 f4 f5) 2 2 rfl f2 s hE.g2 (by decide) rfl (fun c => q 2 (by decide) _) hI hk]
  rw [sdue_step (segsOf f0 f1 f2 f3 f4 f5) 1 1 rfl f1 s hE.g1 (by decide) rfl (fun c => q 1 (by decide) _) hI hk]
  rw [sdue_step (segsOf f0 f1 f2 f3 f4 f5) 0 0 rfl f0 s hE.g0 (by decide) rfl (fun c => q 0 (by decide) _) hI hk]
  show _ = some (hasF 5 f5 (posV s 5) && (hasF 4 f4 (posV s 4) && (hasF 3 f3 (posV s 3) && (hasF 2 f2 (posV s 2) && (hasF 1 f1 (posV s 1) && hasF 0 f0 (posV s 0))))))
  cases hasF 5 f5 (posV s 5)
  · rfl
  cases hasF 4 f4 (posV s 4)
  · rfl
  cases hasF 3 f3 (posV s 3)
  · rfl
  cases hasF 2 f2 (posV s 2)
  · rfl
  cases hasF 1 f1 (posV s 1)
  · rfl
  cases hasF 0 f0 (posV s 0)
  · rfl
  · rfl
theorem fit_iff (x : Int) : (fitE rev f0 f1 f2 f3 f4 f5).at x ↔ fitB f0 f1 f2 f3 f4 f5 (co rev x) = true := by
  have e : (fitE rev f0 f1 f2 f3 f4 f5).at x ↔ (hasF 5 f5 (posV (co rev x) 5) = true ∧ hasF 4 f4 (posV (co rev x) 4) = true ∧ hasF 3 f3 (posV (co rev x) 3) = true) ∧ hasF 2 f2 (posV (co rev x) 2) = true ∧ hasF 1 f1 (posV (co rev x) 1) = true ∧ hasF 0 f0 (posV (co rev x) 0) = true := by
    rw [p5, p4, p3, p2, p1, p0]; exact Iff.rfl
  have e2 : fitB f0 f1 f2 f3 f4 f5 (co rev x) = (hasF 5 f5 (posV (co rev x) 5) && (hasF 4 f4 (posV (co rev x) 4) && (hasF 3 f3 (posV (co rev x) 3) && (hasF 2 f2 (posV (co rev x) 2) && (hasF 1 f1 (posV (co rev x) 1) && hasF 0 f0 (posV (co rev x) 0)))))) := rfl
  rw [e, e2]
  simp only [Bool.and_eq_true]
  exact ⟨fun ⟨⟨a, b, c⟩, d, e, f⟩ => ⟨a, b, c, d, e, f⟩, fun ⟨a, b, c, d, e, f⟩ => ⟨⟨a, b, c⟩, d, e, f⟩⟩
/-- The tick, with the moment itself. -/
theorem tick_incl (hE : GoodE f0 f1 f2 f3 f4 f5) (hk : 1000 ≤ k) (x t : Int) (hl : Least (fitE rev f0 f1 f2 f3 f4 f5) x t) (hx : loD rev ≤ x) (ht : t ≤ hiD rev) (hD : t / 86400 - x / 86400 ≤ 450) :
    tickOf k rev true (segsOf f0 f1 f2 f3 f4 f5) (co rev x) = some (co rev t) := by
  have hxt := hl.1
  unfold tickOf
  rw [show (segsOf f0 f1 f2 f3 f4 f5).length = 6 from rfl, sdue_E hE hk _ (inr_co hx (by omega)), Option.bind_some]
  by_cases hf : fitB f0 f1 f2 f3 f4 f5 (co rev x) = true
  · rw [if_pos ⟨hf, rfl⟩]
    have := hl.le (Int.le_refl x) ((fit_iff x).2 hf)
    rw [show t = x by omega]
  · rw [if_neg (fun q => hf q.1)]
    exact lop_reach hE hk true _ x t hl hx ht 450 (by omega) (.inl rfl) 500 (by decide)
/-- The tick behind the moment. -/
theorem tick_behind (hE : GoodE f0 f1 f2 f3 f4 f5) (hk : 1000 ≤ k) (x t : Int) (hl : Least (fitE rev f0 f1 f2 f3 f4 f5) (x + 1) t) (hx : loD rev ≤ x) (ht : t ≤ hiD rev) (hD : t / 86400 - x / 86400 ≤ 450) :
    tickOf k rev false (segsOf f0 f1 f2 f3 f4 f5) (co rev x) = some (co rev t) := by
  have hxt := hl.1
  unfold tickOf
  rw [show (segsOf f0 f1 f2 f3 f4 f5).length = 6 from rfl, sdue_E hE hk _ (inr_co hx (by omega)), Option.bind_some, if_neg (fun q => by cases q.2)]
  exact lop_behind hE hk x t hl hx ht 450 (by omega) 500 (by decide)
end
theorem dim_feb (y : Int) : 28 ≤ dim y 2 ∧ dim y 2 ≤ 29 := by
  unfold dim; rw [if_pos rfl]; split <;> decide
/-- A year's months, by their first days. -/
theorem year_tab (y : Int) : ordE y 2 1 = ordE y 1 1 + 31 ∧ ordE y 3 1 = ordE y 2 1 + dim y 2 ∧ ordE y 4 1 = ordE y 3 1 + 31 ∧ ordE y 5 1 = ordE y 4 1 + 30 ∧ ordE y 6 1 = ordE y 5 1 + 31 ∧ ordE y 7 1 = ordE y 6 1 + 30 ∧ ordE y 8 1 = ordE y 7 1 + 31 ∧ ordE y 9 1 = ordE y 8 1 + 31 ∧ ordE y 10 1 = ordE y 9 1 + 30 ∧ ordE y 11 1 = ordE y 10 1 + 31 ∧ ordE y 12 1 = ordE y 11 1 + 30 ∧ ordE (y + 1) 1 1 = ordE y 12 1 + 31 :=
  ⟨ord_mon y 1 (by decide) (by decide), ord_mon y 2 (by decide) (by decide), ord_mon y 3 (by decide) (by decide), ord_mon y 4 (by decide) (by decide), ord_mon y 5 (by decide) (by decide), ord_mon y 6 (by decide) (by decide), ord_mon y 7 (by decide) (by decide), ord_mon y 8 (by decide) (by decide), ord_mon y 9 (by decide) (by decide), ord_mon y 10 (by decide) (by decide), ord_mon y 11 (by decide) (by decide), ord_yr y⟩
/-- A date of a year lies in it, and a year later the same month begins 365 or 366 days later. -/
theorem year_mon (y m : Int) (m0 : 1 ≤ m) (m1 : m ≤ 12) : ordE y 1 1 ≤ ordE y m 1 ∧ ordE y m 1 ≤ ordE y 1 1 + 335 ∧ ordE y m 1 + dim y m ≤ ordE (y + 1) 1 1 ∧ ordE (y + 1) 1 1 ≤ ordE y 1 1 + 366 ∧ ordE (y + 1) m 1 ≤ ordE y m 1 + 366 := by
  obtain ⟨a1, a2, a3, a4, a5, a6, a7, a8, a9, a10, a11, a12⟩ := year_tab y
  obtain ⟨b1, b2, b3, b4, b5, b6, b7, b8, b9, b10, b11, b12⟩ := year_tab (y + 1)
  have f1 := dim_feb y
  have f2 := dim_feb (y + 1)
  have hl : dim y 2 = 29 → dim (y + 1) 2 = 28 := by
    intro h
    rcases dim_cases y 2 (by decide) (by decide) with ⟨_, q, e⟩ | ⟨_, q, e⟩ | ⟨q, _⟩ | ⟨q, _⟩
    · rcases dim_cases (y + 1) 2 (by decide) (by decide) with ⟨_, q2, e2⟩ | ⟨_, q2, e2⟩ | ⟨q2, _⟩ | ⟨q2, _⟩
      · rw [leapY_iff] at q q2; omega
      · exact e2
      · omega
      · omega
    · omega
    · omega
    · omega
  rcases mcases m0 m1 with rfl | rfl | rfl | rfl | rfl | rfl | rfl | rfl | rfl | rfl | rfl | rfl
  · have d : dim y 1 = 31 := rfl
    omega
  · omega
  · have d : dim y 3 = 31 := rfl
    omega
  · have d : dim y 4 = 30 := rfl
    omega
  · have d : dim y 5 = 31 := rfl
    omega
  · have d : dim y 6 = 30 := rfl
    omega
  · have d : dim y 7 = 31 := rfl
    omega
  · have d : dim y 8 = 31 := rfl
    omega
  · have d : dim y 9 = 30 := rfl
    omega
  · have d : dim y 10 = 31 := rfl
    omega
  · have d : dim y 11 = 30 := rfl
    omega
  · have d : dim y 12 = 31 := rfl
    omega
/-- A day that fits, of each year: its month is the same one each year. -/
def dayFit (f3 f4 f5 : List S54) (E : Int) : Prop := hasF 5 f5 (wdE E) = true ∧ hasF 4 f4 (monE E) = true ∧ hasF 3 f3 (dayE E) = true
theorem year_day {f0 f1 f2 f3 f4 f5 : List S54} (h : GoodE f0 f1 f2 f3 f4 f5) : ∃ m, 1 ≤ m ∧ m ≤ 12 ∧ ∀ y, 1 ≤ y → y ≤ 2900 → ∃ d, 1 ≤ d ∧ d ≤ dim y m ∧ dayFit f3 f4 f5 (ordE y m d) := by
  obtain ⟨v4, a4, b4, h4⟩ := has_some 4 f4 h.g4 (by decide) (by decide)
  have a4 : 1 ≤ v4 := a4
  have b4 : v4 ≤ 12 := b4
  have wd6 : ∀ E, 0 ≤ wdE E ∧ wdE E ≤ 6 := fun E => by unfold wdE; omega
  rcases h.st with hs | hs
  · -- all days of the month: a day of the week is met in its first seven days
    obtain ⟨v5, a5, b5, h5⟩ := has_some 5 f5 h.g5 (by decide) (by decide)
    have a5 : 0 ≤ v5 := a5
    have b5 : v5 ≤ 6 := b5
    refine ⟨v4, a4, b4, fun y y0 y1 => ?_⟩
    have hd := dim_bd y v4 a4 b4
    refine ⟨1 + (v5 - wdE (ordE y v4 1)) % 7, by omega, by omega, ?_⟩
    have at_ := at_date y v4 (1 + (v5 - wdE (ordE y v4 1)) % 7) y0 y1 ⟨a4, b4, by omega, by omega⟩
    have hw : wdE (ordE y v4 (1 + (v5 - wdE (ordE y v4 1)) % 7)) = v5 := by
      rw [ord_day1]
      have e : ∀ u : Int, wdE u = (u + 3) % 7 := fun u => rfl
      rw [e, e]
      omega
    exact ⟨by rw [hw]; exact h5, by rw [at_.2.1]; exact h4, star_has 3 f3 hs _ (by rw [at_.1]; show (1 : Int) ≤ _; omega) (by rw [at_.1]; show _ ≤ (31 : Int); omega)⟩
  · -- all days of the week: a number of the field of days
    obtain ⟨x, xs, hx⟩ : ∃ x xs, f3 = x :: xs := by
      cases hf : f3 with
      | nil => exact absurd hf h.g3.ne
      | cons x xs => exact ⟨x, xs, rfl⟩
    have gx := h.g3.it x (by rw [hx]; exact List.mem_cons_self)
    obtain ⟨n, hn⟩ : ∃ n, n = if x.f0 = true then (1 : Int) else x.f1 := ⟨_, rfl⟩
    have hin : hasF 3 f3 n = true := by
      rw [hx]
      unfold hasF
      rw [List.any_cons]
      have : hasI 3 x n = true := by
        unfold hasI
        rw [hn]
        cases hf : x.f0 with
        | true =>
          rw [if_pos rfl, if_pos rfl, if_pos rfl]
          exact decide_eq_true ⟨by decide, by decide, by show ((1 : Int) - 1) % x.f3 = 0; rw [Int.sub_self]; exact Int.zero_emod _⟩
        | false =>
          have := gx.r hf
          rw [if_neg (show ¬ (false = true) by decide), if_neg (show ¬ (false = true) by decide), if_neg (show ¬ (false = true) by decide)]
          exact decide_eq_true ⟨Int.le_refl _, this.2.2, by rw [Int.sub_self]; exact Int.zero_emod _⟩
      rw [this, Bool.true_or]
    have n1 : 1 ≤ n ∧ n ≤ 31 := by
      rw [hn]
      cases hf : x.f0 with
      | true => rw [if_pos rfl]; decide
      | false =>
        have := gx.r hf
        rw [if_neg (show ¬ (false = true) by decide)]
        have e1 : low 3 = 1 := rfl
        have e2 : high 3 = 31 := rfl
        omega
    by_cases h31 : n ≤ 28
    · refine ⟨v4, a4, b4, fun y y0 y1 => ?_⟩
      have hd := dim_bd y v4 a4 b4
      have at_ := at_date y v4 n y0 y1 ⟨a4, b4, by omega, by omega⟩
      exact ⟨n, by omega, by omega, star_has 5 f5 hs _ (wd6 _).1 (wd6 _).2, by rw [at_.2.1]; exact h4, by rw [at_.1]; exact hin⟩
    · have hs4 : StarF f4 := by
        rcases h.d28 with a | a
        · exact a
        · exfalso
          cases hf : x.f0 with
          | true => rw [hf, if_pos rfl] at hn; omega
          | false =>
            have := a x (by rw [hx]; exact List.mem_cons_self) hf
            rw [hf, if_neg (show ¬ (false = true) by decide)] at hn
            omega
      refine ⟨1, by decide, by decide, fun y y0 y1 => ?_⟩
      have d31 : dim y 1 = 31 := rfl
      have at_ := at_date y 1 n y0 y1 ⟨by decide, by decide, by omega, by omega⟩
      exact ⟨n, by omega, by omega, star_has 5 f5 hs _ (wd6 _).1 (wd6 _).2, star_has 4 f4 hs4 _ (by rw [at_.2.1]; decide) (by rw [at_.2.1]; decide), by rw [at_.1]; exact hin⟩
theorem day_on {f0 f1 f2 f3 f4 f5 : List S54} (h : GoodE f0 f1 f2 f3 f4 f5) (E : Int) (h0 : 700000 ≤ E) (h1 : E ≤ 800000) : ∃ E', E ≤ E' ∧ E' ≤ E + 400 ∧ dayFit f3 f4 f5 E' := by
  obtain ⟨m, m0, m1, hy⟩ := year_day h
  have hyi := year_in E h0 h1
  have hv := valid_date E h0 h1
  have hr := ord_rt E
  obtain ⟨d, d0, d1, hd⟩ := hy (yearE E) (by omega) (by omega)
  obtain ⟨e, e0, e1, he⟩ := hy (yearE E + 1) (by omega) (by omega)
  have q1 := year_mon (yearE E) m m0 m1
  have q2 := year_mon (yearE E) (monE E) hv.1 hv.2.1
  have q3 := year_mon (yearE E + 1) m m0 m1
  have q4 := dim_bd (yearE E) m m0 m1
  have q5 := dim_bd (yearE E + 1) m m0 m1
  have hv3 := hv.2.2.1
  have hv4 := hv.2.2.2
  rw [ord_day1] at hr hd he
  by_cases c : E ≤ ordE (yearE E) m 1 + (d - 1)
  · exact ⟨_, c, by omega, hd⟩
  · exact ⟨_, by omega, by omega, he⟩
theorem day_back {f0 f1 f2 f3 f4 f5 : List S54} (h : GoodE f0 f1 f2 f3 f4 f5) (E : Int) (h0 : 700000 ≤ E) (h1 : E ≤ 800000) : ∃ E', E' ≤ E ∧ E ≤ E' + 400 ∧ dayFit f3 f4 f5 E' := by
  obtain ⟨m, m0, m1, hy⟩ := year_day h
  have hyi := year_in E h0 h1
  have hv := valid_date E h0 h1
  have hr := ord_rt E
  obtain ⟨d, d0, d1, hd⟩ := hy (yearE E) (by omega) (by omega)
  obtain ⟨e, e0, e1, he⟩ := hy (yearE E - 1) (by omega) (by omega)
  have q1 := year_mon (yearE E) m m0 m1
  have q2 := year_mon (yearE E) (monE E) hv.1 hv.2.1
  have q3 := year_mon (yearE E - 1) m m0 m1
  rw [show yearE E - 1 + 1 = yearE E by omega] at q3
  have q4 := dim_bd (yearE E) m m0 m1
  have q5 := dim_bd (yearE E - 1) m m0 m1
  have hv3 := hv.2.2.1
  have hv4 := hv.2.2.2
  rw [ord_day1] at hr hd he
  by_cases c : ordE (yearE E) m 1 + (d - 1) ≤ E
  · exact ⟨_, c, by omega, hd⟩
  · exact ⟨_, by omega, by omega, he⟩
theorem least_of (P : Int → Prop) [DecidablePred P] : ∀ (n : Nat) (x t : Int), t - x = (n : Int) → P t → ∃ u, x ≤ u ∧ u ≤ t ∧ P u ∧ ∀ q, x ≤ q → q < u → ¬ P q
  | 0, x, t, h, hP => ⟨t, by omega, Int.le_refl _, hP, fun q a b => by omega⟩
  | n + 1, x, t, h, hP => by
    by_cases c : P x
    · exact ⟨x, Int.le_refl _, by omega, c, fun q a b => by omega⟩
    · obtain ⟨u, u0, u1, hu, hz⟩ := least_of P n (x + 1) t (by omega) hP
      exact ⟨u, by omega, u1, hu, fun q a b => by
        by_cases e : q = x
        · rw [e]; exact c
        · exact hz q (by omega) b⟩
/-- The nearest moment that fits, from x on. -/
theorem least_E (rev : Bool) (f0 f1 f2 f3 f4 f5 : List S54) (h : GoodE f0 f1 f2 f3 f4 f5) (x : Int) (hx : loD rev ≤ x) (hx2 : x + 34819200 ≤ hiD rev) : ∃ t, Least (fitE rev f0 f1 f2 f3 f4 f5) x t ∧ t / 86400 - x / 86400 ≤ 402 ∧ t ≤ hiD rev := by
  have hb := day_bdD hx (show x ≤ hiD rev by omega)
  obtain ⟨⟨n2, a2, b2, h2⟩, ⟨n1, a1, b1, h1⟩, ⟨n0, a0, b0, h0⟩⟩ := full_E rev f0 f1 f2 f3 f4 f5 h
  have hday : ∃ b, x / 86400 + 1 ≤ b ∧ b ≤ x / 86400 + 401 ∧ (fitE rev f0 f1 f2 f3 f4 f5).d b := by
    cases rev
    · rw [co_f] at hb
      obtain ⟨E, e0, e1, hE⟩ := day_on h (x / 86400 + 1 + 306) (by omega) (by omega)
      refine ⟨E - 306, by omega, by omega, ?_⟩
      show hasF 5 f5 (wdE (E - 306 + 306)) = true ∧ hasF 4 f4 (monE (E - 306 + 306)) = true ∧ hasF 3 f3 (dayE (E - 306 + 306)) = true
      rw [show E - 306 + 306 = E by omega]
      exact hE
    · rw [co_t] at hb
      obtain ⟨E, e0, e1, hE⟩ := day_back h (-1 - x / 86400 - 1 + 306) (by omega) (by omega)
      refine ⟨-1 - (E - 306), by omega, by omega, ?_⟩
      show hasF 5 f5 (wdE (-1 - (-1 - (E - 306)) + 306)) = true ∧ hasF 4 f4 (monE (-1 - (-1 - (E - 306)) + 306)) = true ∧ hasF 3 f3 (dayE (-1 - (-1 - (E - 306)) + 306)) = true
      rw [show -1 - (-1 - (E - 306)) + 306 = E by omega]
      exact hE
  obtain ⟨b, hb0, hb1, hbd⟩ := hday
  have hfit : (fitE rev f0 f1 f2 f3 f4 f5).at (b * 86400 + n2 * 3600 + n1 * 60 + n0) := by
    refine ⟨?_, ?_, ?_, ?_⟩
    · rw [show (b * 86400 + n2 * 3600 + n1 * 60 + n0) / 86400 = b by omega]; exact hbd
    · rw [show (b * 86400 + n2 * 3600 + n1 * 60 + n0) % 86400 / 3600 = n2 by omega]; exact h2
    · rw [show (b * 86400 + n2 * 3600 + n1 * 60 + n0) % 3600 / 60 = n1 by omega]; exact h1
    · rw [show (b * 86400 + n2 * 3600 + n1 * 60 + n0) % 60 = n0 by omega]; exact h0
  obtain ⟨t, t0, t1, ht, hz⟩ := least_of (fun q => (fitE rev f0 f1 f2 f3 f4 f5).at q) (b * 86400 + n2 * 3600 + n1 * 60 + n0 - x).toNat x _ (by omega) hfit
  exact ⟨t, ⟨t0, ht, hz⟩, by omega, by omega⟩
end Go.Proofs.YtjpcdkhapeejjaaGreatDoor.A
