/- Steps of the proof of the law: contracts of functions of the given program, and plain lemmas about what they compute.
Conditions: none beyond those that each theorem names. -/
import Derived.Test.YtjpcdkhapeejjaaGreatDoorK30
import Derived.Test.YtjpcdkhapeejjaaGreatDoorK40
set_option linter.unusedVariables false
set_option linter.unusedSimpArgs false
open Go.RowKit Go.Proofs.YtjpcdkhapeejjaaGreatDoorW.PrintWords Go.Proofs.YtjpcdkhapeejjaaGreatDoorW.PrintLast Go.Proofs.YtjpcdkhapeejjaaGreatDoorW.PrintMore
namespace Go.Proofs.YtjpcdkhapeejjaaGreatDoor.A
open Cal
def StarF (l : List S54) : Prop := ∃ x, l = [x] ∧ x.f0 = true ∧ x.f3 = 1
theorem star_text (l : List S54) (h : StarF l) : fieldL l = [42] := by
  obtain ⟨x, rfl, h0, h1⟩ := h
  show itemL x = [42]
  unfold itemL
  rw [h0, if_pos rfl, if_neg (by omega)]
theorem item_star (j : Int) (x : S54) (h : GoodI j x) (e : itemL x = [42]) : x.f0 = true ∧ x.f3 = 1 := by
  have hl := low_bd j
  have hh := high_bd j
  have s0 := h.s0
  unfold itemL at e
  cases hf : x.f0 with
  | true =>
    rw [hf, if_pos rfl] at e
    by_cases c : 1 < x.f3
    · rw [if_pos c] at e; exact absurd (congrArg List.length e) (by simp)
    · exact ⟨rfl, by omega⟩
  | false =>
    exfalso
    have hr := h.r hf
    have d1 := dec_dig (n := x.f1) (by omega) (by omega)
    have L1 := dec_len x.f1
    rw [hf, if_neg (show ¬ (false = true) by decide)] at e
    obtain ⟨a, b, hab⟩ : ∃ a b, dec x.f1 = a :: b := by
      cases hd : dec x.f1 with
      | nil => rw [hd] at L1; exact absurd L1.1 (by decide)
      | cons a b => exact ⟨a, b, rfl⟩
    have ha := d1 a (by rw [hab]; exact List.mem_cons_self)
    rw [hab] at e
    have h42 : a = 42 := by
      split at e
      · exact (List.cons.inj e).1
      · split at e
        · exact (List.cons.inj e).1
        · exact (List.cons.inj e).1
    omega
theorem text_star (j : Int) (l : List S54) (h : GoodF j l) (e : fieldL l = [42]) : StarF l := by
  cases hl : l with
  | nil => exact absurd hl h.ne
  | cons x xs =>
    rw [hl] at e
    have hg := h.it
    rw [hl] at hg
    cases xs with
    | nil => exact ⟨x, rfl, item_star j x (hg x List.mem_cons_self) e⟩
    | cons y ys =>
      exfalso
      have h1 := (item_len x).1
      have : fieldL (x :: y :: ys) = itemL x ++ 44 :: joinC 44 ((y :: ys).map itemL) := rfl
      rw [this] at e
      have := congrArg List.length e
      rw [List.length_append] at this
      simp only [List.length_cons, List.length_nil] at this
      omega
theorem star_has (j : Int) (l : List S54) (h : StarF l) (v : Int) (v0 : low j ≤ v) (v1 : v ≤ high j) : hasF j l v = true := by
  obtain ⟨x, rfl, h0, h1⟩ := h
  unfold hasF hasI
  rw [List.any_cons, List.any_nil, Bool.or_false, h0, h1]
  exact decide_eq_true ⟨v0, v1, by omega⟩
/-- An expression as the reference takes it. -/
structure GoodE (f0 f1 f2 f3 f4 f5 : List S54) : Prop where
  g0 : GoodF 0 f0
  g1 : GoodF 1 f1
  g2 : GoodF 2 f2
  g3 : GoodF 3 f3
  g4 : GoodF 4 f4
  g5 : GoodF 5 f5
  st : StarF f3 ∨ StarF f5
  d28 : StarF f4 ∨ ∀ x ∈ f3, x.f0 = false → x.f1 ≤ 28
def tx (l : List S54) : ByteArray := strOfNums (fieldL l)
def segsOf (f0 f1 f2 f3 f4 f5 : List S54) : List ByteArray := [tx f0, tx f1, tx f2, tx f3, tx f4, tx f5]
theorem isect_ok (k : Nat) (f0 f1 f2 f3 f4 f5 : List S54) (h : GoodE f0 f1 f2 f3 f4 f5) (hne : (tx f5).toList ≠ [42]) (hk : 1000 ≤ k) : isect k (segsOf f0 f1 f2 f3 f4 f5) (tx f5) 5 = some () := by
  have hs : StarF f3 := by
    rcases h.st with a | a
    · exact a
    · exfalso; apply hne; unfold tx; rw [star_text _ a, s_list]; rfl
  have hb := field_by8 5 f5 h.g5.it
  have hl := field_len f5 h.g5.len
  unfold isect
  rw [if_pos rfl, show (⟨#[42, 47]⟩ : ByteArray) = strOfNums [42, 47] from rfl]
  obtain ⟨r, hr, _⟩ := idx_some (fieldL f5) [42, 47] hb (fun y hy => by simp at hy; omega) (by omega) (by decide) ((fieldL f5).length + 1) 0 k (by omega) (by omega)
  have hr' : gronx_zzIndex.f k (tx f5) (strOfNums [42, 47]) = some r := hr
  rw [hr', Option.bind_some]
  by_cases c : r = 0
  · rw [if_pos c]
  · rw [if_neg c, if_neg (by show ¬ (6 ≤ 3); decide)]
    have e3 : rdOf ByteArray.empty (segsOf f0 f1 f2 f3 f4 f5) 3 = strOfNums [42] := by show tx f3 = _; unfold tx; rw [star_text _ hs]
    rw [e3, show (⟨#[42]⟩ : ByteArray) = strOfNums [42] from rfl, idx_at0 [42] [42] (fun y hy => by simp at hy; omega) (fun y hy => by simp at hy; omega) (by decide) (by decide) (by decide) rfl k (by omega), Option.bind_some, if_pos rfl]
theorem cor_some {rev : Bool} {r : Option (Int × Bool)} {x : Int} {b : Bool} (h : cor rev r = some (x, b)) : r = some (co rev x, b) := by
  unfold cor at h
  cases r with
  | none => cases h
  | some q =>
    obtain ⟨q1, q2⟩ := q
    simp only [Option.map_some, Option.some.injEq, Prod.mk.injEq] at h
    obtain ⟨h1, h2⟩ := h
    rw [← h1, ← h2, co_co]
/-- One step of a round. -/
theorem rnd_step (rev : Bool) (k : Nat) (segs : List ByteArray) (j : Nat) (J : Int) (hJ : (j : Int) = J) (l : List S54) (al : Int → Prop) (hg : GoodF J l) (hj : J ≤ 5) (hs : rdOf ByteArray.empty segs J = tx l) (hi : (tx l).toList ≠ [42] → isect k segs (tx l) j = some ())
    (hL : Lev rev J l al fun x => cor rev (bumpU k rev (strOfNums (fieldL l)) J (co rev x))) (x t : Int) (hx : loD rev ≤ x) (hxt : x ≤ t) (ht : t ≤ hiD rev) (hT : hasF J l (posV (co rev t) J) = true) :
    (hasF J l (posV (co rev x) J) = true → cor rev (rnd k rev segs (j + 1) (co rev x)) = cor rev (rnd k rev segs j (co rev x))) ∧
    (hasF J l (posV (co rev x) J) = false → ∃ y, cor rev (rnd k rev segs (j + 1) (co rev x)) = some (y, true) ∧ al y ∧ x < y ∧ y ≤ t ∧ hasF J l (posV (co rev y) J) = true ∧ ∀ z, x ≤ z → z < y → hasF J l (posV (co rev z) J) = false) := by
  subst hJ
  have e : rnd k rev segs (j + 1) (co rev x) = if (tx l).toList = ([42] : List UInt8) then rnd k rev segs j (co rev x) else if (tx l).toList = ([63] : List UInt8) then none else
      (isect k segs (tx l) j).bind fun _ => (bumpU k rev (tx l) (j : Int) (co rev x)).bind fun r => if r.2 = true then some (r.1, true) else rnd k rev segs j r.1 := by
    rw [rnd, hs]
  rw [e]
  have hb := field_by8 (j : Int) l hg.it
  by_cases c : (tx l).toList = ([42] : List UInt8)
  · have hst : StarF l := by
      refine text_star (j : Int) l hg ?_
      unfold tx at c
      by_cases d : fieldL l = [42]
      · exact d
      · exact absurd c (ns42 hb d)
    have hp := pos_bd (co rev x) (j : Int) (by omega) hj
    have := star_has (j : Int) l hst _ hp.1 hp.2
    rw [if_pos c]
    exact ⟨fun _ => rfl, fun hf => by rw [this] at hf; cases hf⟩
  · have c63 : ¬ (tx l).toList = ([63] : List UInt8) := by
      unfold tx
      refine ns63 hb fun d => ?_
      have := field_mem (j : Int) l hg.it 63 (by rw [d]; exact List.mem_singleton.2 rfl)
      omega
    rw [if_neg c, if_neg c63, hi c, Option.bind_some]
    have key := hL x t hx hxt ht hT
    refine ⟨fun hd => ?_, fun hd => ?_⟩
    · have h1 := cor_some (key.1 hd)
      have h1 : bumpU k rev (tx l) (j : Int) (co rev x) = some (co rev x, false) := h1
      rw [h1, Option.bind_some, if_neg (fun hq => by cases hq)]
    · obtain ⟨y, hy, ha, hxy, hyt, hGy, hz⟩ := key.2 hd
      have h1 : bumpU k rev (tx l) (j : Int) (co rev x) = some (co rev y, true) := cor_some hy
      refine ⟨y, ?_, ha, hxy, hyt, hGy, hz⟩
      rw [h1, Option.bind_some, if_pos rfl]
      unfold cor
      rw [Option.map_some, co_co]
/-- What fits, in a direction. -/
def fitE (rev : Bool) (f0 f1 f2 f3 f4 f5 : List S54) : Fit where
  d b := hasF 5 f5 (wdE (co rev b + 306)) = true ∧ hasF 4 f4 (monE (co rev b + 306)) = true ∧ hasF 3 f3 (dayE (co rev b + 306)) = true
  h n := hasF 2 f2 (if rev = true then 23 - n else n) = true
  m n := hasF 1 f1 (if rev = true then 59 - n else n) = true
  s n := hasF 0 f0 (if rev = true then 59 - n else n) = true
theorem p5 (rev : Bool) (x : Int) : posV (co rev x) 5 = wdE (co rev (x / 86400) + 306) := by rw [posV5, co_day]
theorem p4 (rev : Bool) (x : Int) : posV (co rev x) 4 = monE (co rev (x / 86400) + 306) := by rw [posV4, co_day]
theorem p3 (rev : Bool) (x : Int) : posV (co rev x) 3 = dayE (co rev (x / 86400) + 306) := by rw [posV3, co_day]
theorem p2 (rev : Bool) (x : Int) : posV (co rev x) 2 = if rev = true then 23 - x % 86400 / 3600 else x % 86400 / 3600 := by
  rw [posV2]
  cases rev
  · rfl
  · rw [co_t, if_pos rfl]; omega
theorem p1 (rev : Bool) (x : Int) : posV (co rev x) 1 = if rev = true then 59 - x % 3600 / 60 else x % 3600 / 60 := by
  rw [posV1]
  cases rev
  · rfl
  · rw [co_t, if_pos rfl]; omega
theorem p0 (rev : Bool) (x : Int) : posV (co rev x) 0 = if rev = true then 59 - x % 60 else x % 60 := by
  rw [posV0]
  cases rev
  · rfl
  · rw [co_t, if_pos rfl]; omega
theorem full_E (rev : Bool) (f0 f1 f2 f3 f4 f5 : List S54) (h : GoodE f0 f1 f2 f3 f4 f5) : (fitE rev f0 f1 f2 f3 f4 f5).full := by
  obtain ⟨v2, a2, b2, h2⟩ := has_some 2 f2 h.g2 (by decide) (by decide)
  obtain ⟨v1, a1, b1, h1⟩ := has_some 1 f1 h.g1 (by decide) (by decide)
  obtain ⟨v0, a0, b0, h0⟩ := has_some 0 f0 h.g0 (by decide) (by decide)
  have a2 : 0 ≤ v2 := a2
  have b2 : v2 ≤ 23 := b2
  have a1 : 0 ≤ v1 := a1
  have b1 : v1 ≤ 59 := b1
  have a0 : 0 ≤ v0 := a0
  have b0 : v0 ≤ 59 := b0
  cases rev
  · exact ⟨⟨v2, a2, b2, h2⟩, ⟨v1, a1, b1, h1⟩, ⟨v0, a0, b0, h0⟩⟩
  · refine ⟨⟨23 - v2, by omega, by omega, ?_⟩, ⟨59 - v1, by omega, by omega, ?_⟩, ⟨59 - v0, by omega, by omega, ?_⟩⟩
    · show hasF 2 f2 (23 - (23 - v2)) = true; rw [show 23 - (23 - v2) = v2 by omega]; exact h2
    · show hasF 1 f1 (59 - (59 - v1)) = true; rw [show 59 - (59 - v1) = v1 by omega]; exact h1
    · show hasF 0 f0 (59 - (59 - v0)) = true; rw [show 59 - (59 - v0) = v0 by omega]; exact h0
theorem fnot {b : Bool} (h : ¬ b = true) : b = false := by cases b; rfl; exact absurd rfl h
theorem round_E (rev : Bool) (k : Nat) (f0 f1 f2 f3 f4 f5 : List S54) (h : GoodE f0 f1 f2 f3 f4 f5) (hk : 1000 ≤ k) :
    Round (fitE rev f0 f1 f2 f3 f4 f5) (loD rev) (hiD rev) (fun x => cor rev (rnd k rev (segsOf f0 f1 f2 f3 f4 f5) 6 (co rev x))) ∧
    ∀ x t, loD rev ≤ x → x ≤ t → t ≤ hiD rev → (fitE rev f0 f1 f2 f3 f4 f5).at t → (fitE rev f0 f1 f2 f3 f4 f5).at x → cor rev (rnd k rev (segsOf f0 f1 f2 f3 f4 f5) 6 (co rev x)) = some (x, false) := by
  have S5 := rnd_step rev k (segsOf f0 f1 f2 f3 f4 f5) 5 5 rfl f5 _ h.g5 (by decide) rfl (fun c => isect_ok k f0 f1 f2 f3 f4 f5 h c hk) (lev5 rev k f5 h.g5 hk)
  have S4 := rnd_step rev k (segsOf f0 f1 f2 f3 f4 f5) 4 4 rfl f4 _ h.g4 (by decide) rfl (fun c => by unfold isect; rw [if_neg (by decide)]) (lev4 rev k f4 h.g4 hk)
  have S3 := rnd_step rev k (segsOf f0 f1 f2 f3 f4 f5) 3 3 rfl f3 _ h.g3 (by decide) rfl (fun c => by unfold isect; rw [if_neg (by decide)]) (lev3 rev k f3 h.g3 hk)
  have S2 := rnd_step rev k (segsOf f0 f1 f2 f3 f4 f5) 2 2 rfl f2 _ h.g2 (by decide) rfl (fun c => by unfold isect; rw [if_neg (by decide)]) (lev2 rev k f2 h.g2 hk)
  have S1 := rnd_step rev k (segsOf f0 f1 f2 f3 f4 f5) 1 1 rfl f1 _ h.g1 (by decide) rfl (fun c => by unfold isect; rw [if_neg (by decide)]) (lev1 rev k f1 h.g1 hk)
  have S0 := rnd_step rev k (segsOf f0 f1 f2 f3 f4 f5) 0 0 rfl f0 _ h.g0 (by decide) rfl (fun c => by unfold isect; rw [if_neg (by decide)]) (lev0 rev k f0 h.g0 hk)
  have R0 : ∀ x, cor rev (rnd k rev (segsOf f0 f1 f2 f3 f4 f5) 0 (co rev x)) = some (x, false) := fun x => by
    unfold rnd cor
    rw [Option.map_some, co_co]
  have at5 : ∀ x, (fitE rev f0 f1 f2 f3 f4 f5).d (x / 86400) ↔ hasF 5 f5 (posV (co rev x) 5) = true ∧ hasF 4 f4 (posV (co rev x) 4) = true ∧ hasF 3 f3 (posV (co rev x) 3) = true := fun x => by rw [p5, p4, p3]; exact Iff.rfl
  have at2 : ∀ x, (fitE rev f0 f1 f2 f3 f4 f5).h (x % 86400 / 3600) ↔ hasF 2 f2 (posV (co rev x) 2) = true := fun x => by rw [p2]; exact Iff.rfl
  have at1 : ∀ x, (fitE rev f0 f1 f2 f3 f4 f5).m (x % 3600 / 60) ↔ hasF 1 f1 (posV (co rev x) 1) = true := fun x => by rw [p1]; exact Iff.rfl
  have at0 : ∀ x, (fitE rev f0 f1 f2 f3 f4 f5).s (x % 60) ↔ hasF 0 f0 (posV (co rev x) 0) = true := fun x => by rw [p0]; exact Iff.rfl
  refine ⟨⟨?_, ?_, ?_, ?_⟩, ?_⟩
  · intro x t a b c ht hnd
    have hd := (at5 t).1 ht.1
    rw [at5] at hnd
    have fin : ∀ y, y % 86400 = 0 → (∀ z, x ≤ z → z < y → ¬ (fitE rev f0 f1 f2 f3 f4 f5).d (z / 86400)) → ∀ q, x / 86400 ≤ q → q < y / 86400 → ¬ (fitE rev f0 f1 f2 f3 f4 f5).d q := by
      intro y hy hz q q0 q1
      have := hz (if x ≤ q * 86400 then q * 86400 else x) (by split <;> omega) (by split <;> omega)
      rw [show (if x ≤ q * 86400 then q * 86400 else x) / 86400 = q by split <;> omega] at this
      exact this
    by_cases c5 : hasF 5 f5 (posV (co rev x) 5) = true
    · have e5 := (S5 x t a b c hd.1).1 c5
      by_cases c4 : hasF 4 f4 (posV (co rev x) 4) = true
      · have e4 := (S4 x t a b c hd.2.1).1 c4
        obtain ⟨y, hy, hal, hxy, _, _, hz⟩ := (S3 x t a b c hd.2.2).2 (fnot fun c3 => hnd ⟨c5, c4, c3⟩)
        exact ⟨y, (e5.trans e4).trans hy, hal, hxy, fin y hal fun z z0 z1 hq => by have := hz z z0 z1; rw [((at5 z).1 hq).2.2] at this; cases this⟩
      · obtain ⟨y, hy, hal, hxy, _, _, hz⟩ := (S4 x t a b c hd.2.1).2 (fnot c4)
        exact ⟨y, e5.trans hy, hal, hxy, fin y hal fun z z0 z1 hq => by have := hz z z0 z1; rw [((at5 z).1 hq).2.1] at this; cases this⟩
    · obtain ⟨y, hy, hal, hxy, _, _, hz⟩ := (S5 x t a b c hd.1).2 (fnot c5)
      exact ⟨y, hy, hal, hxy, fin y hal fun z z0 z1 hq => by have := hz z z0 z1; rw [((at5 z).1 hq).1] at this; cases this⟩
  · intro x t a b c ht hd hnh
    have hdt := (at5 t).1 ht.1
    have hdx := (at5 x).1 hd
    have e5 := (S5 x t a b c hdt.1).1 hdx.1
    have e4 := (S4 x t a b c hdt.2.1).1 hdx.2.1
    have e3 := (S3 x t a b c hdt.2.2).1 hdx.2.2
    obtain ⟨y, hy, hal, hxy, _, hGy, hz⟩ := (S2 x t a b c ((at2 t).1 ht.2.1)).2 (fnot fun q => hnh ((at2 x).2 q))
    exact ⟨y, ((e5.trans e4).trans e3).trans hy, hal, hxy, (at2 y).2 hGy, fun z z0 z1 hq => by have := hz z z0 z1; rw [(at2 z).1 hq] at this; cases this⟩
  · intro x t a b c ht hd hh hnm
    have hdt := (at5 t).1 ht.1
    have hdx := (at5 x).1 hd
    have e5 := (S5 x t a b c hdt.1).1 hdx.1
    have e4 := (S4 x t a b c hdt.2.1).1 hdx.2.1
    have e3 := (S3 x t a b c hdt.2.2).1 hdx.2.2
    have e2 := (S2 x t a b c ((at2 t).1 ht.2.1)).1 ((at2 x).1 hh)
    obtain ⟨y, hy, hal, hxy, _, hGy, hz⟩ := (S1 x t a b c ((at1 t).1 ht.2.2.1)).2 (fnot fun q => hnm ((at1 x).2 q))
    exact ⟨y, (((e5.trans e4).trans e3).trans e2).trans hy, hal, hxy, (at1 y).2 hGy, fun z z0 z1 hq => by have := hz z z0 z1; rw [(at1 z).1 hq] at this; cases this⟩
  · intro x t a b c ht hd hh hm hns
    have hdt := (at5 t).1 ht.1
    have hdx := (at5 x).1 hd
    have e5 := (S5 x t a b c hdt.1).1 hdx.1
    have e4 := (S4 x t a b c hdt.2.1).1 hdx.2.1
    have e3 := (S3 x t a b c hdt.2.2).1 hdx.2.2
    have e2 := (S2 x t a b c ((at2 t).1 ht.2.1)).1 ((at2 x).1 hh)
    have e1 := (S1 x t a b c ((at1 t).1 ht.2.2.1)).1 ((at1 x).1 hm)
    obtain ⟨y, hy, _, hxy, _, hGy, hz⟩ := (S0 x t a b c ((at0 t).1 ht.2.2.2)).2 (fnot fun q => hns ((at0 x).2 q))
    exact ⟨y, ((((e5.trans e4).trans e3).trans e2).trans e1).trans hy, hxy, (at0 y).2 hGy, fun z z0 z1 hq => by have := hz z z0 z1; rw [(at0 z).1 hq] at this; cases this⟩
  · intro x t a b c ht hx
    have hdt := (at5 t).1 ht.1
    have hdx := (at5 x).1 hx.1
    have e5 := (S5 x t a b c hdt.1).1 hdx.1
    have e4 := (S4 x t a b c hdt.2.1).1 hdx.2.1
    have e3 := (S3 x t a b c hdt.2.2).1 hdx.2.2
    have e2 := (S2 x t a b c ((at2 t).1 ht.2.1)).1 ((at2 x).1 hx.2.1)
    have e1 := (S1 x t a b c ((at1 t).1 ht.2.2.1)).1 ((at1 x).1 hx.2.2.1)
    have e0 := (S0 x t a b c ((at0 t).1 ht.2.2.2)).1 ((at0 x).1 hx.2.2.2)
    exact ((((e5.trans e4).trans e3).trans e2).trans e1).trans (e0.trans (R0 x))
end Go.Proofs.YtjpcdkhapeejjaaGreatDoor.A
namespace Go.Proofs.YtjpcdkhapeejjaaGreatDoor.A
open Cal
set_option maxRecDepth 100000
attribute [local go_sem] hset_drewN halloc_drewN
set_option maxHeartbeats 1000000 in
theorem UTC_w (w : World) : Calls Tryz.prog 50 #[] w fun e w' => e = .returned (.pointer (some ⟨w.heap.size, 0, none⟩)) ∧ w' = w.alloc utcO := by
  go_enter Tryz.func50, Tryz.ntmps50
  go_wp2
  go_ret
  exact ⟨rfl, rfl⟩
set_option maxHeartbeats 1000000 in
theorem New_w (w : World) : Calls Tryz.prog 36 #[] w fun e w' => e = .returned (.pointer (some ⟨w.heap.size + 1, 0, none⟩)) ∧ w' = (w.alloc (ckO 0)).alloc (grO w.heap.size) := by
  go_enter Tryz.func36, Tryz.ntmps36
  go_wp2
  go_ret
  exact ⟨rfl, rfl⟩
theorem UTC_o (w : World) : Calls Tryz.prog 50 #[] w fun e w' => ∃ g, e = .returned (.pointer (some ⟨g, 0, none⟩)) ∧ w'.heap[g]? = some utcO ∧ Below w.heap.size w w' ∧ w.heap.size ≤ g :=
  (UTC_w w).mono fun e w' ⟨he, hw⟩ => ⟨_, he, by rw [hw]; exact heap_alloc_new _ _, by rw [hw]; exact below_alloc (Below.refl _ _) _, Nat.le_refl _⟩
theorem New_o (w : World) : Calls Tryz.prog 36 #[] w fun e w' => ∃ gG gC, e = .returned (.pointer (some ⟨gG, 0, none⟩)) ∧ (∀ w0 L, Mem w0 L w → Mem w0 ((gG, grO gC) :: (gC, ckO 0) :: L) w') := 
  (New_w w).mono fun e w' ⟨he, hw⟩ => ⟨w.heap.size + 1, w.heap.size, he, fun w0 L h => by
    have := (h.new (ckO 0)).new (grO w.heap.size)
    rw [World.size_alloc] at this
    rw [hw]; exact this⟩
/-- A moment's block of the tested package. -/
def mo (y m d h mi se : Int) : Obj := .cells #[.int .i64 y, .int .i64 m, .int .i64 d, .int .i64 h, .int .i64 mi, .int .i64 se] 26 (0, 0)
theorem mo_cells {W : World} {g : Nat} {y m d h mi se : Int} (hg : W.heap[g]? = some (mo y m d h mi se)) : W.cell? ⟨g, 0, none⟩ = some (.int .i64 y) ∧ W.cell? ⟨g, 1, none⟩ = some (.int .i64 m) ∧ W.cell? ⟨g, 2, none⟩ = some (.int .i64 d) ∧ W.cell? ⟨g, 3, none⟩ = some (.int .i64 h) ∧ W.cell? ⟨g, 4, none⟩ = some (.int .i64 mi) ∧ W.cell? ⟨g, 5, none⟩ = some (.int .i64 se) := by
  refine ⟨?_, ?_, ?_, ?_, ?_, ?_⟩ <;> (unfold World.cell?; rw [show W.heap[(⟨g, _, none⟩ : Addr).block]? = some (mo y m d h mi se) from hg]; rfl)
set_option maxHeartbeats 4000000 in
theorem timeOf_any (y m d h mi se : Int) (w : World) (y0 : 1988 ≤ y) (y1 : y ≤ 2109) (m0 : 1 ≤ m) (m1 : m ≤ 12) (d0 : 0 ≤ d) (d1 : d ≤ 32) (h0 : 0 ≤ h) (h1 : h ≤ 23) (mi0 : 0 ≤ mi) (mi1 : mi ≤ 59) (s0 : 0 ≤ se) (s1 : se ≤ 59) :
    Calls Tryz.prog 31 #[.agg #[.int .i64 y, .int .i64 m, .int .i64 d, .int .i64 h, .int .i64 mi, .int .i64 se]] w fun e w' => e = .returned (.agg #[.int .u64 0, .int .i64 (mkS y m d h mi se), .pointer none]) ∧ Below w.heap.size w w' := by
  have hu63 := Tryz.underlying63
  have hu26 := Tryz.underlying26
  have HM := Aside0.mk (((Mem.start w).new (mo y m d h mi se)).new (tb 0))
  rw [World.size_alloc] at HM
  have DA := Aside0.mk fun (g : Nat) (W : World) (hL : IsUTC W g) => Date_any y m d h mi se g W hL y0 y1 m0 m1 d0 d1 h0 h1 mi0 mi1 s0 s1
  clear y0 y1 m0 m1 d0 d1 h0 h1 mi0 mi1 s0 s1
  have K0 := Aside0.mk (mo_cells (HM.out.at_ 1 rfl))
  have K1 := Aside0.mk (mo_cells (HM.out.drew.at_ 1 rfl))
  have K2 := Aside0.mk fun n => (mo_cells ((HM.out.drewN n).at_ 1 rfl))
  unfold mo tb at K0 K1 K2
  obtain ⟨k0, k1, k2, k3, k4, k5⟩ := K0.out
  go_enter Tryz.func31, Tryz.ntmps31
  go_upto_region 1 with fail
  go_region_held3 (fun w' => w'.cell? ⟨w.heap.size, 0, none⟩ = some (.int .i64 y) ∧ w'.cell? ⟨w.heap.size, 1, none⟩ = some (.int .i64 m) ∧ w'.cell? ⟨w.heap.size, 2, none⟩ = some (.int .i64 d) ∧ w'.cell? ⟨w.heap.size, 3, none⟩ = some (.int .i64 h) ∧ w'.cell? ⟨w.heap.size, 4, none⟩ = some (.int .i64 mi) ∧ w'.cell? ⟨w.heap.size, 5, none⟩ = some (.int .i64 se))
    (first | with_reducible exact K0.out | with_reducible exact K1.out | with_reducible exact K2.out _ | exact mo_cells (HM.out.at_ 2 rfl) | exact mo_cells (HM.out.set3 1 rfl _ _ _ |>.at_ 2 rfl) | exact mo_cells (HM.out.drew.at_ 2 rfl))
    (first
      | (go_at_call 50; (with_reducible refine (UTC_o _).mono ?_); rintro e wz ⟨g, rfl, hg, hb, hge⟩; (first | have HN := Aside0.mk (HM.out.drew.join hb hge hg) | have HN := Aside0.mk (HM.out.join hb hge hg)); clear HM hg hb hge; have HM := HN; clear HN)
      | (go_at_call 49; (first | (with_reducible refine (DA.out _ _ (HM.out.utc 0 rfl)).mono ?_) | (with_reducible refine (DA.out _ _ (HM.out.drew.utc 0 rfl)).mono ?_)); rintro e wz ⟨rfl, hb⟩; have HN := Aside0.mk (HM.out.step hb); clear HM hb; have HM := HN; clear HN; obtain ⟨⟨c0, c1, c2⟩, ⟨c3, c4, c5⟩, c6⟩ := HM.out.c3 1 rfl))
  all_goals
    go_wp2_with fail
    refine bodyPost_ret (v := .agg #[.int .u64 0, .int .i64 (mkS y m d h mi se), .pointer none]) (by simp [results, Tryz.results31, go_sem, *]) rfl ⟨rfl, ?_⟩
    repeat (with_reducible first | exact HM.out.below | apply below_alloc | apply pw_below_drewN | apply below_drew1 | refine below_set ?_ (by omega))
theorem mo_fr {W : World} {g : Nat} {y m d h mi se : Int} (hg : W.heap[g]? = some (mo y m d h mi se)) : W.frozen? ⟨g, 0, none⟩ = false ∧ W.frozen? ⟨g, 1, none⟩ = false ∧ W.frozen? ⟨g, 2, none⟩ = false ∧ W.frozen? ⟨g, 3, none⟩ = false ∧ W.frozen? ⟨g, 4, none⟩ = false ∧ W.frozen? ⟨g, 5, none⟩ = false := by
  refine ⟨?_, ?_, ?_, ?_, ?_, ?_⟩ <;> (unfold World.frozen?; rw [show W.heap[(⟨g, _, none⟩ : Addr).block]? = some (mo y m d h mi se) from hg]; rfl)
set_option maxHeartbeats 4000000 in
theorem momentOf_any (s : Int) (w : World) (h : InR s) :
    Calls Tryz.prog 32 #[.agg #[.int .u64 0, .int .i64 s, .pointer none]] w fun e w' => e = .returned (.agg #[.int .i64 (yearS s), .int .i64 (monS s), .int .i64 (dayS s), .int .i64 (hourS s), .int .i64 (minS s), .int .i64 (secS s)]) ∧ Below w.heap.size w w' := by
  have hu63 := Tryz.underlying63
  have hu26 := Tryz.underlying26
  have HI := Aside0.mk h
  clear h
  have HM := Aside0.mk (((Mem.start w).new (tb s)).new (mo 0 0 0 0 0 0))
  rw [World.size_alloc] at HM
  go_enter Tryz.func32, Tryz.ntmps32
  go_wp2_with (first
    | (go_at_call 51; (with_reducible refine (TDate_any s _ HI.out).mono ?_); rintro e wz ⟨rfl, hb⟩; have HN := Aside0.mk (HM.out.step hb); clear HM hb; have HM := HN; clear HN; obtain ⟨⟨c0, c1, c2⟩, ⟨c3, c4, c5⟩, c6⟩ := HM.out.c3 1 rfl)
    | (go_at_call 52; (with_reducible refine (Clock_any s _ HI.out).mono ?_); rintro e wz ⟨rfl, hb⟩; have HN := Aside0.mk (HM.out.step hb); clear HM hb; have HM := HN; clear HN; clear c0 c1 c2 c3 c4 c5 c6; obtain ⟨k0, k1, k2, k3, k4, k5⟩ := mo_cells (HM.out.at_ 0 rfl); obtain ⟨f0, f1, f2, f3, f4, f5⟩ := mo_fr (HM.out.at_ 0 rfl); have klt := HM.out.lt 0 rfl; have kge := HM.out.ge 0 rfl))
  refine bodyPost_ret (v := .agg #[.int .i64 (yearS s), .int .i64 (monS s), .int .i64 (dayS s), .int .i64 (hourS s), .int .i64 (minS s), .int .i64 (secS s)]) (by simp [results, Tryz.results32, go_sem, *]) rfl ⟨rfl, ?_⟩
  repeat (with_reducible first | exact HM.out.below | apply below_alloc | apply pw_below_drewN | apply below_drew1 | refine below_set ?_ (by omega))
end Go.Proofs.YtjpcdkhapeejjaaGreatDoor.A
