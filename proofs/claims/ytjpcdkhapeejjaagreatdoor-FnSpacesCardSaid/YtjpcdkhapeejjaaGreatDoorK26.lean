/- Steps of the proof of the law: contracts of functions of the given program, and plain lemmas about what they compute.
Conditions: none beyond those that each theorem names. -/
import Derived.Test.YtjpcdkhapeejjaaGreatDoorK25
set_option linter.unusedVariables false
set_option linter.unusedSimpArgs false
open Go.RowKit Go.Proofs.YtjpcdkhapeejjaaGreatDoorW.PrintWords Go.Proofs.YtjpcdkhapeejjaaGreatDoorW.PrintLast Go.Proofs.YtjpcdkhapeejjaaGreatDoorW.PrintMore
namespace Go.Proofs.YtjpcdkhapeejjaaGreatDoor.A
/-- Digits, signs and spaces alone. -/
def Al (xs : List Int) : Prop := ∀ x ∈ xs, 32 ≤ x ∧ x ≤ 57
theorem Al.by8 {xs : List Int} (h : Al xs) : by8 xs := fun x hx => by have := h x hx; omega
theorem Al.app {xs ys : List Int} (a : Al xs) (b : Al ys) : Al (xs ++ ys) := fun x h => by
  rcases List.mem_append.1 h with h | h
  · exact a x h
  · exact b x h
theorem Al.drop {xs : List Int} (a : Al xs) (n : Nat) : Al (xs.drop n) := fun x h => a x (List.mem_of_mem_drop h)
theorem Al.take {xs : List Int} (a : Al xs) (n : Nat) : Al (xs.take n) := fun x h => a x (List.mem_of_mem_take h)
theorem rd_at (xs : List Int) (i : Nat) (h : i < xs.length) : rd xs (i : Int) = xs[i] := by
  unfold rd; simp [List.getD_eq_getElem?_getD, List.getElem?_eq_getElem h]
theorem drop_at (xs : List Int) (i : Nat) (h : i < xs.length) : xs.drop i = rd xs (i : Int) :: xs.drop (i + 1) := by rw [rd_at xs i h, List.drop_eq_getElem_cons h]
theorem lit_ne {ys : List Int} (h : Al ys) (L : List UInt8) (hL : L.any (fun c => decide (57 < c.toNat)) = true) : (strOfNums ys).toList ≠ L := fun e => by
  rw [s_list] at e
  rw [List.any_eq_true] at hL
  obtain ⟨c, hc, h2⟩ := hL
  rw [← e] at hc
  obtain ⟨x, hx, rfl⟩ := List.mem_map.1 hc
  have := h x hx
  have h2 := of_decide_eq_true h2
  rw [UInt8.toNat_ofNat'] at h2
  omega
theorem lit_none {ys : List Int} (h : Al ys) : gronx_literal.f (strOfNums ys) = some (strOfNums []) := by
  unfold gronx_literal.f
  iterate 19 rw [if_neg (lit_ne h _ (by decide))]
  rfl
theorem exp_none {ys : List Int} (h : Al ys) : gronx_expression.f (strOfNums ys) = some (strOfNums [], false) := by
  unfold gronx_expression.f
  iterate 12 rw [if_neg (lit_ne h _ (by decide))]
  rfl
theorem low_al {ys : List Int} (h : Al ys) : lowOnly (strOfNums ys) = true := by
  unfold lowOnly
  rw [List.all_eq_true]
  intro b hb
  rw [strOfNums_data] at hb
  obtain ⟨x, hx, rfl⟩ := List.mem_map.1 hb
  have := h x hx
  rw [UInt8.toNat_ofNat']
  exact decide_eq_true (by omega)
theorem lower_al {ys : List Int} (h : Al ys) (hl : ys.length ≤ 100000) : strings_ToLower.f (strOfNums ys) = some (strOfNums ys) := by
  unfold strings_ToLower.f; rw [if_pos ⟨low_al h, by rw [strOfNums_size]; exact hl⟩]
theorem upper_al {ys : List Int} (h : Al ys) (hl : ys.length ≤ 100000) : strings_ToUpper.f (strOfNums ys) = some (strOfNums ys) := by
  unfold strings_ToUpper.f; rw [if_pos ⟨low_al h, by rw [strOfNums_size]; exact hl⟩]
theorem trim_al (xs : List Int) (h : Al xs) (hn : 0 < xs.length) (hl : xs.length ≤ 100000) (h0 : rd xs 0 ≠ 32) (h1 : rd xs ((xs.length - 1 : Nat) : Int) ≠ 32) (k : Nat) : gronx_zzTrim.f (k + 3) (strOfNums xs) = some (strOfNums xs) := by
  unfold gronx_zzTrim.f
  have a0 : 32 ≤ rd xs 0 := by rw [show (0 : Int) = ((0 : Nat) : Int) from rfl, rd_at xs 0 hn]; exact (h _ (List.getElem_mem _)).1
  have a1 : 32 ≤ rd xs ((xs.length - 1 : Nat) : Int) := by rw [rd_at xs _ (by omega)]; exact (h _ (List.getElem_mem _)).1
  rw [gronx_zzTrim.l0, strOfNums_size, if_pos (by omega), if_pos (by omega), s_bt xs h.by8, if_neg h0, if_neg (by omega)]
  rw [gronx_zzTrim.j1, gronx_zzTrim.l1, strOfNums_size, w64' _ (by omega) (by omega), if_pos (by omega), if_pos (by omega), if_pos (by omega), s_bt xs h.by8]
  rw [show (xs.length : Int) - 1 = ((xs.length - 1 : Nat) : Int) by omega, if_neg h1, if_neg (by omega)]
def sp : Bool → List Int → List Int
  | _, [] => []
  | b, x :: xs => if x = 32 then (if b = true then sp true xs else 32 :: sp true xs) else x :: sp false xs
theorem spaces_al (xs : List Int) (h : Al xs) (hl : xs.length ≤ 100000) : ∀ (m i : Nat) (acc : List Int) (b : Bool) (k : Nat), i + m = xs.length → acc.length ≤ 1000000 + i → 2 * m < k → gronx_zzSpaces.l0 k (strOfNums xs) acc b (i : Int) = some (strOfNums (acc ++ sp b (xs.drop i)))
  | m, i, acc, b, 0, _, _, hk => by omega
  | 0, i, acc, b, k + 1, hi, ha, hk => by
    rw [gronx_zzSpaces.l0, strOfNums_size, if_neg (by omega), List.drop_eq_nil_of_le (by omega)]
    unfold sp
    rw [List.append_nil]
  | m + 1, i, acc, b, 1, hi, ha, hk => by omega
  | m + 1, i, acc, b, k + 2, hi, ha, hk => by
    have hx : 32 ≤ rd xs (i : Int) ∧ rd xs (i : Int) ≤ 57 := by rw [rd_at xs i (by omega)]; exact h _ (List.getElem_mem _)
    rw [gronx_zzSpaces.l0, strOfNums_size, if_pos (by omega), if_pos (by omega), s_bt xs h.by8, drop_at xs i (by omega)]
    by_cases e : rd xs (i : Int) = 32
    · rw [if_pos e, show (rd xs (i : Int) == 32) = true from beq_iff_eq.mpr e, gronx_zzSpaces.j1, if_pos rfl, w64' _ (by omega) (by omega), e]
      cases b with
      | true =>
        rw [if_pos rfl]
        have := spaces_al xs h hl m (i + 1) acc true k (by omega) (by omega) (by omega)
        rw [show ((i + 1 : Nat) : Int) = (i : Int) + 1 by omega] at this
        rw [this, sp, if_pos rfl, if_pos rfl]
      | false =>
        rw [if_neg (by decide), if_pos (by omega)]
        have := spaces_al xs h hl m (i + 1) (acc ++ [32]) true k (by omega) (by rw [List.length_append, List.length_singleton]; omega) (by omega)
        rw [show ((i + 1 : Nat) : Int) = (i : Int) + 1 by omega] at this
        rw [this, sp, if_pos rfl, if_neg (by decide), List.append_assoc, List.singleton_append]
    · rw [if_neg e, if_neg (by omega), if_neg (by omega), if_neg (by omega), show (rd xs (i : Int) == 13) = false from beq_eq_false_iff_ne.mpr (by omega), gronx_zzSpaces.j1, if_neg (by decide), if_pos (by omega), strOfNums_size, if_pos (by omega), if_pos (by omega), s_bt xs h.by8, w64' _ (by omega) (by omega)]
      have := spaces_al xs h hl m (i + 1) (acc ++ [rd xs (i : Int)]) false k (by omega) (by rw [List.length_append, List.length_singleton]; omega) (by omega)
      rw [show ((i + 1 : Nat) : Int) = (i : Int) + 1 by omega] at this
      rw [this, sp, if_neg e, List.append_assoc, List.singleton_append]
theorem sp_al {xs : List Int} (h : Al xs) : ∀ b, Al (sp b xs) ∧ (sp b xs).length ≤ xs.length := by
  induction xs with
  | nil => intro b; exact ⟨h, Nat.le_refl _⟩
  | cons x xs ih =>
    intro b
    have ih := ih (fun y hy => h y (List.mem_cons_of_mem _ hy))
    unfold sp
    by_cases e : x = 32
    · rw [if_pos e]
      cases b with
      | true => rw [if_pos rfl]; exact ⟨(ih true).1, by have := (ih true).2; simp only [List.length_cons]; omega⟩
      | false =>
        rw [if_neg (by decide)]
        exact ⟨fun y hy => by rcases List.mem_cons.1 hy with rfl | hy; exact (by omega); exact (ih true).1 y hy, by have := (ih true).2; simp only [List.length_cons]; omega⟩
    · rw [if_neg e]
      exact ⟨fun y hy => by rcases List.mem_cons.1 hy with rfl | hy; exact h _ List.mem_cons_self; exact (ih false).1 y hy, by have := (ih false).2; simp only [List.length_cons]; omega⟩
theorem sp_head : ∀ (xs ys : List Int), sp true xs ≠ 32 :: ys
  | [], ys => by unfold sp; exact fun h => nomatch h
  | x :: xs, ys => by
    unfold sp
    by_cases e : x = 32
    · rw [if_pos e, if_pos rfl]; exact sp_head xs ys
    · rw [if_neg e]; exact fun h => e (List.cons.inj h).1
theorem sp_nodbl : ∀ (xs : List Int) (b : Bool) (j : Nat), ((sp b xs).drop j).take 2 ≠ [32, 32]
  | [], b, j => by unfold sp; simp
  | x :: xs, b, j => by
    unfold sp
    by_cases e : x = 32
    · rw [if_pos e]
      cases b with
      | true => rw [if_pos rfl]; exact sp_nodbl xs true j
      | false =>
        rw [if_neg (by decide)]
        cases j with
        | succ j => rw [List.drop_succ_cons]; exact sp_nodbl xs true j
        | zero =>
          rw [List.drop_zero]
          intro h
          cases hs : sp true xs with
          | nil => rw [hs] at h; exact absurd h (by simp)
          | cons y ys =>
            rw [hs] at h
            simp only [List.take_succ_cons, List.take_zero, List.cons.injEq, and_true, true_and] at h
            subst h
            exact sp_head xs ys hs
    · rw [if_neg e]
      cases j with
      | succ j => rw [List.drop_succ_cons]; exact sp_nodbl xs false j
      | zero =>
        rw [List.drop_zero]
        intro h
        rw [List.take_succ_cons] at h
        exact e (List.cons.inj h).1
theorem literals_al (xs : List Int) (h : Al xs) (hl : xs.length ≤ 100000) : ∀ (m i : Nat) (acc : List Int) (k : Nat), i + m = xs.length → acc.length ≤ 1000000 + i → m < k → gronx_zzLiterals.l0 k (strOfNums xs) acc (i : Int) = some (strOfNums (acc ++ xs.drop i))
  | m, i, acc, 0, _, _, hk => by omega
  | 0, i, acc, k + 1, hi, ha, hk => by
    rw [gronx_zzLiterals.l0, strOfNums_size, if_neg (by omega), List.drop_eq_nil_of_le (by omega), List.append_nil]
  | m + 1, i, acc, k + 1, hi, ha, hk => by
    have ih := literals_al xs h hl m (i + 1) (acc ++ [rd xs (i : Int)]) k (by omega) (by rw [List.length_append, List.length_singleton]; omega) (by omega)
    rw [show ((i + 1 : Nat) : Int) = (i : Int) + 1 by omega] at ih
    rw [gronx_zzLiterals.l0, strOfNums_size, if_pos (by omega), w64' _ (by omega) (by omega), w64' _ (by omega) (by omega), s_bt xs h.by8, drop_at xs i (by omega)]
    by_cases c : (i : Int) + 3 ≤ (xs.length : Int)
    · rw [if_pos c, if_pos (by omega), if_pos (by omega), s_ext, lit_none ((h.take _).drop _), Option.bind_some, if_pos (by rw [s_list]; rfl), if_pos (by omega), ih, List.append_assoc, List.singleton_append]
    · rw [if_neg c, if_pos (by omega), if_pos (by omega), ih, List.append_assoc, List.singleton_append]
theorem replace_al (xs : List Int) (h : Al xs) (hl : xs.length ≤ 100000) (hd : ∀ j, (xs.drop j).take 2 ≠ [32, 32]) (k : Nat) (hk : xs.length + 3 < k) (b2 : ByteArray) : gronx_zzReplaceAll.f k (strOfNums xs) (strOfNums [32, 32]) b2 = some (strOfNums xs) := by
  obtain ⟨k, rfl⟩ : ∃ k', k = k' + 1 := ⟨k - 1, by omega⟩
  unfold gronx_zzReplaceAll.f
  rw [gronx_zzReplaceAll.l0]
  unfold gronx_zzIndex.f
  have := idx_none xs [32, 32] h.by8 (fun x hx => by simp at hx; omega) (by omega) (by simp) (fun j _ => hd j) (xs.length + 1) 0 k (by omega) (by omega)
  rw [show ((0 : Nat) : Int) = 0 from rfl] at this
  rw [this, Option.bind_some, if_pos (by omega), strOfNums_size, if_pos (by simp; omega), s_bytes xs h.by8, List.nil_append]
def yr : Nat → List Int → Bool
  | _, [] => false
  | n, x :: xs => if 48 ≤ x ∧ x ≤ 57 then (if n + 1 = 4 then true else yr (n + 1) xs) else yr 0 xs
theorem year_al (xs : List Int) (h : Al xs) (hl : xs.length ≤ 100000) : ∀ (m i n : Nat) (k : Nat), i + m = xs.length → n ≤ 3 → yr n (xs.drop i) = false → 2 * m < k → gronx_zzHasYear.l0 k (strOfNums xs) (n : Int) (i : Int) = some false
  | m, i, n, 0, _, _, _, hk => by omega
  | 0, i, n, k + 1, hi, hn, hy, hk => by rw [gronx_zzHasYear.l0, strOfNums_size, if_neg (by omega)]
  | m + 1, i, n, 1, hi, hn, hy, hk => by omega
  | m + 1, i, n, k + 2, hi, hn, hy, hk => by
    rw [drop_at xs i (by omega), yr] at hy
    have e1 : ((i + 1 : Nat) : Int) = (i : Int) + 1 := by omega
    rw [gronx_zzHasYear.l0, strOfNums_size, if_pos (by omega), if_pos (by omega), s_bt xs h.by8]
    by_cases c : 48 ≤ rd xs (i : Int) ∧ rd xs (i : Int) ≤ 57
    · rw [if_pos c] at hy
      rw [if_neg (by omega), show decide (rd xs (i : Int) > 57) = false from decide_eq_false (by omega), gronx_zzHasYear.j1, if_neg (by decide), w64' _ (by omega) (by omega), w64' _ (by omega) (by omega)]
      by_cases c4 : n + 1 = 4
      · rw [if_pos c4] at hy; cases hy
      · rw [if_neg c4] at hy
        rw [if_neg (by omega)]
        have := year_al xs h hl m (i + 1) (n + 1) k (by omega) (by omega) hy (by omega)
        rw [e1, show ((n + 1 : Nat) : Int) = (n : Int) + 1 by omega] at this
        exact this
    · rw [if_neg c] at hy
      have := year_al xs h hl m (i + 1) 0 k (by omega) (by omega) hy (by omega)
      rw [e1, show ((0 : Nat) : Int) = 0 from rfl] at this
      by_cases c2 : rd xs (i : Int) < 48
      · rw [if_pos c2, gronx_zzHasYear.j1, if_pos rfl, w64' _ (by omega) (by omega)]; exact this
      · rw [if_neg c2, show decide (rd xs (i : Int) > 57) = true from decide_eq_true (by omega), gronx_zzHasYear.j1, if_pos rfl, w64' _ (by omega) (by omega)]; exact this
/-- Parts with n + 1 spaces between. -/
def joinW (n : Nat) : List (List Int) → List Int
  | [] => []
  | [f] => f
  | f :: g :: fs => f ++ (List.replicate (n + 1) 32 ++ joinW n (g :: fs))
structure Part (f : List Int) : Prop where
  ne : f ≠ []
  al : ∀ x ∈ f, 33 ≤ x ∧ x ≤ 57
theorem sp_word : ∀ (f ys : List Int) (b : Bool), f ≠ [] → (∀ x ∈ f, 33 ≤ x ∧ x ≤ 57) → sp b (f ++ ys) = f ++ sp false ys
  | [], _, _, h, _ => absurd rfl h
  | [x], ys, b, _, ha => by
    have := ha x List.mem_cons_self
    show sp b (x :: ys) = x :: sp false ys
    rw [sp, if_neg (by omega)]
  | x :: y :: f, ys, b, _, ha => by
    have := ha x List.mem_cons_self
    show sp b (x :: (y :: f ++ ys)) = x :: (y :: f ++ sp false ys)
    rw [sp, if_neg (by omega), sp_word (y :: f) ys false (by simp) (fun z hz => ha z (List.mem_cons_of_mem _ hz))]
theorem sp_run : ∀ (n : Nat) (ys : List Int), sp true (List.replicate n 32 ++ ys) = sp true ys
  | 0, ys => rfl
  | n + 1, ys => by
    rw [List.replicate_succ, List.cons_append, sp, if_pos rfl, if_pos rfl]; exact sp_run n ys
theorem sp_true_word (f ys : List Int) (hn : f ≠ []) (ha : ∀ x ∈ f, 33 ≤ x ∧ x ≤ 57) : sp true (f ++ ys) = sp false (f ++ ys) := by rw [sp_word f ys true hn ha, sp_word f ys false hn ha]
theorem joinW_head (n : Nat) (f : List Int) (fs : List (List Int)) : ∃ ys, joinW n (f :: fs) = f ++ ys := by
  cases fs with
  | nil => exact ⟨[], by rw [List.append_nil]; rfl⟩
  | cons g fs => exact ⟨_, rfl⟩
theorem sp_join (n : Nat) : ∀ (fs : List (List Int)) (f : List Int), (∀ g ∈ f :: fs, Part g) → sp false (joinW n (f :: fs)) = joinC 32 (f :: fs)
  | [], f, h => by
    have hf := h f List.mem_cons_self
    show sp false f = f
    have := sp_word f [] false hf.ne hf.al
    rw [List.append_nil] at this
    rw [this]; exact List.append_nil f
  | g :: fs, f, h => by
    have hf := h f List.mem_cons_self
    have hg := h g (List.mem_cons_of_mem _ List.mem_cons_self)
    show sp false (f ++ (List.replicate (n + 1) 32 ++ joinW n (g :: fs))) = f ++ 32 :: joinC 32 (g :: fs)
    rw [sp_word f _ false hf.ne hf.al, List.replicate_succ, List.cons_append, sp, if_pos rfl, if_neg (by decide), sp_run]
    obtain ⟨ys, hy⟩ := joinW_head n g fs
    rw [hy, sp_true_word g ys hg.ne hg.al, ← hy, sp_join n fs g (fun x hx => h x (List.mem_cons_of_mem _ hx))]
theorem joinW_al (n : Nat) : ∀ (fs : List (List Int)) (f : List Int), (∀ g ∈ f :: fs, Part g) → Al (joinW n (f :: fs))
  | [], f, h => fun x hx => by have := (h f List.mem_cons_self).al x hx; omega
  | g :: fs, f, h => by
    have ih := joinW_al n fs g (fun x hx => h x (List.mem_cons_of_mem _ hx))
    show Al (f ++ (List.replicate (n + 1) 32 ++ joinW n (g :: fs)))
    refine Al.app (fun x hx => by have := (h f List.mem_cons_self).al x hx; omega) (Al.app (fun x hx => ?_) ih)
    have := List.eq_of_mem_replicate hx
    omega
theorem joinW_last (n : Nat) : ∀ (fs : List (List Int)) (f : List Int), (∀ g ∈ f :: fs, Part g) → ∃ u x, joinW n (f :: fs) = u ++ [x] ∧ x ≠ 32
  | [], f, h => by
    have hf := h f List.mem_cons_self
    refine ⟨f.dropLast, f.getLast hf.ne, (List.dropLast_concat_getLast hf.ne).symm, ?_⟩
    have := hf.al _ (List.getLast_mem hf.ne)
    omega
  | g :: fs, f, h => by
    obtain ⟨u, x, e, hx⟩ := joinW_last n fs g (fun x hx => h x (List.mem_cons_of_mem _ hx))
    refine ⟨f ++ (List.replicate (n + 1) 32 ++ u), x, ?_, hx⟩
    show f ++ (List.replicate (n + 1) 32 ++ joinW n (g :: fs)) = _
    rw [e]; simp [List.append_assoc]
theorem normalize_join (n : Nat) (f : List Int) (fs : List (List Int)) (h : ∀ g ∈ f :: fs, Part g) (hl : (joinW n (f :: fs)).length ≤ 50000) (hf : fs.length ≤ 10) (k : Nat) (hk : 2 * (joinW n (f :: fs)).length + 100 < k) :
    gronx_normalize.f k (strOfNums (joinW n (f :: fs))) = some ((f :: fs).map strOfNums) := by
  have ha := joinW_al n fs f h
  obtain ⟨ys, hy⟩ := joinW_head n f fs
  obtain ⟨u, z, hu, hz⟩ := joinW_last n fs f h
  have hsp := sp_join n fs f h
  obtain ⟨al2, hl2⟩ := sp_al ha false
  have hnd := sp_nodbl (joinW n (f :: fs)) false
  rw [hsp] at al2 hl2 hnd
  have hn0 : 0 < (joinW n (f :: fs)).length := by rw [hu]; simp
  have hd0 : rd (joinW n (f :: fs)) 0 ≠ 32 := by
    rw [hy]
    have hp := h f List.mem_cons_self
    have h33 := hp.al
    cases hf2 : f with
    | nil => exact absurd hf2 hp.ne
    | cons a b =>
      rw [hf2] at h33
      have := h33 a List.mem_cons_self
      show a ≠ 32
      omega
  have hd1 : rd (joinW n (f :: fs)) (((joinW n (f :: fs)).length - 1 : Nat) : Int) ≠ 32 := by
    rw [rd_at _ _ (by omega)]
    simp only [hu]
    simp [hz]
  obtain ⟨k, rfl⟩ : ∃ k', k = k' + 3 := ⟨k - 3, by omega⟩
  unfold gronx_normalize.f
  rw [trim_al _ ha hn0 (by omega) hd0 hd1 k, Option.bind_some, lower_al ha (by omega), Option.bind_some, exp_none ha, Option.bind_some, if_neg (by decide)]
  rw [gronx_normalize.j0]
  unfold gronx_zzSpaces.f
  have s1 := spaces_al _ ha (by omega) (joinW n (f :: fs)).length 0 [] false (k + 2) (by omega) (by simp) (by omega)
  rw [show ((0 : Nat) : Int) = 0 from rfl, List.drop_zero, List.nil_append, hsp] at s1
  rw [s1, Option.bind_some, upper_al al2 (by omega), Option.bind_some]
  unfold gronx_zzLiterals.f
  have s2 := literals_al _ al2 (by omega) (joinC 32 (f :: fs)).length 0 [] (k + 2) (by omega) (by simp) (by omega)
  rw [show ((0 : Nat) : Int) = 0 from rfl, List.drop_zero, List.nil_append] at s2
  rw [s2, Option.bind_some, show (⟨#[32, 32]⟩ : ByteArray) = strOfNums [32, 32] from rfl, show (⟨#[32]⟩ : ByteArray) = strOfNums [32] from rfl]
  rw [replace_al _ al2 (by omega) hnd (k + 2) (by omega), Option.bind_some]
  rw [zsplit 32 (by omega) fs f al2.by8 (by omega) (fun g hg hm => by have := (h g hg).al 32 hm; omega) (by omega) (k + 2) (by omega)]
  rfl
/-- Five parts: a part of seconds stands ahead of them. -/
theorem segments5 (n : Nat) (f : List Int) (fs : List (List Int)) (h : ∀ g ∈ f :: fs, Part g) (hl : (joinW n (f :: fs)).length ≤ 50000) (hf : fs.length = 4) (k : Nat) (hk : 2 * (joinW n (f :: fs)).length + 100 < k) :
    gronx_Segments.f k (strOfNums (joinW n (f :: fs))) = some (([48] :: f :: fs).map strOfNums, none) := by
  unfold gronx_Segments.f
  rw [normalize_join n f fs h hl (by omega) k hk, Option.bind_some]
  have e : ((((f :: fs).map strOfNums).length : Nat) : Int) = 5 := by rw [List.length_map, List.length_cons, hf]; rfl
  rw [e, if_neg (by omega), show decide ((5 : Int) > 7) = false from rfl]
  obtain ⟨k, rfl⟩ : ∃ k', k = k' + 1 := ⟨k - 1, by omega⟩
  rw [gronx_Segments.j0, if_neg (by decide), if_pos rfl, Option.bind_some, if_pos (by rw [List.length_map]; simp only [List.length_cons, List.length_nil]; omega)]
  rfl
/-- Six parts, of which the last one holds no year. -/
theorem segments6 (n : Nat) (f : List Int) (fs : List (List Int)) (h : ∀ g ∈ f :: fs, Part g) (hl : (joinW n (f :: fs)).length ≤ 50000) (hf : fs.length = 5) (hy : ∀ g, (f :: fs)[5]? = some g → yr 0 g = false ∧ g.length ≤ 10000) (k : Nat) (hk : 2 * (joinW n (f :: fs)).length + 50000 < k) :
    gronx_Segments.f k (strOfNums (joinW n (f :: fs))) = some ((f :: fs).map strOfNums, none) := by
  unfold gronx_Segments.f
  rw [normalize_join n f fs h hl (by omega) k (by omega), Option.bind_some]
  have e : ((((f :: fs).map strOfNums).length : Nat) : Int) = 6 := by rw [List.length_map, List.length_cons, hf]; rfl
  rw [e, if_neg (by omega), show decide ((6 : Int) > 7) = false from rfl]
  obtain ⟨k, rfl⟩ : ∃ k', k = k' + 1 := ⟨k - 1, by omega⟩
  rw [gronx_Segments.j0, if_neg (by decide), if_neg (by decide), if_pos rfl, if_pos (by rw [e]; decide)]
  have hlen : 5 < (f :: fs).length := by rw [List.length_cons, hf]; decide
  obtain ⟨hy1, hy2⟩ := hy _ (List.getElem?_eq_getElem hlen)
  have hal : Al ((f :: fs)[5]) := fun x hx => by have := (h _ (List.getElem_mem hlen)).al x hx; omega
  have hr : rdOf ByteArray.empty ((f :: fs).map strOfNums) 5 = strOfNums ((f :: fs)[5]) := by
    unfold rdOf
    rw [List.getD_eq_getElem?_getD, List.getElem?_map, show (5 : Int).toNat = 5 from rfl, List.getElem?_eq_getElem hlen]; rfl
  rw [hr]
  unfold gronx_zzHasYear.f
  have := year_al _ hal (by omega) ((f :: fs)[5]).length 0 0 k (by omega) (by omega) (by rw [List.drop_zero]; exact hy1) (by omega)
  rw [show ((0 : Nat) : Int) = 0 from rfl] at this
  rw [this, Option.bind_some, if_neg (by decide)]
def spec_Low.f (a0 : Int) : Option (Int) := if a0 = 3 then (some 1) else (if a0 = 4 then (some 1) else (some 0))
set_option maxHeartbeats 8000000 in
set_option maxRecDepth 100000 in
theorem spec_Low.calls (a0 : Int) (r : Int) (w : World) (h : spec_Low.f a0 = some r) :
    Calls Tryz.prog 55 #[.int .i64 a0] w fun e w' => e = .returned (.int .i64 r) ∧ Drawn0 w w' := by
 have H : (if a0 = 3 then (some 1) else (if a0 = 4 then (some 1) else (some 0))) = some r := h
 clear h
 refine (Classical.em (a0 = 3)).elim (fun c2 => ?a1_) (fun c2 => ?b1_)
 case' a1_ =>
  rw [if_pos c2] at H
  have c2b0 : (a0 == 3) = true := beq_iff_eq.mpr c2
  have c2b1 : (a0 != 3) = false := bne_eq_false_iff_eq.mpr c2
  clear c2
  obtain rfl := Option.some.inj H
 case' b1_ =>
  rw [if_neg c2] at H
  have c2b0 : (a0 == 3) = false := beq_eq_false_iff_ne.mpr c2
  have c2b1 : (a0 != 3) = true := bne_iff_ne.mpr c2
  refine (Classical.em (a0 = 4)).elim (fun c3 => ?a2_) (fun c3 => ?b2_)
 case' a2_ =>
  rw [if_pos c3] at H
  have c3b0 : (a0 == 4) = true := beq_iff_eq.mpr c3
  have c3b1 : (a0 != 4) = false := bne_eq_false_iff_eq.mpr c3
  clear c3
  obtain rfl := Option.some.inj H
 case' b2_ =>
  rw [if_neg c3] at H
  have c3b0 : (a0 == 4) = false := beq_eq_false_iff_ne.mpr c3
  have c3b1 : (a0 != 4) = true := bne_iff_ne.mpr c3
  obtain rfl := Option.some.inj H
 case a1_ | a2_ | b2_ =>
  go_enter Tryz.func55, Tryz.ntmps55
  go_wp2
  go_ret
  exact ⟨by first | rfl | (simp; done) | (simp [*]; done), by repeat (first | exact Drawn0.refl _ | apply Drawn0.step)⟩
def spec_High.f (a0 : Int) : Option Int := if 0 ≤ a0 then (if a0 < 6 then some (([59, 59, 23, 31, 12, 6] : List Int).getD a0.toNat 0) else none) else none
set_option maxRecDepth 100000 in
theorem spec_High.index (i : Int) (w : World) (h0 : 0 ≤ i) (h1 : i < 6) :
    (Instr.index 144 (Value.agg #[.int .i64 59, .int .i64 59, .int .i64 23, .int .i64 31, .int .i64 12, .int .i64 6]) (.int .i64 i)).run Tryz.prog w = .ok (.int .i64 (([59, 59, 23, 31, 12, 6] : List Int).getD i.toNat 0)) w := by
  obtain ⟨n, rfl⟩ := Int.eq_ofNat_of_zero_le h0
  have : n = 0 ∨ n = 1 ∨ n = 2 ∨ n = 3 ∨ n = 4 ∨ n = 5 := by omega
  rcases this with rfl | rfl | rfl | rfl | rfl | rfl <;> (show _ = _; kernel_rfl)
set_option maxRecDepth 100000 in
theorem spec_High.calls (a0 : Int) (r : Int) (w : World) (h : spec_High.f a0 = some r) :
    Calls Tryz.prog 56 #[.int .i64 a0] w fun e w' => e = .returned (.int .i64 r) ∧ Drawn0 w w' := by
  unfold spec_High.f at h
  by_cases h0 : 0 ≤ a0
  · rw [if_pos h0] at h
    by_cases h1 : a0 < 6
    · rw [if_pos h1] at h
      obtain rfl := Option.some.inj h
      have hx := fun w => spec_High.index a0 w h0 h1
      clear h
      generalize ([59, 59, 23, 31, 12, 6] : List Int).getD a0.toNat 0 = r at *
      go_enter Tryz.func56, Tryz.ntmps56
      go_wp2
      go_ret
      exact ⟨rfl, Drawn0.refl _⟩
    · rw [if_neg h1] at h; cases h
  · rw [if_neg h0] at h; cases h
def spec_Has.l0 : Nat → Int → Int → List (S54) → Int → Int → Option (Bool)
  | 0, _, _, _, _, _ => none
  | k + 1, x0, x2, x11, x12, x13 => if x13 < x12 then (if 0 ≤ x13 then (if x13 < (x11.length : Int) then (if (rd_T54 x11 x13).f0 = true then ((spec_Low.f x0).bind fun t157 => ((spec_High.f x0).bind fun t158 => (if x2 ≥ t157 then (if x2 ≤ t158 then (if ((rd_T54 x11 x13).f3) = 0 then (none) else (if (Int.tmod (wrap64 (x2 - t157)) ((rd_T54 x11 x13).f3)) = 0 then (some true) else (spec_Has.l0 k x0 x2 x11 x12 (wrap64 (x13 + 1))))) else (spec_Has.l0 k x0 x2 x11 x12 (wrap64 (x13 + 1)))) else (spec_Has.l0 k x0 x2 x11 x12 (wrap64 (x13 + 1)))))) else (if x2 ≥ ((rd_T54 x11 x13).f1) then (if x2 ≤ ((rd_T54 x11 x13).f2) then (if ((rd_T54 x11 x13).f3) = 0 then (none) else (if (Int.tmod (wrap64 (x2 - ((rd_T54 x11 x13).f1))) ((rd_T54 x11 x13).f3)) = 0 then (some true) else (spec_Has.l0 k x0 x2 x11 x12 (wrap64 (x13 + 1))))) else (spec_Has.l0 k x0 x2 x11 x12 (wrap64 (x13 + 1)))) else (spec_Has.l0 k x0 x2 x11 x12 (wrap64 (x13 + 1))))) else (none)) else (none)) else (some false)
def spec_Has.f (k : Nat) (a0 : Int) (l1 : List (S54)) (a2 : Int) : Option (Bool) := spec_Has.l0 k a0 a2 l1 (l1.length : Int) 0
theorem spec_Has.mono_l : ∀ k, (∀ y0 y1 y2 y3 y4, LeO (spec_Has.l0 k y0 y1 y2 y3 y4) (spec_Has.l0 (k + 1) y0 y1 y2 y3 y4))
  | 0 => fun _ _ _ _ _ r h => by simp [spec_Has.l0] at h
  | k + 1 => by
    have ih0 := spec_Has.mono_l k
    · intro y0 y1 y2 y3 y4
      unfold spec_Has.l0
      repeat' first
      | (with_reducible exact ih0 _ _ _ _ _)
      | (with_reducible exact LeO.refl _)
      | (with_reducible exact LeO.none _)
      | (with_reducible refine LeO.ite ?_ ?_)
      | (with_reducible refine LeO.bind ?_ (fun _ => ?_))
      | exact ih0 _ _ _ _ _
      | exact LeO.none _
      | refine LeO.ite ?_ ?_
      | refine LeO.bind ?_ (fun _ => ?_)
theorem spec_Has.mono : ∀ a0 a1 a2 k, LeO (spec_Has.f k a0 a1 a2) (spec_Has.f (k + 1) a0 a1 a2) := by
  intro a0 a1 a2 k
  have ih0 := spec_Has.mono_l k
  unfold spec_Has.f
  repeat' first
      | (with_reducible exact ih0 _ _ _ _ _)
      | (with_reducible exact LeO.refl _)
      | (with_reducible exact LeO.none _)
      | (with_reducible refine LeO.ite ?_ ?_)
      | (with_reducible refine LeO.bind ?_ (fun _ => ?_))
      | exact ih0 _ _ _ _ _
      | exact LeO.none _
      | refine LeO.ite ?_ ?_
      | refine LeO.bind ?_ (fun _ => ?_)
/-- The ways out of one look at a list's item. -/
theorem has_cases {lo hi a2 f3 : Int} {rec : Option Bool} {r : Bool} (H : (if a2 ≥ lo then (if a2 ≤ hi then (if f3 = 0 then none else (if Int.tmod (wrap64 (a2 - lo)) f3 = 0 then some true else rec)) else rec) else rec) = some r) :
    (decide (lo ≤ a2) = false ∧ rec = some r) ∨ (decide (lo ≤ a2) = true ∧ decide (a2 ≤ hi) = false ∧ rec = some r) ∨ (decide (lo ≤ a2) = true ∧ decide (a2 ≤ hi) = true ∧ ¬ f3 = 0 ∧ (f3 == 0) = false ∧ (Int.tmod (wrap64 (a2 - lo)) f3 == 0) = false ∧ rec = some r) ∨ (decide (lo ≤ a2) = true ∧ decide (a2 ≤ hi) = true ∧ ¬ f3 = 0 ∧ (f3 == 0) = false ∧ (Int.tmod (wrap64 (a2 - lo)) f3 == 0) = true ∧ r = true) := by
  by_cases c1 : a2 ≥ lo
  · rw [if_pos c1] at H
    by_cases c2 : a2 ≤ hi
    · rw [if_pos c2] at H
      by_cases c3 : f3 = 0
      · rw [if_pos c3] at H; cases H
      · rw [if_neg c3] at H
        by_cases c4 : Int.tmod (wrap64 (a2 - lo)) f3 = 0
        · rw [if_pos c4] at H
          exact .inr (.inr (.inr ⟨decide_eq_true c1, decide_eq_true c2, c3, beq_eq_false_iff_ne.mpr c3, beq_iff_eq.mpr c4, (Option.some.inj H).symm⟩))
        · rw [if_neg c4] at H
          exact .inr (.inr (.inl ⟨decide_eq_true c1, decide_eq_true c2, c3, beq_eq_false_iff_ne.mpr c3, beq_eq_false_iff_ne.mpr c4, H⟩))
    · rw [if_neg c2] at H
      exact .inr (.inl ⟨decide_eq_true c1, decide_eq_false c2, H⟩)
  · rw [if_neg c1] at H
    exact .inl ⟨decide_eq_false c1, H⟩
set_option maxHeartbeats 8000000 in
set_option maxRecDepth 100000 in
theorem spec_Has.calls (k : Nat) (a0 : Int) (A1 : Option Addr) (c1 : Nat) (l1 : List (S54)) (a2 : Int) (r : Bool) (w : World) (hr1 : Kd.C k54 w A1 l1.length l1) (hc1 : l1.length ≤ c1) (h : spec_Has.f k a0 l1 a2 = some r) :
    Calls Tryz.prog 41 #[.int .i64 a0, .slice A1 l1.length c1, .int .i64 a2] w fun e w' => e = .returned (.bool r) ∧ Below w.heap.size w w' := by
  have hu54 := Tryz.underlying54
  have HR1 := Aside0.mk hr1
  have HC1 := Aside0.mk hc1
  clear hr1 hc1
  have H' := Aside0.mk (show spec_Has.l0 k a0 a2 l1 (l1.length : Int) 0 = some r from h)
  clear h
  go_enter Tryz.func41, Tryz.ntmps41
  go_wp2
  go_loopg [13] k (fun kq v13 w' => ∃ x : Int, v13 = .int .i64 x ∧ Aside0 (spec_Has.l0 kq a0 a2 l1 (l1.length : Int) x = some r) ∧ Aside0 (kq ≤ k) ∧ Aside0 (Below w.heap.size w w'))
  case atStart => exact ⟨0, rfl, H', ⟨Nat.le_refl _⟩, ⟨Below.refl _ _⟩⟩
  case round =>
    clear H'
    obtain ⟨x, rfl, HA, HK, HB⟩ := hrel
    cases gk with
    | zero => exact absurd HA.out (by simp [spec_Has.l0])
    | succ k1 =>
      have H := HA.out
      clear HA
      simp only [spec_Has.l0] at H
      by_cases c4 : x < (l1.length : Int)
      case neg =>
        rw [if_neg c4] at H
        have c4b := decide_eq_false c4
        clear c4
        obtain rfl := Option.some.inj H
        go_wp2
        go_ret
        exact ⟨rfl, HB.out⟩
      by_cases c5 : 0 ≤ x
      case neg => rw [if_pos c4, if_neg c5] at H; cases H
      rw [if_pos c4, if_pos c5, if_pos c4] at H
      obtain ⟨ad, e, h0, h1, h2, h3⟩ := at_T54 HR1.out x c5 c4
      have c4b := decide_eq_true c4
      have hi1 := eq_true c4
      have hi0 := eq_true c5
      have klt := World.block_lt_of_cell? w _ h0
      generalize rd_T54 l1 x = it at H h0 h1 h2 h3
      obtain ⟨f0, f1, f2, f3⟩ := it
      dsimp only at H h0 h1 h2 h3
      cases e
      replace h0 := (HB.out.cell (World.block_lt_of_cell? w _ h0)).trans h0
      replace h1 := (HB.out.cell (World.block_lt_of_cell? w _ h1)).trans h1
      replace h2 := (HB.out.cell (World.block_lt_of_cell? w _ h2)).trans h2
      replace h3 := (HB.out.cell (World.block_lt_of_cell? w _ h3)).trans h3
      clear c4 c5
      cases f0 with
      | true =>
        rw [if_pos rfl] at H
        obtain ⟨lo, hlo, H⟩ := Option.bind_eq_some_iff.mp H
        obtain ⟨hi, hhi, H⟩ := Option.bind_eq_some_iff.mp H
        have A1 := Aside0.mk hlo
        have A2 := Aside0.mk hhi
        clear hlo hhi
        obtain ⟨b1, H⟩ | ⟨b1, b2, H⟩ | ⟨b1, b2, b0, b3, b4, H⟩ | ⟨b1, b2, b0, b3, b4, rfl⟩ := has_cases H
        all_goals
          go_wp2
          go_quiet (fail)
          go_wp2_with (first | (go_at_call 55; (with_reducible refine (spec_Low.calls a0 lo _ A1.out).mono ?_); rintro e w' ⟨rfl, ⟨nd, rfl⟩⟩) | (go_at_call 56; (with_reducible refine (spec_High.calls a0 hi _ A2.out).mono ?_); rintro e w' ⟨rfl, ⟨nd, rfl⟩⟩))
          first
          | (go_ret; exact ⟨rfl, by repeat (with_reducible first | exact HB.out | apply below_alloc | apply pw_below_drewN | apply below_drew1)⟩)
          | (go_roundg k1; (case measure => have := HK.out; omega); (case rel => exact ⟨wrap64 (x + 1), rfl, ⟨H⟩, ⟨by have := HK.out; omega⟩, ⟨by repeat (with_reducible first | exact HB.out | apply below_alloc | apply pw_below_drewN | apply below_drew1)⟩⟩))
      | false =>
        rw [if_neg (by simp)] at H
        obtain ⟨b1, H⟩ | ⟨b1, b2, H⟩ | ⟨b1, b2, b0, b3, b4, H⟩ | ⟨b1, b2, b0, b3, b4, rfl⟩ := has_cases H
        all_goals
          go_wp2
          go_quiet (fail)
          go_wp2
          first
          | (go_ret; exact ⟨rfl, by repeat (with_reducible first | exact HB.out | apply below_alloc | apply pw_below_drewN | apply below_drew1)⟩)
          | (go_roundg k1; (case measure => have := HK.out; omega); (case rel => exact ⟨wrap64 (x + 1), rfl, ⟨H⟩, ⟨by have := HK.out; omega⟩, ⟨by repeat (with_reducible first | exact HB.out | apply below_alloc | apply pw_below_drewN | apply below_drew1)⟩⟩))
def spec_Decimal.f : Nat → Int → Option (ByteArray)
  | 0, _ => none
  | k + 1, a0 => if a0 < 10 then (if 0 ≤ a0 then (if a0 ≤ (wrap64 (a0 + 1)) then (if (wrap64 (a0 + 1)) ≤ 10 then (some ((⟨#[48, 49, 50, 51, 52, 53, 54, 55, 56, 57]⟩ : ByteArray).extract (a0 : Int).toNat ((wrap64 (a0 + 1)) : Int).toNat)) else (none)) else (none)) else (none)) else ((spec_Decimal.f k (wrap64 (Int.tdiv a0 10))).bind fun t537 => ((spec_Decimal.f k (Int.tmod a0 10)).bind fun t538 => (if t537.size + t538.size ≤ 9223372036854775807 then (some (t537 ++ t538)) else (none))))
set_option maxHeartbeats 8000000 in
set_option maxRecDepth 100000 in
theorem spec_Decimal.calls (k : Nat) : ∀ (a0 : Int) (r : ByteArray) (w : World) (h : spec_Decimal.f k a0 = some r),
    Calls Tryz.prog 81 #[.int .i64 a0] w fun e w' => e = .returned (.string r) ∧ Drawn0 w w' := by
 induction k using Nat.strongRecOn with
 | _ k ih =>
 intro a0 r w h
 cases k with
 | zero => exact absurd h (by simp [spec_Decimal.f])
 | succ k =>
 simp only [spec_Decimal.f] at h
 have H : (if a0 < 10 then (if 0 ≤ a0 then (if a0 ≤ (wrap64 (a0 + 1)) then (if (wrap64 (a0 + 1)) ≤ 10 then (some ((⟨#[48, 49, 50, 51, 52, 53, 54, 55, 56, 57]⟩ : ByteArray).extract (a0 : Int).toNat ((wrap64 (a0 + 1)) : Int).toNat)) else (none)) else (none)) else (none)) else ((spec_Decimal.f k (wrap64 (Int.tdiv a0 10))).bind fun t537 => ((spec_Decimal.f k (Int.tmod a0 10)).bind fun t538 => (if t537.size + t538.size ≤ 9223372036854775807 then (some (t537 ++ t538)) else (none))))) = some r := h
 clear h
 refine (Classical.em (a0 < 10)).elim (fun c2 => ?a1_) (fun c2 => ?b1_)
 case' a1_ =>
  rw [if_pos c2] at H
  have c2b0 : decide (a0 < 10) = true := decide_eq_true c2
  clear c2
  refine (Classical.em (0 ≤ a0)).elim (fun c3 => ?a2_) (fun c3 => ?b2_)
 case' a2_ =>
  rw [if_pos c3] at H
  have c3b0 := eq_true c3
  have c3b1 : decide (0 ≤ a0) = true := decide_eq_true c3
  clear c3
  refine (Classical.em (a0 ≤ (wrap64 (a0 + 1)))).elim (fun c4 => ?a3_) (fun c4 => ?b3_)
 case' a3_ =>
  rw [if_pos c4] at H
  have c4b0 := eq_true c4
  have c4b1 : decide (a0 ≤ (wrap64 (a0 + 1))) = true := decide_eq_true c4
  refine (Classical.em ((wrap64 (a0 + 1)) ≤ 10)).elim (fun c5 => ?a4_) (fun c5 => ?b4_)
 case a4_ =>
  rw [if_pos c5] at H
  have c5b0 := eq_true c5
  have c5b1 : decide ((wrap64 (a0 + 1)) ≤ 10) = true := decide_eq_true c5
  obtain rfl := Option.some.inj H
  go_enter Tryz.func81, Tryz.ntmps81
  go_wp2
  go_ret
  exact ⟨by first | rfl | (simp; done) | (simp [*]; done), by repeat (first | exact Drawn0.refl _ | apply Drawn0.step)⟩
 case b4_ =>
  rw [if_neg c5] at H
  exact absurd H (by simp)
 case b3_ =>
  rw [if_neg c4] at H
  exact absurd H (by simp)
 case b2_ =>
  rw [if_neg c3] at H
  exact absurd H (by simp)
 case' b1_ =>
  rw [if_neg c2] at H
  have c2b0 : decide (a0 < 10) = false := decide_eq_false c2
  clear c2
  replace H := Option.bind_eq_some_iff.mp H
  obtain ⟨t537, A60, H⟩ := H
  try dsimp only at H
  have A6 := Aside0.mk A60
  clear A60
  replace H := Option.bind_eq_some_iff.mp H
  obtain ⟨t538, A70, H⟩ := H
  try dsimp only at H
  have A7 := Aside0.mk A70
  clear A70
  refine (Classical.em (t537.size + t538.size ≤ 9223372036854775807)).elim (fun c8 => ?a5_) (fun c8 => ?b5_)
 case a5_ =>
  rw [if_pos c8] at H
  have c8b0 := eq_true c8
  have c8b1 : decide (t537.size + t538.size ≤ 9223372036854775807) = true := decide_eq_true c8
  try have c8b2 : (9223372036854775807 < t537.size + t538.size) = False := eq_false (Nat.not_lt.2 c8)
  obtain rfl := Option.some.inj H
  go_enter Tryz.func81, Tryz.ntmps81
  go_wp2_with (first | ((with_reducible refine gate_callee (f := 81) rfl ?_); refine goesL_ (some 11) rfl rfl Tryz.func81 (by kernel_rfl) rfl #[.int .i64 (wrap64 (Int.tdiv a0 10))] rfl (by (try simp only [List.map_toArray, List.map_cons, List.map_nil]); first | done | rfl | (simp only [List.length_drop, List.length_take]; rfl)) ?_; (with_reducible refine (ih k (by omega) (wrap64 (Int.tdiv a0 10)) t537 _ A6.out).mono ?_); rintro e w' ⟨rfl, ⟨nd, rfl⟩⟩; refine ⟨_, rfl, ?_⟩) | ((with_reducible refine gate_callee (f := 81) rfl ?_); refine goesL_ (some 14) rfl rfl Tryz.func81 (by kernel_rfl) rfl #[.int .i64 (Int.tmod a0 10)] rfl (by (try simp only [List.map_toArray, List.map_cons, List.map_nil]); first | done | rfl | (simp only [List.length_drop, List.length_take]; rfl)) ?_; (with_reducible refine (ih k (by omega) (Int.tmod a0 10) t538 _ A7.out).mono ?_); rintro e w' ⟨rfl, ⟨nd, rfl⟩⟩; refine ⟨_, rfl, ?_⟩))
  go_ret
  exact ⟨by first | rfl | (simp; done) | (simp [*]; done), by repeat (first | exact Drawn0.refl _ | apply Drawn0.step)⟩
 case b5_ =>
  rw [if_neg c8] at H
  exact absurd H (by simp)
def digB (n : Int) : ByteArray := ⟨#[UInt8.ofNat (48 + n.toNat)]⟩
def decB (n : Int) : ByteArray := if n < 10 then digB n else digB (n / 10) ++ digB (n % 10)
theorem decB_size (n : Int) : (decB n).size ≤ 2 := by
  unfold decB
  split
  · exact Nat.le_succ 1
  · rw [ByteArray.size_append]; exact Nat.le_refl 2
theorem dec_all : ∀ m : Fin 100, spec_Decimal.f 2 (m.val : Int) = some (decB (m.val : Int)) := by decide +kernel
theorem dec_f (n : Int) (h0 : 0 ≤ n) (h1 : n ≤ 99) : spec_Decimal.f 2 n = some (decB n) := by
  obtain ⟨m, rfl⟩ := Int.eq_ofNat_of_zero_le h0
  exact dec_all ⟨m, by omega⟩
theorem dec_any (n : Int) (w : World) (h0 : 0 ≤ n) (h1 : n ≤ 99) : Calls Tryz.prog 81 #[.int .i64 n] w fun e w' => e = .returned (.string (decB n)) ∧ ∃ m, w' = w.drewN m :=
  (spec_Decimal.calls 2 n (decB n) w (dec_f n h0 h1)).mono fun _ _ ⟨he, hw⟩ => ⟨he, hw.out⟩
def B (l : List UInt8) : ByteArray := ⟨l.toArray⟩
def itemB (all : Bool) (from_ to_ step : Int) : ByteArray :=
  if all = true then (if 1 < step then B [42] ++ (B [47] ++ decB step) else B [42])
  else if from_ < to_ then (if 1 < step then (decB from_ ++ (B [45] ++ decB to_)) ++ (B [47] ++ decB step) else decB from_ ++ (B [45] ++ decB to_))
  else (if 1 < step then (decB from_ ++ (B [45] ++ decB to_)) ++ (B [47] ++ decB step) else decB from_)
def spec_ItemText.f (a0_0 : Bool) (a0_1 : Int) (a0_2 : Int) (a0_3 : Int) : Option ByteArray :=
  if (a0_0 = true ∨ (0 ≤ a0_1 ∧ a0_1 ≤ 99 ∧ 0 ≤ a0_2 ∧ a0_2 ≤ 99)) ∧ 1 ≤ a0_3 ∧ a0_3 ≤ 99 then some (itemB a0_0 a0_1 a0_2 a0_3) else none
set_option maxRecDepth 100000 in
set_option maxHeartbeats 2000000 in
theorem spec_ItemText.calls (a0_0 : Bool) (a0_1 : Int) (a0_2 : Int) (a0_3 : Int) (r : ByteArray) (w : World) (h : spec_ItemText.f a0_0 a0_1 a0_2 a0_3 = some r) :
    Calls Tryz.prog 53 #[.agg #[.bool a0_0, .int .i64 a0_1, .int .i64 a0_2, .int .i64 a0_3]] w fun e w' => e = .returned (.string r) ∧ Below w.heap.size w w' := by
 have hu54 := Tryz.underlying54
 unfold spec_ItemText.f at h
 split at h
 ·
  rename_i hb
  obtain ⟨b0, b1, b2⟩ := hb
  obtain rfl := Option.some.inj h
  clear h
  have s1 := decB_size a0_1
  have s2 := decB_size a0_2
  have s3 := decB_size a0_3
  cases a0_0 with
  | true =>
   refine (Classical.em (1 < a0_3)).elim (fun c => ?a1_) (fun c => ?b1_)
   case a1_ =>
    have cb : decide (1 < a0_3) = true := decide_eq_true c
    have E := Aside0.mk (show itemB _ a0_1 a0_2 a0_3 = B [42] ++ (B [47] ++ decB a0_3) from by unfold itemB; rw [if_pos rfl, if_pos c])
    rw [E.out]
    clear E b0
    go_enter Tryz.func53, Tryz.ntmps53
    go_wp2_with (go_at_call 81; refine (dec_any _ _ (by omega) (by omega)).mono ?_; rintro e w' ⟨rfl, ⟨nd, rfl⟩⟩)
    go_ret
    exact ⟨rfl, by repeat (with_reducible first | exact Below.refl _ _ | apply below_alloc | apply pw_below_drewN | apply below_drew1)⟩
   case b1_ =>
    have cb : decide (1 < a0_3) = false := decide_eq_false c
    have E := Aside0.mk (show itemB _ a0_1 a0_2 a0_3 = B [42] from by unfold itemB; rw [if_pos rfl, if_neg c])
    rw [E.out]
    clear E b0
    go_enter Tryz.func53, Tryz.ntmps53
    go_wp2_with (go_at_call 81; refine (dec_any _ _ (by omega) (by omega)).mono ?_; rintro e w' ⟨rfl, ⟨nd, rfl⟩⟩)
    go_ret
    exact ⟨rfl, by repeat (with_reducible first | exact Below.refl _ _ | apply below_alloc | apply pw_below_drewN | apply below_drew1)⟩
  | false =>
   have b7 := b0.resolve_left (by simp)
   obtain ⟨b3, b4, b5, b6⟩ := b7
   refine (Classical.em (a0_1 < a0_2)).elim (fun d => ?a2_) (fun d => ?b2_)
   case' a2_ =>
    refine (Classical.em (1 < a0_3)).elim (fun c => ?a3_) (fun c => ?b3_)
   case a3_ =>
    have cb : decide (1 < a0_3) = true := decide_eq_true c
    have db : decide (a0_1 < a0_2) = true := decide_eq_true d
    have E := Aside0.mk (show itemB _ a0_1 a0_2 a0_3 = (decB a0_1 ++ (B [45] ++ decB a0_2)) ++ (B [47] ++ decB a0_3) from by unfold itemB; rw [if_neg Bool.false_ne_true, if_pos d, if_pos c])
    rw [E.out]
    clear E b0
    go_enter Tryz.func53, Tryz.ntmps53
    go_wp2_with (go_at_call 81; refine (dec_any _ _ (by omega) (by omega)).mono ?_; rintro e w' ⟨rfl, ⟨nd, rfl⟩⟩)
    go_ret
    exact ⟨rfl, by repeat (with_reducible first | exact Below.refl _ _ | apply below_alloc | apply pw_below_drewN | apply below_drew1)⟩
   case b3_ =>
    have cb : decide (1 < a0_3) = false := decide_eq_false c
    have db : decide (a0_1 < a0_2) = true := decide_eq_true d
    have E := Aside0.mk (show itemB _ a0_1 a0_2 a0_3 = decB a0_1 ++ (B [45] ++ decB a0_2) from by unfold itemB; rw [if_neg Bool.false_ne_true, if_pos d, if_neg c])
    rw [E.out]
    clear E b0
    go_enter Tryz.func53, Tryz.ntmps53
    go_wp2_with (go_at_call 81; refine (dec_any _ _ (by omega) (by omega)).mono ?_; rintro e w' ⟨rfl, ⟨nd, rfl⟩⟩)
    go_ret
    exact ⟨rfl, by repeat (with_reducible first | exact Below.refl _ _ | apply below_alloc | apply pw_below_drewN | apply below_drew1)⟩
   case' b2_ =>
    refine (Classical.em (1 < a0_3)).elim (fun c => ?a4_) (fun c => ?b4_)
   case a4_ =>
    have cb : decide (1 < a0_3) = true := decide_eq_true c
    have db : decide (a0_1 < a0_2) = false := decide_eq_false d
    have E := Aside0.mk (show itemB _ a0_1 a0_2 a0_3 = (decB a0_1 ++ (B [45] ++ decB a0_2)) ++ (B [47] ++ decB a0_3) from by unfold itemB; rw [if_neg Bool.false_ne_true, if_neg d, if_pos c])
    rw [E.out]
    clear E b0
    go_enter Tryz.func53, Tryz.ntmps53
    go_wp2_with (go_at_call 81; refine (dec_any _ _ (by omega) (by omega)).mono ?_; rintro e w' ⟨rfl, ⟨nd, rfl⟩⟩)
    go_ret
    exact ⟨rfl, by repeat (with_reducible first | exact Below.refl _ _ | apply below_alloc | apply pw_below_drewN | apply below_drew1)⟩
   case b4_ =>
    have cb : decide (1 < a0_3) = false := decide_eq_false c
    have db : decide (a0_1 < a0_2) = false := decide_eq_false d
    have E := Aside0.mk (show itemB _ a0_1 a0_2 a0_3 = decB a0_1 from by unfold itemB; rw [if_neg Bool.false_ne_true, if_neg d, if_neg c])
    rw [E.out]
    clear E b0
    go_enter Tryz.func53, Tryz.ntmps53
    go_wp2_with (go_at_call 81; refine (dec_any _ _ (by omega) (by omega)).mono ?_; rintro e w' ⟨rfl, ⟨nd, rfl⟩⟩)
    go_ret
    exact ⟨rfl, by repeat (with_reducible first | exact Below.refl _ _ | apply below_alloc | apply pw_below_drewN | apply below_drew1)⟩
 ·
  cases h
end Go.Proofs.YtjpcdkhapeejjaaGreatDoor.A
