/- Steps of the proof of the law: contracts of functions of the given program, and plain lemmas about what they compute.
Conditions: none beyond those that each theorem names. -/
import Derived.Test.YtjpcdkhapeejjaaGreatDoorK12
import Derived.Test.YtjpcdkhapeejjaaGreatDoorK13
import Derived.Test.YtjpcdkhapeejjaaGreatDoorK14
import Derived.Test.YtjpcdkhapeejjaaGreatDoorK15
import Derived.Test.YtjpcdkhapeejjaaGreatDoorK16
import Derived.Test.YtjpcdkhapeejjaaGreatDoorK17
import Derived.Test.YtjpcdkhapeejjaaGreatDoorK18
import Derived.Test.YtjpcdkhapeejjaaGreatDoorK19
import Derived.Test.YtjpcdkhapeejjaaGreatDoorK20
import Derived.Test.YtjpcdkhapeejjaaGreatDoorK21
set_option linter.unusedVariables false
set_option linter.unusedSimpArgs false
open Go.RowKit Go.Proofs.YtjpcdkhapeejjaaGreatDoorW.PrintWords Go.Proofs.YtjpcdkhapeejjaaGreatDoorW.PrintLast Go.Proofs.YtjpcdkhapeejjaaGreatDoorW.PrintMore
namespace Go.Proofs.YtjpcdkhapeejjaaGreatDoor.A
open Cal
instance (s : Int) : Decidable (InR s) := inferInstanceAs (Decidable (_ ∧ _))
def nxF (p s : Int) : Option Int :=
  if ¬ InR s then none
  else if p = 0 then some (s + 1)
  else if p = 1 then (if InR (s + 60) then some ((s / 60 + 1) * 60) else none)
  else if p = 2 then (if InR (s + 3600) then some ((s / 3600 + 1) * 3600) else none)
  else if p = 3 ∨ p = 5 then (if InR (s + 86400) then some ((s / 86400 + 1) * 86400) else none)
  else if p = 4 then (if InR (monStart s) ∧ (monS s = 12 → yearS s ≤ 2108) then some (monNext s) else none)
  else none
def nxR (p s : Int) : Option Int :=
  if ¬ InR s then none
  else if p = 0 then some (s - 1)
  else if p = 1 then (if InR (s - 60) then some (s / 60 * 60 - 1) else none)
  else if p = 2 then (if InR (s - 3600) then some (s / 3600 * 3600 - 1) else none)
  else if p = 3 ∨ p = 5 then (if InR (s - 86400) then some (s / 86400 * 86400 - 1) else none)
  else if p = 4 then (if InR (monStart s) then some (monStart s - 1) else none)
  else none
theorem bump_any (p s s' : Int) (w : World) (h : nxF p s = some s') :
    Calls Tryz.prog 99 #[.agg #[.int .u64 0, .int .i64 s, .pointer none], .int .i64 p] w fun e w' => e = .returned (.agg #[.int .u64 0, .int .i64 s', .pointer none]) ∧ Below w.heap.size w w' := by
  unfold nxF at h
  split at h
  · cases h
  rename_i hI
  have hI := Decidable.not_not.mp hI
  split at h
  · rename_i e; subst e; cases h; exact bump_0 s w hI
  split at h
  · rename_i e; subst e; split at h
    · rename_i h2; cases h; exact bump_1 s w hI h2
    · cases h
  split at h
  · rename_i e; subst e; split at h
    · rename_i h2; cases h; exact bump_2 s w hI h2
    · cases h
  split at h
  · rename_i e; split at h
    · rename_i h2; cases h
      rcases e with rfl | rfl
      · exact bump_3 s w hI h2
      · exact bump_5 s w hI h2
    · cases h
  split at h
  · rename_i e; subst e; split at h
    · rename_i h2; cases h
      by_cases hm : monS s = 12
      · exact bump_4b s w hI h2.1 hm (h2.2 hm)
      · exact bump_4a s w hI h2.1 hm
    · cases h
  cases h
theorem bumpR_any (p s s' : Int) (w : World) (h : nxR p s = some s') :
    Calls Tryz.prog 98 #[.agg #[.int .u64 0, .int .i64 s, .pointer none], .int .i64 p] w fun e w' => e = .returned (.agg #[.int .u64 0, .int .i64 s', .pointer none]) ∧ Below w.heap.size w w' := by
  unfold nxR at h
  split at h
  · cases h
  rename_i hI
  have hI := Decidable.not_not.mp hI
  split at h
  · rename_i e; subst e; cases h; exact bumpR_0 s w hI
  split at h
  · rename_i e; subst e; split at h
    · rename_i h2; cases h; exact bumpR_1 s w hI h2
    · cases h
  split at h
  · rename_i e; subst e; split at h
    · rename_i h2; cases h; exact bumpR_2 s w hI h2
    · cases h
  split at h
  · rename_i e; split at h
    · rename_i h2; cases h
      rcases e with rfl | rfl
      · exact bumpR_3 s w hI h2
      · exact bumpR_5 s w hI h2
    · cases h
  split at h
  · rename_i e; subst e; split at h
    · rename_i h2; cases h; exact bumpR_4 s w hI h2
    · cases h
  cases h
/-- Is a field due at a moment? Where the moment lies in the years that the walks cover. -/
def dueA (k : Nat) (seg : ByteArray) (p s : Int) : Option Bool := if InR s ∧ 0 ≤ p ∧ p ≤ 6 then chk k seg (posV s p) p else none
def bud (due : Int → Option Bool) (nx : Int → Option Int) : Nat → Int → Bool → Option (Int × Bool)
  | 0, _, _ => none
  | n + 1, s, m => (due s).bind fun d => if d = true then some (s, m) else (nx s).bind fun s' => bud due nx n s' true
/-- The search along a field: where it ends, and whether it moved. -/
def bumpU (k : Nat) (rev : Bool) (seg : ByteArray) (p s : Int) : Option (Int × Bool) :=
  (gronx_limit.f p).bind fun n => if 0 ≤ n ∧ n ≤ 1000 then bud (dueA k seg p) (if rev = true then nxR p else nxF p) n.toNat s false else none
end Go.Proofs.YtjpcdkhapeejjaaGreatDoor.A
namespace Go.Proofs.YtjpcdkhapeejjaaGreatDoor.Cal
/-- What fits: a day, an hour, a minute, a second. -/
structure Fit where
  d : Int → Prop
  h : Int → Prop
  m : Int → Prop
  s : Int → Prop
def Fit.at (F : Fit) (x : Int) : Prop := F.d (x / 86400) ∧ F.h (x % 86400 / 3600) ∧ F.m (x % 3600 / 60) ∧ F.s (x % 60)
structure Fit.full (F : Fit) : Prop where
  h : ∃ n, 0 ≤ n ∧ n ≤ 23 ∧ F.h n
  m : ∃ n, 0 ≤ n ∧ n ≤ 59 ∧ F.m n
  s : ∃ n, 0 ≤ n ∧ n ≤ 59 ∧ F.s n
/-- A round: what it does at a moment at or ahead of one that fits. -/
structure Round (F : Fit) (lo hi : Int) (R : Int → Option (Int × Bool)) : Prop where
  d : ∀ x t, lo ≤ x → x ≤ t → t ≤ hi → F.at t → ¬ F.d (x / 86400) → ∃ y, R x = some (y, true) ∧ y % 86400 = 0 ∧ x < y ∧ ∀ k, x / 86400 ≤ k → k < y / 86400 → ¬ F.d k
  h : ∀ x t, lo ≤ x → x ≤ t → t ≤ hi → F.at t → F.d (x / 86400) → ¬ F.h (x % 86400 / 3600) → ∃ y, R x = some (y, true) ∧ y % 3600 = 0 ∧ x < y ∧ F.h (y % 86400 / 3600) ∧ ∀ k, x ≤ k → k < y → ¬ F.h (k % 86400 / 3600)
  m : ∀ x t, lo ≤ x → x ≤ t → t ≤ hi → F.at t → F.d (x / 86400) → F.h (x % 86400 / 3600) → ¬ F.m (x % 3600 / 60) → ∃ y, R x = some (y, true) ∧ y % 60 = 0 ∧ x < y ∧ F.m (y % 3600 / 60) ∧ ∀ k, x ≤ k → k < y → ¬ F.m (k % 3600 / 60)
  s : ∀ x t, lo ≤ x → x ≤ t → t ≤ hi → F.at t → F.d (x / 86400) → F.h (x % 86400 / 3600) → F.m (x % 3600 / 60) → ¬ F.s (x % 60) → ∃ y, R x = some (y, true) ∧ x < y ∧ F.s (y % 60) ∧ ∀ k, x ≤ k → k < y → ¬ F.s (k % 60)
def Least (F : Fit) (x t : Int) : Prop := x ≤ t ∧ F.at t ∧ ∀ k, x ≤ k → k < t → ¬ F.at k
def Steps {α : Type} (it : Nat → Int → Option α) (c : Nat) (x y : Int) : Prop := ∀ n, it (n + c) x = it n y
theorem Least.from {F : Fit} {x y t : Int} (h : Least F x t) (h1 : x ≤ y) (h2 : y ≤ t) : Least F y t := ⟨h2, h.2.1, fun k a b => h.2.2 k (by omega) b⟩
theorem Least.le {F : Fit} {x k t : Int} (h : Least F x t) (h1 : x ≤ k) (h2 : F.at k) : t ≤ k := by
  by_cases e : k < t
  · exact absurd h2 (h.2.2 k h1 e)
  · omega
section
variable {F : Fit} {lo hi : Int} {R : Int → Option (Int × Bool)} {α : Type} {it : Nat → Int → Option α}
theorem st_refl (x : Int) : Steps it 0 x x := fun n => rfl
theorem st_one (hit : ∀ n x y, R x = some (y, true) → it (n + 1) x = it n y) {x y z : Int} {c : Nat} (h : R x = some (y, true)) (h2 : Steps it c y z) : Steps it (c + 1) x z := fun n => by
  rw [show n + (c + 1) = (n + c) + 1 from rfl, hit _ _ _ h, h2 n]
theorem t_min {x t : Int} (hf : F.full) (hl : Least F x t) (h60 : x % 60 = 0) (hd : F.d (x / 86400)) (hh : F.h (x % 86400 / 3600)) (hm : F.m (x % 3600 / 60)) : t < x + 60 := by
  obtain ⟨n, n0, n1, hn⟩ := hf.s
  have := hl.le (k := x + n) (by omega) ⟨by rw [show (x + n) / 86400 = x / 86400 by omega]; exact hd, by rw [show (x + n) % 86400 / 3600 = x % 86400 / 3600 by omega]; exact hh, by rw [show (x + n) % 3600 / 60 = x % 3600 / 60 by omega]; exact hm, by rw [show (x + n) % 60 = n by omega]; exact hn⟩
  omega
theorem t_hour {x t : Int} (hf : F.full) (hl : Least F x t) (h60 : x % 3600 = 0) (hd : F.d (x / 86400)) (hh : F.h (x % 86400 / 3600)) : t < x + 3600 := by
  obtain ⟨n, n0, n1, hn⟩ := hf.s
  obtain ⟨m, m0, m1, hm⟩ := hf.m
  have := hl.le (k := x + m * 60 + n) (by omega) ⟨by rw [show (x + m * 60 + n) / 86400 = x / 86400 by omega]; exact hd, by rw [show (x + m * 60 + n) % 86400 / 3600 = x % 86400 / 3600 by omega]; exact hh, by rw [show (x + m * 60 + n) % 3600 / 60 = m by omega]; exact hm, by rw [show (x + m * 60 + n) % 60 = n by omega]; exact hn⟩
  omega
theorem t_day {x t : Int} (hf : F.full) (hl : Least F x t) (h60 : x % 86400 = 0) (hd : F.d (x / 86400)) : t < x + 86400 := by
  obtain ⟨n, n0, n1, hn⟩ := hf.s
  obtain ⟨m, m0, m1, hm⟩ := hf.m
  obtain ⟨h, h0, h1, hh⟩ := hf.h
  have := hl.le (k := x + h * 3600 + m * 60 + n) (by omega) ⟨by rw [show (x + h * 3600 + m * 60 + n) / 86400 = x / 86400 by omega]; exact hd, by rw [show (x + h * 3600 + m * 60 + n) % 86400 / 3600 = h by omega]; exact hh, by rw [show (x + h * 3600 + m * 60 + n) % 3600 / 60 = m by omega]; exact hm, by rw [show (x + h * 3600 + m * 60 + n) % 60 = n by omega]; exact hn⟩
  omega
/-- From the begin of a minute that fits, in an hour and a day that fit. -/
theorem l_min (hR : Round F lo hi R) (hit : ∀ n x y, R x = some (y, true) → it (n + 1) x = it n y) {x t : Int} (hf : F.full) (hl : Least F x t) (h0 : lo ≤ x) (h1 : t ≤ hi) (h60 : x % 60 = 0) (hd : F.d (x / 86400)) (hh : F.h (x % 86400 / 3600)) (hm : F.m (x % 3600 / 60)) : ∃ c, c ≤ 1 ∧ Steps it c x t := by
  have ht := t_min hf hl h60 hd hh hm
  have hx := hl.1
  by_cases hs : F.s (x % 60)
  · have : t ≤ x := hl.le (by omega) ⟨hd, hh, hm, hs⟩
    have e : t = x := by omega
    subst e
    exact ⟨0, by omega, st_refl _⟩
  · obtain ⟨y, hy, hxy, hys, hno⟩ := hR.s x t h0 hl.1 h1 hl.2.1 hd hh hm hs
    have hyt : y ≤ t := by
      by_cases e : t < y
      · exact absurd hl.2.1.2.2.2 (hno t hl.1 e)
      · omega
    have : t ≤ y := hl.le (by omega) ⟨by rw [show y / 86400 = x / 86400 by omega]; exact hd, by rw [show y % 86400 / 3600 = x % 86400 / 3600 by omega]; exact hh, by rw [show y % 3600 / 60 = x % 3600 / 60 by omega]; exact hm, hys⟩
    have e : t = y := by omega
    subst e
    exact ⟨1, by omega, st_one hit hy (st_refl _)⟩
theorem l_hour (hR : Round F lo hi R) (hit : ∀ n x y, R x = some (y, true) → it (n + 1) x = it n y) {x t : Int} (hf : F.full) (hl : Least F x t) (h0 : lo ≤ x) (h1 : t ≤ hi) (h60 : x % 3600 = 0) (hd : F.d (x / 86400)) (hh : F.h (x % 86400 / 3600)) : ∃ c, c ≤ 2 ∧ Steps it c x t := by
  have ht := t_hour hf hl h60 hd hh
  have hx := hl.1
  by_cases hm : F.m (x % 3600 / 60)
  · obtain ⟨c, hc, hs⟩ := l_min hR hit hf hl h0 h1 (by omega) hd hh hm
    exact ⟨c, by omega, hs⟩
  · obtain ⟨y, hy, h6, hxy, hys, hno⟩ := hR.m x t h0 hl.1 h1 hl.2.1 hd hh hm
    have hyt : y ≤ t := by
      by_cases e : t < y
      · exact absurd hl.2.1.2.2.1 (hno t hl.1 e)
      · omega
    obtain ⟨c, hc, hs⟩ := l_min hR hit hf (hl.from (by omega) hyt) (by omega) h1 h6 (by rw [show y / 86400 = x / 86400 by omega]; exact hd) (by rw [show y % 86400 / 3600 = x % 86400 / 3600 by omega]; exact hh) hys
    exact ⟨c + 1, by omega, st_one hit hy hs⟩
theorem l_day (hR : Round F lo hi R) (hit : ∀ n x y, R x = some (y, true) → it (n + 1) x = it n y) {x t : Int} (hf : F.full) (hl : Least F x t) (h0 : lo ≤ x) (h1 : t ≤ hi) (h60 : x % 86400 = 0) (hd : F.d (x / 86400)) : ∃ c, c ≤ 3 ∧ Steps it c x t := by
  have ht := t_day hf hl h60 hd
  have hx := hl.1
  by_cases hm : F.h (x % 86400 / 3600)
  · obtain ⟨c, hc, hs⟩ := l_hour hR hit hf hl h0 h1 (by omega) hd hm
    exact ⟨c, by omega, hs⟩
  · obtain ⟨y, hy, h6, hxy, hys, hno⟩ := hR.h x t h0 hl.1 h1 hl.2.1 hd hm
    have hyt : y ≤ t := by
      by_cases e : t < y
      · exact absurd hl.2.1.2.1 (hno t hl.1 e)
      · omega
    obtain ⟨c, hc, hs⟩ := l_hour hR hit hf (hl.from (by omega) hyt) (by omega) h1 h6 (by rw [show y / 86400 = x / 86400 by omega]; exact hd) hys
    exact ⟨c + 1, by omega, st_one hit hy hs⟩
theorem l_mid (hR : Round F lo hi R) (hit : ∀ n x y, R x = some (y, true) → it (n + 1) x = it n y) (hf : F.full) {t : Int} (h1 : t ≤ hi) : ∀ (D : Nat) (x : Int), Least F x t → lo ≤ x → x % 86400 = 0 → t / 86400 - x / 86400 ≤ (D : Int) → ∃ c, c ≤ D + 3 ∧ Steps it c x t
  | 0, x, hl, h0, h6, hD => by
    have hx := hl.1
    have e : x / 86400 = t / 86400 := by omega
    obtain ⟨c, hc, hs⟩ := l_day hR hit hf hl h0 h1 h6 (by rw [e]; exact hl.2.1.1)
    exact ⟨c, by omega, hs⟩
  | D + 1, x, hl, h0, h6, hD => by
    have hx := hl.1
    by_cases hd : F.d (x / 86400)
    · obtain ⟨c, hc, hs⟩ := l_day hR hit hf hl h0 h1 h6 hd
      exact ⟨c, by omega, hs⟩
    · obtain ⟨y, hy, hy6, hxy, hno⟩ := hR.d x t h0 hl.1 h1 hl.2.1 hd
      have hyt : y ≤ t := by
        by_cases e : t / 86400 < y / 86400
        · exact absurd hl.2.1.1 (hno _ (by omega) e)
        · omega
      obtain ⟨c, hc, hs⟩ := l_mid hR hit hf h1 D y (hl.from (by omega) hyt) (by omega) hy6 (by omega)
      exact ⟨c + 1, by omega, st_one hit hy hs⟩
theorem l_dno (hR : Round F lo hi R) (hit : ∀ n x y, R x = some (y, true) → it (n + 1) x = it n y) (hf : F.full) {t : Int} (h1 : t ≤ hi) (D : Nat) (x : Int) (hl : Least F x t) (h0 : lo ≤ x) (hD : t / 86400 - x / 86400 ≤ (D : Int)) (hd : ¬ F.d (x / 86400)) : ∃ c, c ≤ D + 4 ∧ Steps it c x t := by
  obtain ⟨y, hy, hy6, hxy, hno⟩ := hR.d x t h0 hl.1 h1 hl.2.1 hd
  have hyt : y ≤ t := by
    have hx := hl.1
    by_cases e : t / 86400 < y / 86400
    · exact absurd hl.2.1.1 (hno _ (by omega) e)
    · omega
  obtain ⟨c, hc, hs⟩ := l_mid hR hit hf h1 D y (hl.from (by omega) hyt) (by omega) hy6 (by omega)
  exact ⟨c + 1, by omega, st_one hit hy hs⟩
theorem l_hno (hR : Round F lo hi R) (hit : ∀ n x y, R x = some (y, true) → it (n + 1) x = it n y) (hf : F.full) {t : Int} (h1 : t ≤ hi) (D : Nat) (x : Int) (hl : Least F x t) (h0 : lo ≤ x) (hD : t / 86400 - x / 86400 ≤ (D : Int)) (hd : F.d (x / 86400)) (hh : ¬ F.h (x % 86400 / 3600)) : ∃ c, c ≤ D + 5 ∧ Steps it c x t := by
  obtain ⟨y, hy, h6, hxy, hys, hno⟩ := hR.h x t h0 hl.1 h1 hl.2.1 hd hh
  have hyt : y ≤ t := by
    by_cases e : t < y
    · exact absurd hl.2.1.2.1 (hno t hl.1 e)
    · omega
  have hl2 := hl.from (by omega) hyt
  by_cases hd2 : F.d (y / 86400)
  · obtain ⟨c, hc, hs⟩ := l_hour hR hit hf hl2 (by omega) h1 h6 hd2 hys
    exact ⟨c + 1, by omega, st_one hit hy hs⟩
  · obtain ⟨c, hc, hs⟩ := l_dno hR hit hf h1 D y hl2 (by omega) (by omega) hd2
    exact ⟨c + 1, by omega, st_one hit hy hs⟩
theorem l_mno (hR : Round F lo hi R) (hit : ∀ n x y, R x = some (y, true) → it (n + 1) x = it n y) (hf : F.full) {t : Int} (h1 : t ≤ hi) (D : Nat) (x : Int) (hl : Least F x t) (h0 : lo ≤ x) (hD : t / 86400 - x / 86400 ≤ (D : Int)) (hd : F.d (x / 86400)) (hh : F.h (x % 86400 / 3600)) (hm : ¬ F.m (x % 3600 / 60)) : ∃ c, c ≤ D + 6 ∧ Steps it c x t := by
  obtain ⟨y, hy, h6, hxy, hys, hno⟩ := hR.m x t h0 hl.1 h1 hl.2.1 hd hh hm
  have hyt : y ≤ t := by
    by_cases e : t < y
    · exact absurd hl.2.1.2.2.1 (hno t hl.1 e)
    · omega
  have hl2 := hl.from (by omega) hyt
  by_cases hd2 : F.d (y / 86400)
  · by_cases hh2 : F.h (y % 86400 / 3600)
    · obtain ⟨c, hc, hs⟩ := l_min hR hit hf hl2 (by omega) h1 h6 hd2 hh2 hys
      exact ⟨c + 1, by omega, st_one hit hy hs⟩
    · obtain ⟨c, hc, hs⟩ := l_hno hR hit hf h1 D y hl2 (by omega) (by omega) hd2 hh2
      exact ⟨c + 1, by omega, st_one hit hy hs⟩
  · obtain ⟨c, hc, hs⟩ := l_dno hR hit hf h1 D y hl2 (by omega) (by omega) hd2
    exact ⟨c + 1, by omega, st_one hit hy hs⟩
/-- From any moment. -/
theorem l_any (hR : Round F lo hi R) (hit : ∀ n x y, R x = some (y, true) → it (n + 1) x = it n y) (hf : F.full) {t : Int} (h1 : t ≤ hi) (D : Nat) (x : Int) (hl : Least F x t) (h0 : lo ≤ x) (hD : t / 86400 - x / 86400 ≤ (D : Int)) : ∃ c, c ≤ D + 7 ∧ Steps it c x t := by
  by_cases hd : F.d (x / 86400)
  case neg =>
    obtain ⟨c, hc, hs⟩ := l_dno hR hit hf h1 D x hl h0 hD hd
    exact ⟨c, by omega, hs⟩
  by_cases hh : F.h (x % 86400 / 3600)
  case neg =>
    obtain ⟨c, hc, hs⟩ := l_hno hR hit hf h1 D x hl h0 hD hd hh
    exact ⟨c, by omega, hs⟩
  by_cases hm : F.m (x % 3600 / 60)
  case neg =>
    obtain ⟨c, hc, hs⟩ := l_mno hR hit hf h1 D x hl h0 hD hd hh hm
    exact ⟨c, by omega, hs⟩
  by_cases hs : F.s (x % 60)
  · have hx := hl.1
    have : t ≤ x := hl.le (by omega) ⟨hd, hh, hm, hs⟩
    have e : t = x := by omega
    subst e
    exact ⟨0, by omega, st_refl _⟩
  obtain ⟨y, hy, hxy, hys, hno⟩ := hR.s x t h0 hl.1 h1 hl.2.1 hd hh hm hs
  have hyt : y ≤ t := by
    by_cases e : t < y
    · exact absurd hl.2.1.2.2.2 (hno t hl.1 e)
    · omega
  have hl2 := hl.from (by omega) hyt
  by_cases hd2 : F.d (y / 86400)
  case neg =>
    obtain ⟨c, hc, hs⟩ := l_dno hR hit hf h1 D y hl2 (by omega) (by omega) hd2
    exact ⟨c + 1, by omega, st_one hit hy hs⟩
  by_cases hh2 : F.h (y % 86400 / 3600)
  case neg =>
    obtain ⟨c, hc, hs⟩ := l_hno hR hit hf h1 D y hl2 (by omega) (by omega) hd2 hh2
    exact ⟨c + 1, by omega, st_one hit hy hs⟩
  by_cases hm2 : F.m (y % 3600 / 60)
  case neg =>
    obtain ⟨c, hc, hs⟩ := l_mno hR hit hf h1 D y hl2 (by omega) (by omega) hd2 hh2 hm2
    exact ⟨c + 1, by omega, st_one hit hy hs⟩
  have : t ≤ y := hl2.le (by omega) ⟨hd2, hh2, hm2, hys⟩
  have e : t = y := by omega
  subst e
  exact ⟨1, by omega, st_one hit hy (st_refl _)⟩
end
theorem dim_cases (y m : Int) (h0 : 1 ≤ m) (h1 : m ≤ 12) : (m = 2 ∧ leapY y = true ∧ dim y m = 29) ∨ (m = 2 ∧ leapY y = false ∧ dim y m = 28) ∨ ((m = 4 ∨ m = 6 ∨ m = 9 ∨ m = 11) ∧ dim y m = 30) ∨ ((m = 1 ∨ m = 3 ∨ m = 5 ∨ m = 7 ∨ m = 8 ∨ m = 10 ∨ m = 12) ∧ dim y m = 31) := by
  rcases mcases h0 h1 with rfl | rfl | rfl | rfl | rfl | rfl | rfl | rfl | rfl | rfl | rfl | rfl
  · exact .inr (.inr (.inr ⟨by omega, rfl⟩))
  · cases hl : leapY y with
    | true => exact .inl ⟨rfl, rfl, by unfold dim; rw [if_pos rfl, if_pos hl]⟩
    | false => exact .inr (.inl ⟨rfl, rfl, by unfold dim; rw [if_pos rfl, if_neg (by rw [hl]; decide)]⟩)
  · exact .inr (.inr (.inr ⟨by omega, rfl⟩))
  · exact .inr (.inr (.inl ⟨by omega, rfl⟩))
  · exact .inr (.inr (.inr ⟨by omega, rfl⟩))
  · exact .inr (.inr (.inl ⟨by omega, rfl⟩))
  · exact .inr (.inr (.inr ⟨by omega, rfl⟩))
  · exact .inr (.inr (.inr ⟨by omega, rfl⟩))
  · exact .inr (.inr (.inl ⟨by omega, rfl⟩))
  · exact .inr (.inr (.inr ⟨by omega, rfl⟩))
  · exact .inr (.inr (.inl ⟨by omega, rfl⟩))
  · exact .inr (.inr (.inr ⟨by omega, rfl⟩))
theorem feb (y : Int) : ordE y (2 + 1) 1 = ordE y 2 1 + (if y % 100 = 0 then 29 - (if y / 100 % 4 = 0 then 0 else 1) else 28 + (if y % 100 % 4 = 0 then 1 else 0)) := by
  unfold ordE
  rw [if_neg (by omega), if_pos (by omega)]
  by_cases c : y % 100 = 0
  · rw [if_pos c, show (y - 1) / 100 = y / 100 - 1 by omega, show (y - 1) % 100 = 99 by omega, c]
    obtain ⟨q, hq⟩ : ∃ q, y / 100 = q := ⟨_, rfl⟩
    rw [hq]
    obtain ⟨f, r, rfl, r0, r1⟩ : ∃ f r : Int, q = 4 * f + r ∧ 0 ≤ r ∧ r ≤ 3 := ⟨q / 4, q % 4, by omega, by omega, by omega⟩
    rcases (show r = 0 ∨ r = 1 ∨ r = 2 ∨ r = 3 by omega) with rfl | rfl | rfl | rfl
    · rw [if_pos (by omega)]; omega
    · rw [if_neg (by omega)]; omega
    · rw [if_neg (by omega)]; omega
    · rw [if_neg (by omega)]; omega
  · rw [if_neg c, show (y - 1) / 100 = y / 100 by omega, show (y - 1) % 100 = y % 100 - 1 by omega]
    obtain ⟨q, hq⟩ : ∃ q, y % 100 = q := ⟨_, rfl⟩
    rw [hq]
    obtain ⟨f, r, rfl, r0, r1⟩ : ∃ f r : Int, q = 4 * f + r ∧ 0 ≤ r ∧ r ≤ 3 := ⟨q / 4, q % 4, by omega, by omega, by omega⟩
    rcases (show r = 0 ∨ r = 1 ∨ r = 2 ∨ r = 3 by omega) with rfl | rfl | rfl | rfl
    · rw [if_pos (by omega)]; omega
    · rw [if_neg (by omega)]; omega
    · rw [if_neg (by omega)]; omega
    · rw [if_neg (by omega)]; omega
theorem ord_mon (y m : Int) (h0 : 1 ≤ m) (h1 : m ≤ 11) : ordE y (m + 1) 1 = ordE y m 1 + dim y m := by
  rcases mcases h0 (show m ≤ 12 by omega) with rfl | rfl | rfl | rfl | rfl | rfl | rfl | rfl | rfl | rfl | rfl | rfl
  case inr.inl =>
    rcases dim_cases y 2 (by omega) (by omega) with ⟨_, hl, e⟩ | ⟨_, hl, e⟩ | ⟨hm, _⟩ | ⟨hm, _⟩
    · rw [e]; rw [leapY_iff] at hl
      rw [feb y]
      by_cases c : y % 100 = 0
      · rw [if_pos c]; omega
      · rw [if_neg c]; omega
    · rw [e]
      have hl : ¬ (y % 4 = 0 ∧ (y % 100 ≠ 0 ∨ y % 400 = 0)) := by rw [← leapY_iff, hl]; decide
      rw [feb y]
      by_cases c : y % 100 = 0
      · rw [if_pos c]; omega
      · rw [if_neg c]; omega
    · omega
    · omega
  all_goals first
    | omega
    | (rcases dim_cases y _ h0 (by omega) with ⟨hm, hl, e⟩ | ⟨hm, hl, e⟩ | ⟨hm, e⟩ | ⟨hm, e⟩ <;> first | omega | (rw [e]; unfold ordE; first | (rw [if_neg (by omega), if_neg (by omega)]; omega) | (rw [if_pos (by omega), if_pos (by omega)]; omega)))
theorem ord_yr (y : Int) : ordE (y + 1) 1 1 = ordE y 12 1 + 31 := by
  unfold ordE
  rw [if_pos (by omega), if_neg (by omega)]
  rw [show y + 1 - 1 = y by omega]
  omega
theorem ord_day1 (y m d : Int) : ordE y m d = ordE y m 1 + (d - 1) := by rw [← ord_day, show 1 + (d - 1) = d by omega]
theorem ord_bd (y m d : Int) (y0 : 0 ≤ y) (m0 : 1 ≤ m) (m1 : m ≤ 12) (d0 : 1 ≤ d) (d1 : d ≤ 31) : 365 * y - 400 ≤ ordE y m d ∧ ordE y m d ≤ 366 * y + 400 := by
  unfold ordE
  split <;> omega
theorem year_in (E : Int) (h0 : 700000 ≤ E) (h1 : E ≤ 800000) : 1900 ≤ yearE E ∧ yearE E ≤ 2200 := by
  have hm := monE_bd E
  have hd : 1 ≤ dayE E ∧ dayE E ≤ 31 := amd_bd _ (ayd_bd E).1 (ayd_bd E).2
  have := ord_bd (yearE E) (monE E) (dayE E) (yearE_bd E (by omega) (by omega)).1 hm.1 hm.2 hd.1 hd.2
  rw [ord_rt] at this
  omega
theorem valid_date (E : Int) (h0 : 700000 ≤ E) (h1 : E ≤ 800000) : Valid (yearE E) (monE E) (dayE E) := by
  have hy := yearE_bd E (by omega) (by omega)
  have hm := monE_bd E
  have hd0 := amd_bd _ (ayd_bd E).1 (ayd_bd E).2
  have hd : 1 ≤ dayE E ∧ dayE E ≤ 31 := hd0
  have hr := ord_rt E
  refine ⟨hm.1, hm.2, hd.1, ?_⟩
  by_cases e : dayE E ≤ dim (yearE E) (monE E)
  · exact e
  exfalso
  have hb := dim_bd (yearE E) (monE E) hm.1 hm.2
  by_cases h12 : monE E = 12
  · rcases dim_cases (yearE E) (monE E) hm.1 hm.2 with ⟨a, _⟩ | ⟨a, _⟩ | ⟨a, _⟩ | ⟨a, b⟩
    · omega
    · omega
    · omega
    · omega
  · have hv : Valid (yearE E) (monE E + 1) (dayE E - dim (yearE E) (monE E)) := ⟨by omega, by omega, by omega, by have := dim_bd (yearE E) (monE E + 1) (by omega) (by omega); omega⟩
    have ho : ordE (yearE E) (monE E + 1) (dayE E - dim (yearE E) (monE E)) = E := by
      rw [ord_day1, ord_mon _ _ hm.1 (by omega)]
      rw [ord_day1] at hr
      omega
    have hy1 : 1 ≤ yearE E := by have := year_in E h0 h1; omega
    have hrt := date_rt _ _ _ hy1 (by omega) hv
    rw [ho] at hrt
    omega
/-- The day behind a day. -/
theorem next_day (E : Int) (h0 : 700000 ≤ E) (h1 : E ≤ 800000) :
    (dayE E < dim (yearE E) (monE E) ∧ yearE (E + 1) = yearE E ∧ monE (E + 1) = monE E ∧ dayE (E + 1) = dayE E + 1) ∨
    (dayE E = dim (yearE E) (monE E) ∧ monE E < 12 ∧ yearE (E + 1) = yearE E ∧ monE (E + 1) = monE E + 1 ∧ dayE (E + 1) = 1) ∨
    (dayE E = dim (yearE E) (monE E) ∧ monE E = 12 ∧ yearE (E + 1) = yearE E + 1 ∧ monE (E + 1) = 1 ∧ dayE (E + 1) = 1) := by
  have hy := yearE_bd E (by omega) (by omega)
  have hyi := year_in E h0 (by omega)
  have hy1 : 1 ≤ yearE E := by omega
  have hv := valid_date E h0 (by omega)
  have hr := ord_rt E
  have hdb := hv.2.2.2
  by_cases e : dayE E < dim (yearE E) (monE E)
  · have hrt := date_rt (yearE E) (monE E) (dayE E + 1) hy1 (by omega) ⟨hv.1, hv.2.1, by have := hv.2.2.1; omega, by omega⟩
    rw [ord_day, hr] at hrt
    exact .inl ⟨e, hrt⟩
  · have e2 : dayE E = dim (yearE E) (monE E) := by omega
    by_cases h12 : monE E = 12
    · have hrt := date_rt (yearE E + 1) 1 1 (by omega) (by omega) (valid_first _ _ (by omega) (by omega))
      rw [ord_day1, e2] at hr
      have h31 : dim (yearE E) (monE E) = 31 := by rw [h12]; rfl
      rw [ord_yr, show ordE (yearE E) 12 1 + 31 = E + 1 by rw [h31] at hr; rw [h12] at hr; omega] at hrt
      exact .inr (.inr ⟨e2, h12, hrt⟩)
    · have hrt := date_rt (yearE E) (monE E + 1) 1 hy1 (by omega) (valid_first _ _ (by have := hv.1; omega) (by have := hv.2.1; omega))
      rw [ord_day1, e2] at hr
      rw [ord_mon _ _ hv.1 (by have := hv.2.1; omega), show ordE (yearE E) (monE E) 1 + dim (yearE E) (monE E) = E + 1 by omega] at hrt
      exact .inr (.inl ⟨e2, by have := hv.2.1; omega, hrt⟩)
/-- A date's day. -/
theorem at_date (y m d : Int) (y0 : 1 ≤ y) (y1 : y ≤ 2900) (hv : Valid y m d) : dayE (ordE y m d) = d ∧ monE (ordE y m d) = m ∧ yearE (ordE y m d) = y := by
  have := date_rt y m d y0 y1 hv
  exact ⟨this.2.2, this.2.1, this.1⟩
/-- A day of the month is met within sixty days on. -/
theorem day_up (E n : Int) (h0 : 700000 ≤ E) (h1 : E ≤ 800000) (n0 : 1 ≤ n) (n1 : n ≤ 31) : ∃ k, 0 ≤ k ∧ k ≤ 60 ∧ dayE (E + k) = n := by
  have hyi := year_in E h0 (by omega)
  have hy1 : 1 ≤ yearE E := by omega
  have hv := valid_date E h0 (by omega)
  have hr := ord_rt E
  have hyb := yearE_bd E (by omega) (by omega)
  obtain ⟨m0, m1, d0, d1⟩ := hv
  have hdb := dim_bd (yearE E) (monE E) m0 m1
  -- the begin of this month, of the next one and of the one behind it
  have step : ∀ y m, 1 ≤ m → m ≤ 12 → ∃ y' m', 1 ≤ m' ∧ m' ≤ 12 ∧ (y' = y ∨ y' = y + 1) ∧ ordE y' m' 1 = ordE y m 1 + dim y m ∧ (dim y m ≠ 31 → dim y' m' = 31) := by
    intro y m a b
    by_cases e : m = 12
    · refine ⟨y + 1, 1, by omega, by omega, .inr rfl, ?_, fun h => rfl⟩
      subst e; rw [ord_yr]; rfl
    · refine ⟨y, m + 1, by omega, by omega, .inl rfl, ord_mon y m a (by omega), fun h => ?_⟩
      rcases dim_cases y m a b with ⟨c, _, f⟩ | ⟨c, _, f⟩ | ⟨c, f⟩ | ⟨c, f⟩ <;> rcases dim_cases y (m + 1) (by omega) (by omega) with ⟨c2, _, f2⟩ | ⟨c2, _, f2⟩ | ⟨c2, f2⟩ | ⟨c2, f2⟩ <;> omega
  rw [ord_day1] at hr
  by_cases c : dayE E ≤ n ∧ n ≤ dim (yearE E) (monE E)
  · refine ⟨n - dayE E, by omega, by omega, ?_⟩
    have := (at_date (yearE E) (monE E) n hy1 (by omega) ⟨m0, m1, n0, c.2⟩).1
    rw [ord_day1, show ordE (yearE E) (monE E) 1 + (n - 1) = E + (n - dayE E) by omega] at this
    exact this
  · obtain ⟨y', m', a0, a1, ay, ao, ad⟩ := step (yearE E) (monE E) m0 m1
    have hb2 := dim_bd y' m' a0 a1
    by_cases c2 : n ≤ dim y' m'
    · have := (at_date y' m' n (by omega) (by omega) ⟨a0, a1, n0, c2⟩).1
      rw [ord_day1] at this
      refine ⟨ordE y' m' 1 + (n - 1) - E, ?_, ?_, ?_⟩
      · omega
      · by_cases c31 : dim (yearE E) (monE E) = 31
        · omega
        · omega
      · rw [show E + (ordE y' m' 1 + (n - 1) - E) = ordE y' m' 1 + (n - 1) by omega]; exact this
    · obtain ⟨y2, m2, b0, b1, b_y, bo, bd⟩ := step y' m' a0 a1
      have e31 := bd (by omega)
      have := (at_date y2 m2 n (by omega) (by omega) ⟨b0, b1, n0, by omega⟩).1
      rw [ord_day1] at this
      have c31 : dim (yearE E) (monE E) = 31 := by
        by_cases c31 : dim (yearE E) (monE E) = 31
        · exact c31
        · have := ad c31; omega
      refine ⟨ordE y2 m2 1 + (n - 1) - E, ?_, ?_, ?_⟩
      · omega
      · omega
      · rw [show E + (ordE y2 m2 1 + (n - 1) - E) = ordE y2 m2 1 + (n - 1) by omega]; exact this
/-- And within sixty days ahead. -/
theorem day_down (E n : Int) (h0 : 700000 ≤ E) (h1 : E ≤ 800000) (n0 : 1 ≤ n) (n1 : n ≤ 31) : ∃ k, 0 ≤ k ∧ k ≤ 60 ∧ dayE (E - k) = n := by
  have hyi := year_in E (by omega) (by omega)
  have hy1 : 1 ≤ yearE E := by omega
  have hv := valid_date E (by omega) (by omega)
  have hr := ord_rt E
  have hyb := yearE_bd E (by omega) (by omega)
  obtain ⟨m0, m1, d0, d1⟩ := hv
  have hdb := dim_bd (yearE E) (monE E) m0 m1
  have step : ∀ y m, 1 ≤ m → m ≤ 12 → ∃ y' m', 1 ≤ m' ∧ m' ≤ 12 ∧ (y' = y ∨ y' = y - 1) ∧ ordE y' m' 1 = ordE y m 1 - dim y' m' ∧ (dim y m ≠ 31 → dim y' m' = 31) := by
    intro y m a b
    by_cases e : m = 1
    · refine ⟨y - 1, 12, by omega, by omega, .inr rfl, ?_, fun h => rfl⟩
      subst e
      have := ord_yr (y - 1)
      rw [show y - 1 + 1 = y by omega] at this
      rw [this, show dim (y - 1) 12 = 31 from rfl]; omega
    · have := ord_mon y (m - 1) (by omega) (by omega)
      rw [show m - 1 + 1 = m by omega] at this
      refine ⟨y, m - 1, by omega, by omega, .inl rfl, by omega, fun h => ?_⟩
      rcases dim_cases y m a b with ⟨c, _, f⟩ | ⟨c, _, f⟩ | ⟨c, f⟩ | ⟨c, f⟩ <;> rcases dim_cases y (m - 1) (by omega) (by omega) with ⟨c2, _, f2⟩ | ⟨c2, _, f2⟩ | ⟨c2, f2⟩ | ⟨c2, f2⟩ <;> omega
  rw [ord_day1] at hr
  by_cases c : n ≤ dayE E
  · refine ⟨dayE E - n, by omega, by omega, ?_⟩
    have := (at_date (yearE E) (monE E) n hy1 (by omega) ⟨m0, m1, n0, by omega⟩).1
    rw [ord_day1, show ordE (yearE E) (monE E) 1 + (n - 1) = E - (dayE E - n) by omega] at this
    exact this
  · obtain ⟨y', m', a0, a1, ay, ao, ad⟩ := step (yearE E) (monE E) m0 m1
    have hb2 := dim_bd y' m' a0 a1
    by_cases c2 : n ≤ dim y' m'
    · have := (at_date y' m' n (by omega) (by omega) ⟨a0, a1, n0, c2⟩).1
      rw [ord_day1] at this
      refine ⟨E - (ordE y' m' 1 + (n - 1)), ?_, ?_, ?_⟩
      · omega
      · omega
      · rw [show E - (E - (ordE y' m' 1 + (n - 1))) = ordE y' m' 1 + (n - 1) by omega]; exact this
    · obtain ⟨y2, m2, b0, b1, b_y, bo, bd⟩ := step y' m' a0 a1
      have e31 := bd (by omega)
      have := (at_date y2 m2 n (by omega) (by omega) ⟨b0, b1, n0, by omega⟩).1
      rw [ord_day1] at this
      refine ⟨E - (ordE y2 m2 1 + (n - 1)), ?_, ?_, ?_⟩
      · omega
      · omega
      · rw [show E - (E - (ordE y2 m2 1 + (n - 1))) = ordE y2 m2 1 + (n - 1) by omega]; exact this
end Go.Proofs.YtjpcdkhapeejjaaGreatDoor.Cal
namespace Go.Proofs.YtjpcdkhapeejjaaGreatDoor.A
open Cal
/-- Units, up to a moment: the next one's begin, and what is true of it. -/
structure Units (blk : Int → Int) (al : Int → Prop) (nx : Int → Option Int) (lo t : Int) : Prop where
  mono : ∀ x, lo ≤ x → x ≤ t → blk x ≤ blk t
  next : ∀ x, lo ≤ x → x ≤ t → blk x < blk t → ∃ y, nx x = some y ∧ x < y ∧ y ≤ t ∧ blk y = blk x + 1 ∧ al y ∧ ∀ z, x ≤ z → z < y → blk z = blk x
theorem bud_up {blk : Int → Int} {al : Int → Prop} {nx : Int → Option Int} {lo t : Int} {due : Int → Option Bool} {G : Int → Bool} (U : Units blk al nx lo t)
    (hD : ∀ x, lo ≤ x → x ≤ t → due x = some (G (blk x))) (hT : G (blk t) = true) : ∀ (n : Nat) (s : Int) (m : Bool) (k : Nat), k < n → G (blk s + k) = true → lo ≤ s → s ≤ t →
    (G (blk s) = true → bud due nx n s m = some (s, m)) ∧
    (G (blk s) = false → ∃ y, bud due nx n s m = some (y, true) ∧ al y ∧ s < y ∧ y ≤ t ∧ G (blk y) = true ∧ ∀ z, s ≤ z → z < y → G (blk z) = false)
  | 0, s, m, k, hk, _, _, _ => by omega
  | n + 1, s, m, k, hk, hG, h0, h1 => by
    refine ⟨fun h => ?_, fun h => ?_⟩
    · unfold bud; rw [hD s h0 h1, h]; rfl
    · have hm := U.mono s h0 h1
      have hne : blk s ≠ blk t := fun e => by rw [e, hT] at h; cases h
      obtain ⟨y, hy, hsy, hyt, hb, ha, hz⟩ := U.next s h0 h1 (by omega)
      have hk0 : k ≠ 0 := fun e => by subst e; rw [show blk s + ((0 : Nat) : Int) = blk s by omega, h] at hG; cases hG
      obtain ⟨k', rfl⟩ : ∃ k', k = k' + 1 := ⟨k - 1, by omega⟩
      have hu : bud due nx (n + 1) s m = bud due nx n y true := by
        rw [show bud due nx (n + 1) s m = (due s).bind fun d => if d = true then some (s, m) else (nx s).bind fun s' => bud due nx n s' true from rfl, hD s h0 h1, h, Option.bind_some, if_neg (by decide), hy]; rfl
      have ih := bud_up U hD hT n y true k' (by omega) (by rw [hb, show blk s + 1 + (k' : Int) = blk s + ((k' + 1 : Nat) : Int) by omega]; exact hG) (by omega) hyt
      rw [hu]
      cases hg : G (blk y) with
      | true => exact ⟨y, ih.1 hg, ha, hsy, hyt, hg, fun z a b => by rw [hz z a b]; exact h⟩
      | false =>
        obtain ⟨y2, e, ha2, hyy, hyt2, hg2, hz2⟩ := ih.2 hg
        refine ⟨y2, e, ha2, by omega, hyt2, hg2, fun z a b => ?_⟩
        by_cases c : z < y
        · rw [hz z a c]; exact h
        · exact hz2 z (by omega) b
/-- A mirror: moments are told from the end. -/
def mir (r : Option (Int × Bool)) : Option (Int × Bool) := r.map fun q => (-1 - q.1, q.2)
def mirN (nx : Int → Option Int) (x : Int) : Option Int := (nx (-1 - x)).map fun y => -1 - y
theorem bud_mir (due : Int → Option Bool) (nx : Int → Option Int) : ∀ (n : Nat) (s : Int) (m : Bool), mir (bud due nx n (-1 - s) m) = bud (fun x => due (-1 - x)) (mirN nx) n s m
  | 0, _, _ => rfl
  | n + 1, s, m => by
    unfold bud
    cases hd : due (-1 - s) with
    | none => rfl
    | some d =>
      rw [Option.bind_some, Option.bind_some]
      cases d with
      | true =>
        rw [if_pos rfl, if_pos rfl]
        unfold mir
        simp only [Option.map_some, Option.some.injEq, Prod.mk.injEq, and_true]
        omega
      | false =>
        rw [if_neg (by decide), if_neg (by decide)]
        unfold mirN
        cases hn : nx (-1 - s) with
        | none => rfl
        | some y =>
          rw [Option.bind_some, Option.map_some, Option.bind_some]
          have := bud_mir due nx n (-1 - y) true
          rw [show -1 - (-1 - y) = y by omega] at this
          exact this
/-- The bounds between which the plain law's moments lie: 1988-06 and 2109-01. -/
def lo0 : Int := 62715000000
def hi0 : Int := 66500000000
theorem inr_of {s : Int} (a : lo0 - 8000000 ≤ s) (b : s ≤ hi0 + 8000000) : InR s := by unfold lo0 at a; unfold hi0 at b; unfold InR; omega
theorem units_0 (t : Int) (ht : t ≤ hi0) : Units (fun x => x) (fun _ => True) (nxF 0) lo0 t := by
  refine ⟨fun x _ h => h, fun x h0 h1 h2 => ⟨x + 1, ?_, by omega, h2, rfl, trivial, fun z a b => ?_⟩⟩
  · unfold nxF; rw [if_neg (not_not_intro (inr_of (by omega) (by omega))), if_pos rfl]
  · show z = x; omega
theorem units_1 (t : Int) (ht : t ≤ hi0) : Units (fun x => x / 60) (fun y => y % 60 = 0) (nxF 1) lo0 t := by
  refine ⟨fun x _ h => by show x / 60 ≤ t / 60; omega, fun x h0 h1 h2 => ⟨(x / 60 + 1) * 60, ?_, by omega, by have h2' : x / 60 < t / 60 := h2; omega, by show (x / 60 + 1) * 60 / 60 = x / 60 + 1; omega, by show (x / 60 + 1) * 60 % 60 = 0; omega, fun z a b => by show z / 60 = x / 60; omega⟩⟩
  unfold nxF; rw [if_neg (not_not_intro (inr_of (by omega) (by omega))), if_neg (by decide), if_pos rfl, if_pos (inr_of (by omega) (by omega))]
theorem units_2 (t : Int) (ht : t ≤ hi0) : Units (fun x => x / 3600) (fun y => y % 3600 = 0) (nxF 2) lo0 t := by
  refine ⟨fun x _ h => by show x / 3600 ≤ t / 3600; omega, fun x h0 h1 h2 => ⟨(x / 3600 + 1) * 3600, ?_, by omega, by have h2' : x / 3600 < t / 3600 := h2; omega, by show (x / 3600 + 1) * 3600 / 3600 = x / 3600 + 1; omega, by show (x / 3600 + 1) * 3600 % 3600 = 0; omega, fun z a b => by show z / 3600 = x / 3600; omega⟩⟩
  unfold nxF; rw [if_neg (not_not_intro (inr_of (by omega) (by omega))), if_neg (by decide), if_neg (by decide), if_pos rfl, if_pos (inr_of (by omega) (by omega))]
theorem units_3 (p t : Int) (hp : p = 3 ∨ p = 5) (ht : t ≤ hi0) : Units (fun x => x / 86400) (fun y => y % 86400 = 0) (nxF p) lo0 t := by
  refine ⟨fun x _ h => by show x / 86400 ≤ t / 86400; omega, fun x h0 h1 h2 => ⟨(x / 86400 + 1) * 86400, ?_, by omega, by have h2' : x / 86400 < t / 86400 := h2; omega, by show (x / 86400 + 1) * 86400 / 86400 = x / 86400 + 1; omega, by show (x / 86400 + 1) * 86400 % 86400 = 0; omega, fun z a b => by show z / 86400 = x / 86400; omega⟩⟩
  unfold nxF; rw [if_neg (not_not_intro (inr_of (by omega) (by omega))), if_neg (by omega), if_neg (by omega), if_neg (by omega), if_pos hp, if_pos (inr_of (by omega) (by omega))]
/-- Months, told from year 0 on. -/
def mox (x : Int) : Int := 12 * yearS x + (monS x - 1)
theorem eS_bd2 {x : Int} (a : lo0 - 8000000 ≤ x) (b : x ≤ hi0 + 8000000) : 700000 ≤ eS x ∧ eS x ≤ 800000 := by unfold lo0 at a; unfold hi0 at b; unfold eS; omega
/-- The first day of a month, by its number from year 0 on. -/
def mbeg (j : Int) : Int := ordE (j / 12) (j % 12 + 1) 1
theorem mbeg_next (j : Int) (h0 : 12 ≤ j) : mbeg (j + 1) = mbeg j + dim (j / 12) (j % 12 + 1) := by
  unfold mbeg
  by_cases e : j % 12 = 11
  · rw [show (j + 1) / 12 = j / 12 + 1 by omega, show (j + 1) % 12 + 1 = 1 by omega, ord_yr, e]; rfl
  · rw [show (j + 1) / 12 = j / 12 by omega, show (j + 1) % 12 + 1 = j % 12 + 1 + 1 by omega, ord_mon _ _ (by omega) (by omega)]
theorem mbeg_at (j E : Int) (h0 : 12 ≤ j) (h1 : j ≤ 34000) (a : mbeg j ≤ E) (b : E < mbeg (j + 1)) : 12 * yearE E + (monE E - 1) = j := by
  rw [mbeg_next j h0] at b
  have := at_date (j / 12) (j % 12 + 1) (E - mbeg j + 1) (by omega) (by omega) ⟨by omega, by omega, by omega, by omega⟩
  rw [ord_day1, show ordE (j / 12) (j % 12 + 1) 1 + (E - mbeg j + 1 - 1) = E by unfold mbeg; omega] at this
  rw [this.2.1, this.2.2]; omega
theorem mbeg_in (E : Int) (h0 : 700000 ≤ E) (h1 : E ≤ 800000) : mbeg (12 * yearE E + (monE E - 1)) ≤ E ∧ E < mbeg (12 * yearE E + (monE E - 1) + 1) ∧ 12 ≤ 12 * yearE E + (monE E - 1) ∧ 12 * yearE E + (monE E - 1) ≤ 34000 := by
  have hv := valid_date E (by omega) (by omega)
  have hy := year_in E h0 h1
  have hr := ord_rt E
  obtain ⟨m0, m1, d0, d1⟩ := hv
  have hb : 12 ≤ 12 * yearE E + (monE E - 1) := by omega
  rw [mbeg_next _ hb]
  unfold mbeg
  rw [show (12 * yearE E + (monE E - 1)) / 12 = yearE E by omega, show (12 * yearE E + (monE E - 1)) % 12 + 1 = monE E by omega]
  rw [ord_day1] at hr
  omega
theorem mbeg_mono (j : Int) (h0 : 12 ≤ j) : ∀ n : Nat, mbeg j ≤ mbeg (j + n)
  | 0 => by rw [show j + ((0 : Nat) : Int) = j by omega]; exact Int.le_refl _
  | n + 1 => by
    have := mbeg_mono j h0 n
    rw [show j + ((n + 1 : Nat) : Int) = j + n + 1 by omega, mbeg_next _ (by omega)]
    have := dim_bd ((j + n) / 12) ((j + n) % 12 + 1) (by omega) (by omega)
    omega
theorem mon_mono (E E' : Int) (h0 : 700000 ≤ E) (h : E ≤ E') (h1 : E' ≤ 800000) : 12 * yearE E + (monE E - 1) ≤ 12 * yearE E' + (monE E' - 1) := by
  have a := mbeg_in E h0 (by omega)
  have b := mbeg_in E' (by omega) h1
  by_cases e : 12 * yearE E' + (monE E' - 1) < 12 * yearE E + (monE E - 1)
  · have := mbeg_mono (12 * yearE E' + (monE E' - 1) + 1) (by omega) (12 * yearE E + (monE E - 1) - (12 * yearE E' + (monE E' - 1) + 1)).toNat
    rw [show 12 * yearE E' + (monE E' - 1) + 1 + ((12 * yearE E + (monE E - 1) - (12 * yearE E' + (monE E' - 1) + 1)).toNat : Int) = 12 * yearE E + (monE E - 1) by omega] at this
    omega
  · omega
theorem monNext_eq (x : Int) (hm : 1 ≤ monS x ∧ monS x ≤ 12) : monNext x = (mbeg (mox x + 1) - 306) * 86400 := by
  unfold monNext mox mbeg mkS
  by_cases e : monS x = 12
  · rw [if_pos e, show (12 * yearS x + (monS x - 1) + 1) / 12 = yearS x + 1 by omega, show (12 * yearS x + (monS x - 1) + 1) % 12 + 1 = 1 by omega]; omega
  · rw [if_neg e, show (12 * yearS x + (monS x - 1) + 1) / 12 = yearS x by omega, show (12 * yearS x + (monS x - 1) + 1) % 12 + 1 = monS x + 1 by omega]; omega
theorem monStart_eq (x : Int) (hm : 1 ≤ monS x ∧ monS x ≤ 12) : monStart x = (mbeg (mox x) - 306) * 86400 := by
  unfold monStart mox mbeg mkS
  rw [show (12 * yearS x + (monS x - 1)) / 12 = yearS x by omega, show (12 * yearS x + (monS x - 1)) % 12 + 1 = monS x by omega]; omega
theorem mox_bd {x : Int} (a : lo0 - 8000000 ≤ x) (b : x ≤ hi0 + 8000000) : (mbeg (mox x) - 306) * 86400 ≤ x ∧ x < (mbeg (mox x + 1) - 306) * 86400 ∧ 12 ≤ mox x ∧ mox x ≤ 34000 := by
  have h := eS_bd2 a b
  have := mbeg_in (eS x) h.1 h.2
  unfold mox
  unfold yearS monS
  have e : eS x = x / 86400 + 306 := rfl
  omega
theorem mox_of {x j : Int} (h0 : 12 ≤ j) (h1 : j ≤ 34000) (a : (mbeg j - 306) * 86400 ≤ x) (b : x < (mbeg (j + 1) - 306) * 86400) : mox x = j := by
  have e : eS x = x / 86400 + 306 := rfl
  exact mbeg_at j (eS x) h0 h1 (by omega) (by omega)
theorem mox_mono {x y : Int} (a : lo0 - 8000000 ≤ x) (h : x ≤ y) (b : y ≤ hi0 + 8000000) : mox x ≤ mox y := by
  have h1 := eS_bd2 a (by omega)
  have h2 := eS_bd2 (show lo0 - 8000000 ≤ y by omega) b
  exact mon_mono (eS x) (eS y) h1.1 (by unfold eS; omega) h2.2
theorem units_4 (t : Int) (ht : t ≤ hi0) : Units mox (fun y => y % 86400 = 0) (nxF 4) lo0 t := by
  refine ⟨fun x h0 h => mox_mono (by omega) h (by omega), fun x h0 h1 h2 => ?_⟩
  have hm := mon_bd x
  have bx := mox_bd (x := x) (by omega) (by omega)
  have bt := mox_bd (x := t) (by omega) (by omega)
  have e := monNext_eq x hm
  have hle := mbeg_mono (mox x + 1) (by omega) (mox t - (mox x + 1)).toNat
  rw [show mox x + 1 + ((mox t - (mox x + 1)).toNat : Int) = mox t by omega] at hle
  have hlt : mbeg (mox x + 1) < mbeg (mox x + 1 + 1) := by
    rw [mbeg_next (mox x + 1) (by omega)]
    have := dim_bd ((mox x + 1) / 12) ((mox x + 1) % 12 + 1) (by omega) (by omega)
    omega
  refine ⟨monNext x, ?_, by omega, by omega, ?_, by show monNext x % 86400 = 0; omega, fun z a b => ?_⟩
  · have hI := inr_of (s := x) (by omega) (by omega)
    have hms := ms_le x
    have hy := year_bd x hI
    have hyt : mox x < mox t := h2
    have hmt := mon_bd t
    have hyt2 := year_bd t (inr_of (by omega) (by omega))
    have hc : monS x = 12 → yearS x ≤ 2108 := fun h12 => by
      have u1 : mox x = 12 * yearS x + (monS x - 1) := rfl
      have u2 : mox t = 12 * yearS t + (monS t - 1) := rfl
      omega
    unfold nxF; rw [if_neg (not_not_intro hI), if_neg (by decide), if_neg (by decide), if_neg (by decide), if_neg (by decide), if_pos rfl, if_pos ⟨inr_of (by omega) (by omega), hc⟩]
  · exact mox_of (by omega) (by omega) (by omega) (by omega)
  · exact mox_of (by omega) (by omega) (by omega) (by omega)
theorem unitsR_0 (t : Int) (ht : t ≤ -1 - lo0) : Units (fun x => x) (fun _ => True) (mirN (nxR 0)) (-1 - hi0) t := by
  refine ⟨fun x _ h => h, fun x h0 h1 h2 => ⟨x + 1, ?_, by omega, h2, rfl, trivial, fun z a b => by show z = x; omega⟩⟩
  unfold mirN nxR; rw [if_neg (not_not_intro (inr_of (by omega) (by omega))), if_pos rfl, Option.map_some]
  rw [show -1 - (-1 - x - 1) = x + 1 by omega]
theorem unitsR_1 (t : Int) (ht : t ≤ -1 - lo0) : Units (fun x => x / 60) (fun y => y % 60 = 0) (mirN (nxR 1)) (-1 - hi0) t := by
  refine ⟨fun x _ h => by show x / 60 ≤ t / 60; omega, fun x h0 h1 h2 => ⟨(x / 60 + 1) * 60, ?_, by omega, by have h2' : x / 60 < t / 60 := h2; omega, by show (x / 60 + 1) * 60 / 60 = x / 60 + 1; omega, by show (x / 60 + 1) * 60 % 60 = 0; omega, fun z a b => by show z / 60 = x / 60; omega⟩⟩
  unfold mirN nxR; rw [if_neg (not_not_intro (inr_of (by omega) (by omega))), if_neg (by decide), if_pos rfl, if_pos (inr_of (by omega) (by omega)), Option.map_some]
  rw [show -1 - ((-1 - x) / 60 * 60 - 1) = (x / 60 + 1) * 60 by omega]
theorem unitsR_2 (t : Int) (ht : t ≤ -1 - lo0) : Units (fun x => x / 3600) (fun y => y % 3600 = 0) (mirN (nxR 2)) (-1 - hi0) t := by
  refine ⟨fun x _ h => by show x / 3600 ≤ t / 3600; omega, fun x h0 h1 h2 => ⟨(x / 3600 + 1) * 3600, ?_, by omega, by have h2' : x / 3600 < t / 3600 := h2; omega, by show (x / 3600 + 1) * 3600 / 3600 = x / 3600 + 1; omega, by show (x / 3600 + 1) * 3600 % 3600 = 0; omega, fun z a b => by show z / 3600 = x / 3600; omega⟩⟩
  unfold mirN nxR; rw [if_neg (not_not_intro (inr_of (by omega) (by omega))), if_neg (by decide), if_neg (by decide), if_pos rfl, if_pos (inr_of (by omega) (by omega)), Option.map_some]
  rw [show -1 - ((-1 - x) / 3600 * 3600 - 1) = (x / 3600 + 1) * 3600 by omega]
theorem unitsR_3 (p t : Int) (hp : p = 3 ∨ p = 5) (ht : t ≤ -1 - lo0) : Units (fun x => x / 86400) (fun y => y % 86400 = 0) (mirN (nxR p)) (-1 - hi0) t := by
  refine ⟨fun x _ h => by show x / 86400 ≤ t / 86400; omega, fun x h0 h1 h2 => ⟨(x / 86400 + 1) * 86400, ?_, by omega, by have h2' : x / 86400 < t / 86400 := h2; omega, by show (x / 86400 + 1) * 86400 / 86400 = x / 86400 + 1; omega, by show (x / 86400 + 1) * 86400 % 86400 = 0; omega, fun z a b => by show z / 86400 = x / 86400; omega⟩⟩
  unfold mirN nxR; rw [if_neg (not_not_intro (inr_of (by omega) (by omega))), if_neg (by omega), if_neg (by omega), if_neg (by omega), if_pos hp, if_pos (inr_of (by omega) (by omega)), Option.map_some]
  rw [show -1 - ((-1 - x) / 86400 * 86400 - 1) = (x / 86400 + 1) * 86400 by omega]
def moxR (x : Int) : Int := -1 - mox (-1 - x)
theorem unitsR_4 (t : Int) (ht : t ≤ -1 - lo0) : Units moxR (fun y => y % 86400 = 0) (mirN (nxR 4)) (-1 - hi0) t := by
  refine ⟨fun x h0 h => ?_, fun x h0 h1 h2 => ?_⟩
  · have := mox_mono (x := -1 - t) (y := -1 - x) (by omega) (by omega) (by omega)
    unfold moxR; omega
  have h2' : mox (-1 - t) < mox (-1 - x) := by unfold moxR at h2; omega
  have hm := mon_bd (-1 - x)
  have bx := mox_bd (x := -1 - x) (by omega) (by omega)
  have bt := mox_bd (x := -1 - t) (by omega) (by omega)
  have e := monStart_eq (-1 - x) hm
  have hle := mbeg_mono (mox (-1 - t) + 1) (by omega) (mox (-1 - x) - (mox (-1 - t) + 1)).toNat
  rw [show mox (-1 - t) + 1 + ((mox (-1 - x) - (mox (-1 - t) + 1)).toNat : Int) = mox (-1 - x) by omega] at hle
  have hlt : mbeg (mox (-1 - x) - 1) < mbeg (mox (-1 - x)) := by
    have := mbeg_next (mox (-1 - x) - 1) (by omega)
    rw [show mox (-1 - x) - 1 + 1 = mox (-1 - x) by omega] at this
    have := dim_bd ((mox (-1 - x) - 1) / 12) ((mox (-1 - x) - 1) % 12 + 1) (by omega) (by omega)
    omega
  have hI := inr_of (s := -1 - x) (by omega) (by omega)
  have hms := ms_le (-1 - x)
  refine ⟨-monStart (-1 - x), ?_, by omega, by omega, ?_, by show (-monStart (-1 - x)) % 86400 = 0; omega, fun z a b => ?_⟩
  · unfold mirN nxR; rw [if_neg (not_not_intro hI), if_neg (by decide), if_neg (by decide), if_neg (by decide), if_neg (by decide), if_pos rfl, if_pos (inr_of (by omega) (by omega)), Option.map_some]
    rw [show -1 - (monStart (-1 - x) - 1) = -monStart (-1 - x) by omega]
  · unfold moxR
    rw [mox_of (x := -1 - -monStart (-1 - x)) (j := mox (-1 - x) - 1) (by omega) (by omega) (by omega) (by rw [show mox (-1 - x) - 1 + 1 = mox (-1 - x) by omega]; omega)]
    omega
  · unfold moxR
    rw [mox_of (x := -1 - z) (j := mox (-1 - x)) (by omega) (by omega) (by omega) (by omega)]
end Go.Proofs.YtjpcdkhapeejjaaGreatDoor.A
