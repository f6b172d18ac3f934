/- Steps of the proof of the law: contracts of functions of the given program, and plain lemmas about what they compute.
Conditions: none beyond those that each theorem names. -/
set_option linter.unusedVariables false
set_option linter.unusedSimpArgs false
namespace Go.Proofs.YtjpcdkhapeejjaaGreatDoor.Cal
def cen (E : Int) : Int := (4 * E + 3) / 146097
def cdd (E : Int) : Int := (4 * E + 3) % 146097 / 4 * 4 + 3
def cyr (E : Int) : Int := cdd E / 1461
def ayd (E : Int) : Int := cdd E % 1461 / 4
def jf (y : Int) : Int := if 306 ≤ y then 1 else 0
def amo (y : Int) : Int := (2141 * y + 197913) / 65536
def amd (y : Int) : Int := 1 + (2141 * y + 197913) % 65536 / 2141
def yearE (E : Int) : Int := cen E * 100 + cyr E + jf (ayd E)
def monE (E : Int) : Int := amo (ayd E) - 12 * jf (ayd E)
def dayE (E : Int) : Int := amd (ayd E)
/-- The day of a date. -/
def ordE (y m d : Int) : Int :=
  if m < 3 then 146097 * ((y - 1) / 100) / 4 + 1461 * ((y - 1) % 100) / 4 + (979 * (m + 12) - 2919) / 32 + d - 1
  else 146097 * (y / 100) / 4 + 1461 * (y % 100) / 4 + (979 * m - 2919) / 32 + d - 1
theorem cdd_bd (E : Int) : 3 ≤ cdd E ∧ cdd E ≤ 146099 := by unfold cdd; omega
theorem ayd_bd (E : Int) : 0 ≤ ayd E ∧ ayd E ≤ 365 := by unfold ayd; omega
theorem cyr_bd (E : Int) : 0 ≤ cyr E ∧ cyr E ≤ 99 := by have := cdd_bd E; unfold cyr; omega
theorem cen_bd (E : Int) (h0 : 0 ≤ E) (h1 : E ≤ 1000000) : 0 ≤ cen E ∧ cen E ≤ 28 := by unfold cen; omega
theorem amo_bd (y : Int) (h0 : 0 ≤ y) (h1 : y ≤ 365) : 3 ≤ amo y ∧ amo y ≤ 14 := by unfold amo; omega
theorem amd_bd (y : Int) (h0 : 0 ≤ y) (h1 : y ≤ 365) : 1 ≤ amd y ∧ amd y ≤ 31 := by unfold amd; omega
theorem jf_bd (y : Int) : 0 ≤ jf y ∧ jf y ≤ 1 := by unfold jf; split <;> omega
theorem monE_bd (E : Int) : 1 ≤ monE E ∧ monE E ≤ 12 := by
  have h := ayd_bd E
  unfold monE amo jf
  split <;> omega
theorem yearE_bd (E : Int) (h0 : 0 ≤ E) (h1 : E ≤ 1000000) : 0 ≤ yearE E ∧ yearE E ≤ 2900 := by
  have h := cen_bd E h0 h1
  have h2 := cyr_bd E
  have h3 := jf_bd (ayd E)
  unfold yearE
  omega
/-- Moments. -/
def eS (s : Int) : Int := s / 86400 + 306
def yearS (s : Int) : Int := yearE (eS s)
def monS (s : Int) : Int := monE (eS s)
def dayS (s : Int) : Int := dayE (eS s)
def hourS (s : Int) : Int := s % 86400 / 3600
def minS (s : Int) : Int := s % 3600 / 60
def secS (s : Int) : Int := s % 60
def wdE (E : Int) : Int := (E + 3) % 7
def wdS (s : Int) : Int := wdE (eS s)
def mkS (y m d h mi se : Int) : Int := (ordE y m d - 306) * 86400 + h * 3600 + mi * 60 + se
/-- The moments that the proof speaks of: the years 1988 to 2109. -/
def InR (s : Int) : Prop := 62703590400 ≤ s ∧ s ≤ 66553574399
end Go.Proofs.YtjpcdkhapeejjaaGreatDoor.Cal
