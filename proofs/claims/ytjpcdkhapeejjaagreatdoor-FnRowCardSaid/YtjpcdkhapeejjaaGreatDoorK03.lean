/- Steps of the proof of the law: contracts of functions of the given program, and plain lemmas about what they compute.
Conditions: none beyond those that each theorem names. -/
import Derived.Laws.BitsAllLaws
import Derived.Laws.Bits64
import Derived.Outline
import Derived.Test.YtjpcdkhapeejjaaGreatDoorK00
import Derived.Test.YtjpcdkhapeejjaaGreatDoorK02
set_option linter.unusedVariables false
set_option linter.unusedSimpArgs false
open Go.RowKit Go.Proofs.YtjpcdkhapeejjaaGreatDoorW.PrintWords Go.Proofs.YtjpcdkhapeejjaaGreatDoorW.PrintLast Go.Proofs.YtjpcdkhapeejjaaGreatDoorW.PrintMore
namespace Go.Proofs.YtjpcdkhapeejjaaGreatDoor.A
def gotime_absDays_split.f (a0 : Int) : Option (Int × Int × Int) := (bits_Mul32.f 2939745 (Go.bits .or .u32 ((Int.tmod (IntKind.u64.wrap ((IntKind.u64.wrap (4 * a0)) + 3)) 146097) % 4294967296) 3)).bind fun bt677 => (some (IntKind.u64.wrap (Int.tdiv (IntKind.u64.wrap ((IntKind.u64.wrap (4 * a0)) + 3)) 146097), wrap64 (bt677.1), ((Int.tdiv bt677.2 2939745) % 4294967296) / 4))
set_option maxHeartbeats 8000000 in
set_option maxRecDepth 100000 in
theorem gotime_absDays_split.calls (a0 : Int) (r1 : Int) (r2 : Int) (r3 : Int) (w : World) (h : gotime_absDays_split.f a0 = some (r1, r2, r3)) :
    Calls Tryz.prog 92 #[.int .u64 a0] w fun e w' => e = .returned (.tuple #[.int .u64 r1, .int .i64 r2, .int .i64 r3]) ∧ Drawn0 w w' := by
 have H : ((bits_Mul32.f 2939745 (Go.bits .or .u32 ((Int.tmod (IntKind.u64.wrap ((IntKind.u64.wrap (4 * a0)) + 3)) 146097) % 4294967296) 3)).bind fun bt677 => (some (IntKind.u64.wrap (Int.tdiv (IntKind.u64.wrap ((IntKind.u64.wrap (4 * a0)) + 3)) 146097), wrap64 (bt677.1), ((Int.tdiv bt677.2 2939745) % 4294967296) / 4))) = some (r1, r2, r3) := h
 clear h
 replace H := Option.bind_eq_some_iff.mp H
 obtain ⟨⟨t677, t678⟩, A20, H⟩ := H
 try dsimp only at H
 have A2 := Aside0.mk A20
 clear A20
 simp only [Option.some.injEq, Prod.mk.injEq] at H
 obtain ⟨rfl, rfl, rfl⟩ := H
 go_enter Tryz.func92, Tryz.ntmps92
 go_wp2_with (first | ((with_reducible refine gate_callee (f := 114) rfl ?_); refine goesL_ (some 20) rfl rfl Tryz.func114 (by kernel_rfl) rfl #[.int .u32 2939745, .int .u32 (Go.bits .or .u32 ((Int.tmod (IntKind.u64.wrap ((IntKind.u64.wrap (4 * a0)) + 3)) 146097) % 4294967296) 3)] rfl (by (try simp only [List.map_toArray, List.map_cons, List.map_nil]); first | done | rfl | (simp only [List.length_drop, List.length_take]; rfl)) ?_; (with_reducible refine (bits_Mul32.calls 2939745 (Go.bits .or .u32 ((Int.tmod (IntKind.u64.wrap ((IntKind.u64.wrap (4 * a0)) + 3)) 146097) % 4294967296) 3) t677 t678 _ A2.out).mono ?_); rintro e w' ⟨rfl, ⟨nd, rfl⟩⟩; refine ⟨_, rfl, ?_⟩))
 go_ret3
 exact ⟨by first | rfl | (simp; done) | (simp [*]; done), by repeat (first | exact Drawn0.refl _ | apply Drawn0.step)⟩
def gotime_absYday_janFeb.f (a0 : Int) : Option (Int) := if a0 ≥ 306 then (some 1) else (some 0)
set_option maxHeartbeats 8000000 in
set_option maxRecDepth 100000 in
theorem gotime_absYday_janFeb.calls (a0 : Int) (r : Int) (w : World) (h : gotime_absYday_janFeb.f a0 = some r) :
    Calls Tryz.prog 93 #[.int .i64 a0] w fun e w' => e = .returned (.int .i64 r) ∧ Drawn0 w w' := by
 have H : (if a0 ≥ 306 then (some 1) else (some 0)) = some r := h
 clear h
 refine (Classical.em (a0 ≥ 306)).elim (fun c2 => ?a1_) (fun c2 => ?b1_)
 case' a1_ =>
  rw [if_pos c2] at H
  have c2b0 : decide (306 ≤ a0) = true := decide_eq_true c2
  clear c2
  obtain rfl := Option.some.inj H
 case' b1_ =>
  rw [if_neg c2] at H
  have c2b0 : decide (306 ≤ a0) = false := decide_eq_false c2
  clear c2
  obtain rfl := Option.some.inj H
 case a1_ | b1_ =>
  go_enter Tryz.func93, Tryz.ntmps93
  go_wp2
  go_ret
  exact ⟨by first | rfl | (simp; done) | (simp [*]; done), by repeat (first | exact Drawn0.refl _ | apply Drawn0.step)⟩
def gotime_absCentury_year.f (a0 : Int) (a1 : Int) (a2 : Int) : Option (Int) := some (wrap64 ((wrap64 ((wrap64 (IntKind.u64.wrap ((IntKind.u64.wrap (a0 * 100)) - 292277022400))) + a1)) + a2))
set_option maxHeartbeats 8000000 in
set_option maxRecDepth 100000 in
theorem gotime_absCentury_year.calls (a0 : Int) (a1 : Int) (a2 : Int) (r : Int) (w : World) (h : gotime_absCentury_year.f a0 a1 a2 = some r) :
    Calls Tryz.prog 94 #[.int .u64 a0, .int .i64 a1, .int .i64 a2] w fun e w' => e = .returned (.int .i64 r) ∧ Drawn0 w w' := by
 have H : (some (wrap64 ((wrap64 ((wrap64 (IntKind.u64.wrap ((IntKind.u64.wrap (a0 * 100)) - 292277022400))) + a1)) + a2))) = some r := h
 clear h
 obtain rfl := Option.some.inj H
 go_enter Tryz.func94, Tryz.ntmps94
 go_wp2
 go_ret
 exact ⟨by first | rfl | (simp; done) | (simp [*]; done), by repeat (first | exact Drawn0.refl _ | apply Drawn0.step)⟩
def gotime_absYday_split.f (a0 : Int) : Option (Int × Int) := some (((((2141 * ((a0) % 4294967296)) % 4294967296) + 197913) % 4294967296) / 65536, 1 + ((Int.tdiv (Go.bits .and .u32 ((((2141 * ((a0) % 4294967296)) % 4294967296) + 197913) % 4294967296) 65535) 2141) % 4294967296))
set_option maxHeartbeats 8000000 in
set_option maxRecDepth 100000 in
theorem gotime_absYday_split.calls (a0 : Int) (r1 : Int) (r2 : Int) (w : World) (h : gotime_absYday_split.f a0 = some (r1, r2)) :
    Calls Tryz.prog 104 #[.int .i64 a0] w fun e w' => e = .returned (.tuple #[.int .i64 r1, .int .i64 r2]) ∧ Drawn0 w w' := by
 have H : (some (((((2141 * ((a0) % 4294967296)) % 4294967296) + 197913) % 4294967296) / 65536, 1 + ((Int.tdiv (Go.bits .and .u32 ((((2141 * ((a0) % 4294967296)) % 4294967296) + 197913) % 4294967296) 65535) 2141) % 4294967296))) = some (r1, r2) := h
 clear h
 simp only [Option.some.injEq, Prod.mk.injEq] at H
 obtain ⟨rfl, rfl⟩ := H
 go_enter Tryz.func104, Tryz.ntmps104
 go_wp2
 go_ret2
 exact ⟨by first | rfl | (simp; done) | (simp [*]; done), by repeat (first | exact Drawn0.refl _ | apply Drawn0.step)⟩
def gotime_absMonth_month.f (a0 : Int) (a1 : Int) : Option (Int) := some (wrap64 (a0 - (wrap64 (a1 * 12))))
set_option maxHeartbeats 8000000 in
set_option maxRecDepth 100000 in
theorem gotime_absMonth_month.calls (a0 : Int) (a1 : Int) (r : Int) (w : World) (h : gotime_absMonth_month.f a0 a1 = some r) :
    Calls Tryz.prog 105 #[.int .i64 a0, .int .i64 a1] w fun e w' => e = .returned (.int .i64 r) ∧ Drawn0 w w' := by
 have H : (some (wrap64 (a0 - (wrap64 (a1 * 12))))) = some r := h
 clear h
 obtain rfl := Option.some.inj H
 go_enter Tryz.func105, Tryz.ntmps105
 go_wp2
 go_ret
 exact ⟨by first | rfl | (simp; done) | (simp [*]; done), by repeat (first | exact Drawn0.refl _ | apply Drawn0.step)⟩
def gotime_absDays_date.f (a0 : Int) : Option (Int × Int × Int) := (gotime_absDays_split.f a0).bind fun bt679 => ((gotime_absYday_split.f bt679.2.2).bind fun bt682 => ((gotime_absYday_janFeb.f bt679.2.2).bind fun t684 => ((gotime_absCentury_year.f bt679.1 bt679.2.1 t684).bind fun t685 => ((gotime_absMonth_month.f bt682.1 t684).bind fun t686 => (some (t685, t686, bt682.2))))))
set_option maxHeartbeats 8000000 in
set_option maxRecDepth 100000 in
theorem gotime_absDays_date.calls (a0 : Int) (r1 : Int) (r2 : Int) (r3 : Int) (w : World) (h : gotime_absDays_date.f a0 = some (r1, r2, r3)) :
    Calls Tryz.prog 79 #[.int .u64 a0] w fun e w' => e = .returned (.tuple #[.int .i64 r1, .int .i64 r2, .int .i64 r3]) ∧ Drawn0 w w' := by
 have H : ((gotime_absDays_split.f a0).bind fun bt679 => ((gotime_absYday_split.f bt679.2.2).bind fun bt682 => ((gotime_absYday_janFeb.f bt679.2.2).bind fun t684 => ((gotime_absCentury_year.f bt679.1 bt679.2.1 t684).bind fun t685 => ((gotime_absMonth_month.f bt682.1 t684).bind fun t686 => (some (t685, t686, bt682.2))))))) = some (r1, r2, r3) := h
 clear h
 replace H := Option.bind_eq_some_iff.mp H
 obtain ⟨⟨t679, t680, t681⟩, A20, H⟩ := H
 try dsimp only at H
 have A2 := Aside0.mk A20
 clear A20
 replace H := Option.bind_eq_some_iff.mp H
 obtain ⟨⟨t682, t683⟩, A30, H⟩ := H
 try dsimp only at H
 have A3 := Aside0.mk A30
 clear A30
 replace H := Option.bind_eq_some_iff.mp H
 obtain ⟨t684, A40, H⟩ := H
 try dsimp only at H
 have A4 := Aside0.mk A40
 clear A40
 replace H := Option.bind_eq_some_iff.mp H
 obtain ⟨t685, A50, H⟩ := H
 try dsimp only at H
 have A5 := Aside0.mk A50
 clear A50
 replace H := Option.bind_eq_some_iff.mp H
 obtain ⟨t686, A60, H⟩ := H
 try dsimp only at H
 have A6 := Aside0.mk A60
 clear A60
 simp only [Option.some.injEq, Prod.mk.injEq] at H
 obtain ⟨rfl, rfl, rfl⟩ := H
 go_enter Tryz.func79, Tryz.ntmps79
 go_wp2_with (first | ((with_reducible refine gate_callee (f := 92) rfl ?_); refine goesL_ (some 12) rfl rfl Tryz.func92 (by kernel_rfl) rfl #[.int .u64 a0] rfl (by (try simp only [List.map_toArray, List.map_cons, List.map_nil]); first | done | rfl | (simp only [List.length_drop, List.length_take]; rfl)) ?_; (with_reducible refine (gotime_absDays_split.calls a0 t679 t680 t681 _ A2.out).mono ?_); rintro e w' ⟨rfl, ⟨nd, rfl⟩⟩; refine ⟨_, rfl, ?_⟩) | ((with_reducible refine gate_callee (f := 104) rfl ?_); refine goesL_ (some 18) rfl rfl Tryz.func104 (by kernel_rfl) rfl #[.int .i64 t681] rfl (by (try simp only [List.map_toArray, List.map_cons, List.map_nil]); first | done | rfl | (simp only [List.length_drop, List.length_take]; rfl)) ?_; (with_reducible refine (gotime_absYday_split.calls t681 t682 t683 _ A3.out).mono ?_); rintro e w' ⟨rfl, ⟨nd, rfl⟩⟩; refine ⟨_, rfl, ?_⟩) | ((with_reducible refine gate_callee (f := 93) rfl ?_); refine goesL_ (some 22) rfl rfl Tryz.func93 (by kernel_rfl) rfl #[.int .i64 t681] rfl (by (try simp only [List.map_toArray, List.map_cons, List.map_nil]); first | done | rfl | (simp only [List.length_drop, List.length_take]; rfl)) ?_; (with_reducible refine (gotime_absYday_janFeb.calls t681 t684 _ A4.out).mono ?_); rintro e w' ⟨rfl, ⟨nd, rfl⟩⟩; refine ⟨_, rfl, ?_⟩) | ((with_reducible refine gate_callee (f := 94) rfl ?_); refine goesL_ (some 26) rfl rfl Tryz.func94 (by kernel_rfl) rfl #[.int .u64 t679, .int .i64 t680, .int .i64 t684] rfl (by (try simp only [List.map_toArray, List.map_cons, List.map_nil]); first | done | rfl | (simp only [List.length_drop, List.length_take]; rfl)) ?_; (with_reducible refine (gotime_absCentury_year.calls t679 t680 t684 t685 _ A5.out).mono ?_); rintro e w' ⟨rfl, ⟨nd, rfl⟩⟩; refine ⟨_, rfl, ?_⟩) | ((with_reducible refine gate_callee (f := 105) rfl ?_); refine goesL_ (some 29) rfl rfl Tryz.func105 (by kernel_rfl) rfl #[.int .i64 t682, .int .i64 t684] rfl (by (try simp only [List.map_toArray, List.map_cons, List.map_nil]); first | done | rfl | (simp only [List.length_drop, List.length_take]; rfl)) ?_; (with_reducible refine (gotime_absMonth_month.calls t682 t684 t686 _ A6.out).mono ?_); rintro e w' ⟨rfl, ⟨nd, rfl⟩⟩; refine ⟨_, rfl, ?_⟩))
 go_ret3
 exact ⟨by first | rfl | (simp; done) | (simp [*]; done), by repeat (first | exact Drawn0.refl _ | apply Drawn0.step)⟩
def gotime_absDays_weekday.f (a0 : Int) : Option (Int) := some (wrap64 (Int.tmod (IntKind.u64.wrap (a0 + 3)) 7))
set_option maxHeartbeats 8000000 in
set_option maxRecDepth 100000 in
theorem gotime_absDays_weekday.calls (a0 : Int) (r : Int) (w : World) (h : gotime_absDays_weekday.f a0 = some r) :
    Calls Tryz.prog 147 #[.int .u64 a0] w fun e w' => e = .returned (.int .i64 r) ∧ Drawn0 w w' := by
 have H : (some (wrap64 (Int.tmod (IntKind.u64.wrap (a0 + 3)) 7))) = some r := h
 clear h
 obtain rfl := Option.some.inj H
 go_enter Tryz.func147, Tryz.ntmps147
 go_wp2
 go_ret
 exact ⟨by first | rfl | (simp; done) | (simp [*]; done), by repeat (first | exact Drawn0.refl _ | apply Drawn0.step)⟩
def gotime_absSeconds_clock.f (a0 : Int) : Option (Int × Int × Int) := some (wrap64 (Int.tdiv (wrap64 (Int.tmod a0 86400)) 3600), wrap64 (Int.tdiv (wrap64 ((wrap64 (Int.tmod a0 86400)) - (wrap64 ((wrap64 (Int.tdiv (wrap64 (Int.tmod a0 86400)) 3600)) * 3600)))) 60), wrap64 ((wrap64 ((wrap64 (Int.tmod a0 86400)) - (wrap64 ((wrap64 (Int.tdiv (wrap64 (Int.tmod a0 86400)) 3600)) * 3600)))) - (wrap64 ((wrap64 (Int.tdiv (wrap64 ((wrap64 (Int.tmod a0 86400)) - (wrap64 ((wrap64 (Int.tdiv (wrap64 (Int.tmod a0 86400)) 3600)) * 3600)))) 60)) * 60))))
set_option maxHeartbeats 8000000 in
set_option maxRecDepth 100000 in
theorem gotime_absSeconds_clock.calls (a0 : Int) (r1 : Int) (r2 : Int) (r3 : Int) (w : World) (h : gotime_absSeconds_clock.f a0 = some (r1, r2, r3)) :
    Calls Tryz.prog 80 #[.int .u64 a0] w fun e w' => e = .returned (.tuple #[.int .i64 r1, .int .i64 r2, .int .i64 r3]) ∧ Drawn0 w w' := by
 have H : (some (wrap64 (Int.tdiv (wrap64 (Int.tmod a0 86400)) 3600), wrap64 (Int.tdiv (wrap64 ((wrap64 (Int.tmod a0 86400)) - (wrap64 ((wrap64 (Int.tdiv (wrap64 (Int.tmod a0 86400)) 3600)) * 3600)))) 60), wrap64 ((wrap64 ((wrap64 (Int.tmod a0 86400)) - (wrap64 ((wrap64 (Int.tdiv (wrap64 (Int.tmod a0 86400)) 3600)) * 3600)))) - (wrap64 ((wrap64 (Int.tdiv (wrap64 ((wrap64 (Int.tmod a0 86400)) - (wrap64 ((wrap64 (Int.tdiv (wrap64 (Int.tmod a0 86400)) 3600)) * 3600)))) 60)) * 60))))) = some (r1, r2, r3) := h
 clear h
 simp only [Option.some.injEq, Prod.mk.injEq] at H
 obtain ⟨rfl, rfl, rfl⟩ := H
 go_enter Tryz.func80, Tryz.ntmps80
 go_wp2
 go_ret3
 exact ⟨by first | rfl | (simp; done) | (simp [*]; done), by repeat (first | exact Drawn0.refl _ | apply Drawn0.step)⟩
def gotime_absSeconds_days.f (a0 : Int) : Option (Int) := some (IntKind.u64.wrap (Int.tdiv a0 86400))
set_option maxHeartbeats 8000000 in
set_option maxRecDepth 100000 in
theorem gotime_absSeconds_days.calls (a0 : Int) (r : Int) (w : World) (h : gotime_absSeconds_days.f a0 = some r) :
    Calls Tryz.prog 78 #[.int .u64 a0] w fun e w' => e = .returned (.int .u64 r) ∧ Drawn0 w w' := by
 have H : (some (IntKind.u64.wrap (Int.tdiv a0 86400))) = some r := h
 clear h
 obtain rfl := Option.some.inj H
 go_enter Tryz.func78, Tryz.ntmps78
 go_wp2
 go_ret
 exact ⟨by first | rfl | (simp; done) | (simp [*]; done), by repeat (first | exact Drawn0.refl _ | apply Drawn0.step)⟩
end Go.Proofs.YtjpcdkhapeejjaaGreatDoor.A
namespace Go.Proofs.YtjpcdkhapeejjaaGreatDoor.A
open Cal
theorem w64 (x : Int) (h0 : -9223372036854775808 ≤ x) (h1 : x ≤ 9223372036854775807) : wrap64 x = x := by unfold wrap64; omega
theorem wu64 (x : Int) (h0 : 0 ≤ x) (h1 : x ≤ 18446744073709551615) : IntKind.u64.wrap x = x := by rw [IntKind.wrap_u64]; omega
theorem wsum (A X : Int) (h0 : 0 ≤ A + X) (h1 : A + X ≤ 18446744073709551615) : IntKind.u64.wrap (A + IntKind.u64.wrap X) = A + X := by rw [IntKind.wrap_u64, IntKind.wrap_u64]; omega
theorem nat_or3 (a : Nat) : a ||| 3 = a / 4 * 4 + 3 := by
  have h1 : (a ||| 3) / 4 = a / 4 := by
    have : (a ||| 3) >>> 2 = a >>> 2 := by rw [Nat.shiftRight_or_distrib]; simp
    simpa [Nat.shiftRight_eq_div_pow] using this
  have h2 : (a ||| 3) % 4 = 3 := by
    have : (a ||| 3) % 2 ^ 2 = (a % 2 ^ 2) ||| (3 % 2 ^ 2) := Nat.or_mod_two_pow
    have h4 : a % 4 = 0 ∨ a % 4 = 1 ∨ a % 4 = 2 ∨ a % 4 = 3 := by omega
    simp at this
    rw [this]
    rcases h4 with h | h | h | h <;> (rw [h]; rfl)
  omega
theorem or3 (a : Int) (h0 : 0 ≤ a) (h1 : a < 4294967296) : Go.bits .or .u32 a 3 = a / 4 * 4 + 3 := by
  obtain ⟨n, rfl⟩ := Int.eq_ofNat_of_zero_le h0
  have h := u32_or_nat n 3 (by omega) (by omega)
  have e : ((3 : Nat) : Int) = 3 := rfl
  rw [e] at h
  rw [h, nat_or3]
  omega
theorem and65535 (a : Int) (h0 : 0 ≤ a) (h1 : a < 4294967296) : Go.bits .and .u32 a 65535 = a % 65536 := by
  obtain ⟨n, rfl⟩ := Int.eq_ofNat_of_zero_le h0
  have h := u32_and_nat n 65535 (by omega) (by omega)
  have e : ((65535 : Nat) : Int) = 65535 := rfl
  rw [e] at h
  rw [h]
  have h2 : n &&& 65535 = n % 65536 := Nat.and_two_pow_sub_one_eq_mod n 16
  rw [h2]
  omega
theorem mul_cdd (E : Int) : 2939745 * cdd E / 4294967296 = cyr E ∧ 2939745 * cdd E % 4294967296 / 2939745 / 4 = ayd E := by
  have h := cdd_bd E
  unfold cyr ayd
  generalize cdd E = c at *
  have hq : 0 ≤ c / 1461 ∧ c / 1461 ≤ 99 := by omega
  have hr : 0 ≤ c % 1461 ∧ c % 1461 ≤ 1460 := by omega
  have e : 2939745 * c = 4294967296 * (c / 1461) + (149 * (c / 1461) + 2939745 * (c % 1461)) := by omega
  generalize c / 1461 = q at *
  generalize c % 1461 = r at *
  rw [e]
  have e2 : (4294967296 * q + (149 * q + 2939745 * r)) % 4294967296 = 149 * q + 2939745 * r := by omega
  have e3 : (149 * q + 2939745 * r) / 2939745 = r := by omega
  rw [e2, e3]
  exact ⟨by omega, rfl⟩
theorem split_f (E : Int) (h0 : 0 ≤ E) (h1 : E ≤ 1000000) : gotime_absDays_split.f (E + 106751990353932) = some (cen E + 2922770224, cyr E, ayd E) := by
  have hc := cdd_bd E
  have e1 : IntKind.u64.wrap (4 * (E + 106751990353932)) = 4 * (E + 106751990353932) := wu64 _ (by omega) (by omega)
  have e2 : IntKind.u64.wrap (4 * (E + 106751990353932) + 3) = 4 * (E + 106751990353932) + 3 := wu64 _ (by omega) (by omega)
  have e3 : Int.tmod (4 * (E + 106751990353932) + 3) 146097 = (4 * E + 3) % 146097 := by rw [Int.tmod_eq_emod_of_nonneg (by omega)]; omega
  have e4 : Int.tdiv (4 * (E + 106751990353932) + 3) 146097 = cen E + 2922770224 := by rw [Int.tdiv_eq_ediv_of_nonneg (by omega)]; unfold cen; omega
  have e5 : (4 * E + 3) % 146097 % 4294967296 = (4 * E + 3) % 146097 := by omega
  have e6 : Go.bits .or .u32 ((4 * E + 3) % 146097) 3 = cdd E := by rw [or3 _ (by omega) (by omega)]; rfl
  have e7 : IntKind.u64.wrap (cen E + 2922770224) = cen E + 2922770224 := by have := cen_bd E h0 h1; exact wu64 _ (by omega) (by omega)
  unfold gotime_absDays_split.f
  rw [e1, e2, e3, e4, e5, e6, e7]
  unfold bits_Mul32.f
  rw [wu64 2939745 (by omega) (by omega), wu64 (cdd E) (by omega) (by omega), wu64 (2939745 * cdd E) (by omega) (by omega)]
  obtain ⟨m1, m2⟩ := mul_cdd E
  have hy := ayd_bd E
  have hcy := cyr_bd E
  simp only [Option.bind_some, m1]
  have e8 : cyr E % 4294967296 = cyr E := by omega
  rw [e8, w64 _ (by omega) (by omega)]
  have e9 : Int.tdiv (2939745 * cdd E % 4294967296) 2939745 = 2939745 * cdd E % 4294967296 / 2939745 := Int.tdiv_eq_ediv_of_nonneg (by omega)
  rw [e9]
  have e10 : 2939745 * cdd E % 4294967296 / 2939745 % 4294967296 = 2939745 * cdd E % 4294967296 / 2939745 := by omega
  rw [e10, m2]
theorem ysplit_f (y : Int) (h0 : 0 ≤ y) (h1 : y ≤ 365) : gotime_absYday_split.f y = some (amo y, amd y) := by
  have e1 : y % 4294967296 = y := by omega
  have e2 : 2141 * y % 4294967296 = 2141 * y := by omega
  have e3 : (2141 * y + 197913) % 4294967296 = 2141 * y + 197913 := by omega
  unfold gotime_absYday_split.f
  rw [e1, e2, e3, and65535 _ (by omega) (by omega)]
  have e4 : Int.tdiv ((2141 * y + 197913) % 65536) 2141 = (2141 * y + 197913) % 65536 / 2141 := Int.tdiv_eq_ediv_of_nonneg (by omega)
  rw [e4]
  have e5 : (2141 * y + 197913) % 65536 / 2141 % 4294967296 = (2141 * y + 197913) % 65536 / 2141 := by omega
  rw [e5]
  rfl
theorem jf_f (y : Int) : gotime_absYday_janFeb.f y = some (jf y) := by
  unfold gotime_absYday_janFeb.f jf
  by_cases h : 306 ≤ y
  · rw [if_pos h, if_pos h]
  · rw [if_neg h, if_neg h]
theorem year_f (c y j : Int) (hc0 : 0 ≤ c) (hc : c ≤ 28) (hy : 0 ≤ y) (hy1 : y ≤ 99) (hj : 0 ≤ j) (hj1 : j ≤ 1) : gotime_absCentury_year.f (c + 2922770224) y j = some (c * 100 + y + j) := by
  unfold gotime_absCentury_year.f
  rw [wu64 ((c + 2922770224) * 100) (by omega) (by omega), wu64 ((c + 2922770224) * 100 - 292277022400) (by omega) (by omega), w64 ((c + 2922770224) * 100 - 292277022400) (by omega) (by omega), w64 ((c + 2922770224) * 100 - 292277022400 + y) (by omega) (by omega), w64 ((c + 2922770224) * 100 - 292277022400 + y + j) (by omega) (by omega)]
  congr 1
  omega
theorem mon_f (m j : Int) (h0 : 3 ≤ m) (h1 : m ≤ 14) (hj : 0 ≤ j) (hj1 : j ≤ 1) : gotime_absMonth_month.f m j = some (m - 12 * j) := by
  unfold gotime_absMonth_month.f
  rw [w64 (j * 12) (by omega) (by omega), w64 _ (by omega) (by omega)]
  congr 1
  omega
theorem date_f (E : Int) (h0 : 0 ≤ E) (h1 : E ≤ 1000000) : gotime_absDays_date.f (E + 106751990353932) = some (yearE E, monE E, dayE E) := by
  have hy := ayd_bd E
  have hc := cen_bd E h0 h1
  have hcy := cyr_bd E
  have hj := jf_bd (ayd E)
  have hm := amo_bd (ayd E) hy.1 hy.2
  unfold gotime_absDays_date.f
  rw [split_f E h0 h1]
  simp only [Option.bind_some]
  rw [ysplit_f _ hy.1 hy.2]
  simp only [Option.bind_some]
  rw [jf_f]
  simp only [Option.bind_some]
  rw [year_f _ _ _ hc.1 hc.2 hcy.1 hcy.2 hj.1 hj.2]
  simp only [Option.bind_some]
  rw [mon_f _ _ hm.1 hm.2 hj.1 hj.2]
  rfl
theorem wd_f (E : Int) (h0 : 0 ≤ E) (h1 : E ≤ 1000000) : gotime_absDays_weekday.f (E + 106751990353932) = some (wdE E) := by
  unfold gotime_absDays_weekday.f
  rw [wu64 _ (by omega) (by omega), Int.tmod_eq_emod_of_nonneg (by omega), w64 _ (by omega) (by omega)]
  unfold wdE
  congr 1
  omega
theorem days_f (s : Int) (h : InR s) : gotime_absSeconds_days.f (s + 9223371966606163200) = some (eS s + 106751990353932) := by
  unfold InR at h
  unfold gotime_absSeconds_days.f
  rw [Int.tdiv_eq_ediv_of_nonneg (by omega), wu64 _ (by omega) (by omega)]
  unfold eS
  congr 1
  omega
theorem eS_bd (s : Int) (h : InR s) : 0 ≤ eS s ∧ eS s ≤ 1000000 := by unfold InR at h; unfold eS; omega
theorem clock_f (s : Int) (h : InR s) : gotime_absSeconds_clock.f (s + 9223371966606163200) = some (hourS s, minS s, secS s) := by
  unfold InR at h
  unfold gotime_absSeconds_clock.f
  have e1 : Int.tmod (s + 9223371966606163200) 86400 = s % 86400 := by rw [Int.tmod_eq_emod_of_nonneg (by omega)]; omega
  rw [e1, w64 (s % 86400) (by omega) (by omega)]
  have e2 : Int.tdiv (s % 86400) 3600 = s % 86400 / 3600 := Int.tdiv_eq_ediv_of_nonneg (by omega)
  rw [e2, w64 (s % 86400 / 3600) (by omega) (by omega), w64 (s % 86400 / 3600 * 3600) (by omega) (by omega), w64 (s % 86400 - s % 86400 / 3600 * 3600) (by omega) (by omega)]
  have e3 : Int.tdiv (s % 86400 - s % 86400 / 3600 * 3600) 60 = (s % 86400 - s % 86400 / 3600 * 3600) / 60 := Int.tdiv_eq_ediv_of_nonneg (by omega)
  rw [e3, w64 ((s % 86400 - s % 86400 / 3600 * 3600) / 60) (by omega) (by omega), w64 ((s % 86400 - s % 86400 / 3600 * 3600) / 60 * 60) (by omega) (by omega), w64 _ (by omega) (by omega)]
  unfold hourS minS secS
  congr 1
  refine Prod.ext rfl (Prod.ext ?_ ?_)
  · show (s % 86400 - s % 86400 / 3600 * 3600) / 60 = s % 3600 / 60; omega
  · show s % 86400 - s % 86400 / 3600 * 3600 - (s % 86400 - s % 86400 / 3600 * 3600) / 60 * 60 = s % 60; omega
theorem toAbs_f (y m d : Int) (hy0 : 1900 ≤ y) (hy1 : y ≤ 2200) (hm0 : 1 ≤ m) (hm1 : m ≤ 12) (hd0 : 0 ≤ d) (hd1 : d ≤ 100) : gotime_dateToAbsDays.f y m d = some (ordE y m d + 106751990353932) := by
  unfold gotime_dateToAbsDays.f ordE
  have e0 : m % 4294967296 = m := by omega
  rw [e0]
  by_cases h : m < 3
  · rw [if_pos h, if_pos h, wu64 y (by omega) (by omega), wu64 (y - 1) (by omega) (by omega), wu64 (y - 1 + 292277022400) (by omega) (by omega)]
    have e1 : Int.tdiv (y - 1 + 292277022400) 100 = (y - 1) / 100 + 2922770224 := by rw [Int.tdiv_eq_ediv_of_nonneg (by omega)]; omega
    have e2 : Int.tmod (y - 1 + 292277022400) 100 = (y - 1) % 100 := by rw [Int.tmod_eq_emod_of_nonneg (by omega)]; omega
    rw [e1, e2, wu64 ((y - 1) / 100 + 2922770224) (by omega) (by omega), wu64 (146097 * ((y - 1) / 100 + 2922770224)) (by omega) (by omega)]
    have e3 : Int.tdiv (146097 * ((y - 1) / 100 + 2922770224)) 4 = 146097 * ((y - 1) / 100) / 4 + 106751990353932 := by rw [Int.tdiv_eq_ediv_of_nonneg (by omega)]; omega
    rw [e3, wu64 (146097 * ((y - 1) / 100) / 4 + 106751990353932) (by omega) (by omega)]
    have a1 : (y - 1) % 100 % 4294967296 = (y - 1) % 100 := by omega
    have a2 : 1461 * ((y - 1) % 100) % 4294967296 = 1461 * ((y - 1) % 100) := by omega
    have a3 : (m + 12 * 1) % 4294967296 = m + 12 := by omega
    have a4 : 979 * (m + 12) % 4294967296 = 979 * (m + 12) := by omega
    have a5 : (979 * (m + 12) - 2919) % 4294967296 = 979 * (m + 12) - 2919 := by omega
    have e4 : ((1461 * ((y - 1) % 100 % 4294967296) % 4294967296 / 4 + (979 * ((m + 12 * 1) % 4294967296) % 4294967296 - 2919) % 4294967296 / 32) % 4294967296) = 1461 * ((y - 1) % 100) / 4 + (979 * (m + 12) - 2919) / 32 := by rw [a1, a2, a3, a4, a5]; omega
    rw [e4, w64 (1461 * ((y - 1) % 100) / 4 + (979 * (m + 12) - 2919) / 32 + d) (by omega) (by omega), w64 (1461 * ((y - 1) % 100) / 4 + (979 * (m + 12) - 2919) / 32 + d - 1) (by omega) (by omega), wsum _ _ (by omega) (by omega)]
    congr 1
    omega
  · rw [if_neg h, if_neg h, wu64 y (by omega) (by omega), wu64 (y - 0) (by omega) (by omega), wu64 (y - 0 + 292277022400) (by omega) (by omega)]
    have e1 : Int.tdiv (y - 0 + 292277022400) 100 = y / 100 + 2922770224 := by rw [Int.tdiv_eq_ediv_of_nonneg (by omega)]; omega
    have e2 : Int.tmod (y - 0 + 292277022400) 100 = y % 100 := by rw [Int.tmod_eq_emod_of_nonneg (by omega)]; omega
    rw [e1, e2, wu64 (y / 100 + 2922770224) (by omega) (by omega), wu64 (146097 * (y / 100 + 2922770224)) (by omega) (by omega)]
    have e3 : Int.tdiv (146097 * (y / 100 + 2922770224)) 4 = 146097 * (y / 100) / 4 + 106751990353932 := by rw [Int.tdiv_eq_ediv_of_nonneg (by omega)]; omega
    rw [e3, wu64 (146097 * (y / 100) / 4 + 106751990353932) (by omega) (by omega)]
    have a1 : y % 100 % 4294967296 = y % 100 := by omega
    have a2 : 1461 * (y % 100) % 4294967296 = 1461 * (y % 100) := by omega
    have a3 : (m + 12 * 0) = m := by omega
    have a4 : 979 * m % 4294967296 = 979 * m := by omega
    have a5 : (979 * m - 2919) % 4294967296 = 979 * m - 2919 := by omega
    have e4 : ((1461 * (y % 100 % 4294967296) % 4294967296 / 4 + (979 * (m + 12 * 0) % 4294967296 - 2919) % 4294967296 / 32) % 4294967296) = 1461 * (y % 100) / 4 + (979 * m - 2919) / 32 := by rw [a1, a2, a3, a4, a5]; omega
    rw [e4, w64 (1461 * (y % 100) / 4 + (979 * m - 2919) / 32 + d) (by omega) (by omega), w64 (1461 * (y % 100) / 4 + (979 * m - 2919) / 32 + d - 1) (by omega) (by omega), wsum _ _ (by omega) (by omega)]
    congr 1
    omega
end Go.Proofs.YtjpcdkhapeejjaaGreatDoor.A
namespace Go.Proofs.YtjpcdkhapeejjaaGreatDoor.A
open Cal
set_option maxRecDepth 100000
theorem hset_drewN (w : World) (n : Nat) (a : Addr) (v : Value) : (w.drewN n).setCell a v = (w.setCell a v).drewN n := rfl
theorem halloc_drewN (w : World) (n : Nat) (o : Obj) : (w.drewN n).alloc o = (w.alloc o).drewN n := rfl
attribute [local go_sem] hset_drewN halloc_drewN
theorem results_tmp5 {fn : Func} {t u v x y : Tmp} (h : fn.results = #[.tmp t, .tmp u, .tmp v, .tmp x, .tmp y]) (tmps : Array Value) (P : Program) (w : World) :
    (results fn tmps).run P w = .ok (.tuple #[tmps.getD t undef, tmps.getD u undef, tmps.getD v undef, tmps.getD x undef, tmps.getD y undef]) w := by simp [results, h]
theorem bz : bits BinOp.and IntKind.u64 0 9223372036854775808 = 0 := by kernel_rfl
theorem bzne : (bits BinOp.and IntKind.u64 0 9223372036854775808 != 0) = false := by rw [bz]; rfl
theorem ret_i {k : IntKind} {a b : Int} (h : a = b) : Ending.returned (.int k a) = .returned (.int k b) := by rw [h]
/-- A place that is UTC's, as the program lays it. -/
def IsUTC (w : World) (g : Nat) : Prop :=
  w.heap[g]? = some (.cells #[.bool true, .string ⟨#[85, 84, 67]⟩, .slice none 0 0, .slice none 0 0, .string ⟨#[]⟩, .int .i64 0, .int .i64 0, .pointer none] 138 (0, 0))
theorem IsUTC.lt {w : World} {g : Nat} (h : IsUTC w g) : g < w.heap.size := by
  rcases Nat.lt_or_ge g w.heap.size with hlt | hge
  · exact hlt
  · unfold IsUTC at h; rw [Array.getElem?_eq_none hge] at h; cases h
theorem IsUTC.cell {w : World} {g : Nat} (h : IsUTC w g) : w.cell? ⟨g, 0, none⟩ = some (.bool true) ∧ w.cell? ⟨g, 2, none⟩ = some (.slice none 0 0) :=
  ⟨blk_cell h 0, blk_cell h 2⟩
theorem IsUTC.below {w w' : World} {g : Nat} (h : IsUTC w g) (hb : Below w.heap.size w w') : IsUTC w' g := (hb.block g h.lt).trans h
theorem lookup_any (s : Int) (g : Nat) (w : World) (hL : IsUTC w g) :
    Calls Tryz.prog 74 #[.pointer (some ⟨g, 0, none⟩), .int .i64 s] w fun e w' => e = .returned (.tuple #[.string ⟨#[85, 84, 67]⟩, .int .i64 0, .int .i64 (-9223372036854775808), .int .i64 9223372036854775807, .bool false]) ∧ w = w' := by
  obtain ⟨c0, c2⟩ := hL.cell
  clear hL
  go_enter Tryz.func74, Tryz.ntmps74
  go_wp2
  refine bodyPost_ret (results_tmp5 rfl _ _ _) rfl ?_
  exact ⟨rfl, rfl⟩
theorem absSec_any (s : Int) (w : World) (h : InR s) :
    Calls Tryz.prog 77 #[.agg #[.int .u64 0, .int .i64 s, .pointer none]] w fun e w' => e = .returned (.int .u64 (s + 9223371966606163200)) ∧ Below w.heap.size w w' := by
  obtain ⟨h0, h1⟩ := h
  have hu63 := Tryz.underlying63
  have hbz := bzne
  go_enter Tryz.func77, Tryz.ntmps77
  go_wp2
  go_ret
  exact ⟨ret_i (by omega), by repeat (with_reducible first | exact Below.refl _ _ | apply below_alloc | apply pw_below_drewN | apply below_drew1)⟩
theorem Date_any (y m d h mi se : Int) (g : Nat) (w : World) (hL : IsUTC w g) (y0 : 1988 ≤ y) (y1 : y ≤ 2109) (m0 : 1 ≤ m) (m1 : m ≤ 12) (d0 : 0 ≤ d) (d1 : d ≤ 32) (h0 : 0 ≤ h) (h1 : h ≤ 23) (mi0 : 0 ≤ mi) (mi1 : mi ≤ 59) (s0 : 0 ≤ se) (s1 : se ≤ 59) :
    Calls Tryz.prog 49 #[.int .i64 y, .int .i64 m, .int .i64 d, .int .i64 h, .int .i64 mi, .int .i64 se, .int .i64 0, .pointer (some ⟨g, 0, none⟩)] w fun e w' => e = .returned (.agg #[.int .u64 0, .int .i64 (mkS y m d h mi se), .pointer none]) ∧ Below w.heap.size w w' := by
  have hu63 := Tryz.underlying63
  have hbz := bzne
  have HL := Aside0.mk hL
  obtain ⟨c0, c2⟩ := hL.cell
  have hlt := hL.lt
  have hlt1 : g < w.heap.size + 1 := by omega
  have hlt2 : g < w.heap.size + 1 + 1 := by omega
  have hlt3 : g < w.heap.size + 1 + 1 + 1 := by omega
  have HA := Aside0.mk (toAbs_f y m d (by omega) (by omega) m0 m1 d0 (by omega))
  have ho : 700000 ≤ ordE y m d ∧ ordE y m d ≤ 771000 := by unfold ordE; split <;> omega
  clear hL
  go_enter Tryz.func49, Tryz.ntmps49
  go_wp2_with (first | (go_at_call 72; go_in) | (go_at_call 73; refine (gotime_dateToAbsDays.calls y m d _ _ HA.out).mono ?_; rintro e w' ⟨rfl, ⟨nd, rfl⟩⟩))
  refine (lookup_any _ g _ (HL.out.below (by repeat (with_reducible first | exact Below.refl _ _ | apply below_alloc | apply pw_below_drewN | apply below_drew1)))).mono ?_
  rintro e w' ⟨rfl, rfl⟩
  go_wp2
  refine bodyPost_ret (v := .agg #[.int .u64 0, .int .i64 ((ordE y m d + 106751990353932) * 86400 + (h * 3600 + mi * 60 + se) + -9223372028741760000 + 62135596800), .pointer none]) (by simp [results, Tryz.results75, go_sem]) rfl ?_
  go_wp2
  go_end0
  go_wp2
  go_end0
  go_wp2
  refine bodyPost_ret (v := .agg #[.int .u64 0, .int .i64 ((ordE y m d + 106751990353932) * 86400 + (h * 3600 + mi * 60 + se) + -9223372028741760000 + 62135596800), .pointer none]) (by simp [results, Tryz.results49, go_sem]) rfl ⟨?_, ?_⟩
  · have e : (ordE y m d + 106751990353932) * 86400 + (h * 3600 + mi * 60 + se) + -9223372028741760000 + 62135596800 = mkS y m d h mi se := by unfold mkS; omega
    rw [e]
  · repeat (with_reducible first | exact Below.refl _ _ | apply below_alloc | apply pw_below_drewN | apply below_drew1 | refine below_set ?_ (by omega))
end Go.Proofs.YtjpcdkhapeejjaaGreatDoor.A
namespace Go.Proofs.YtjpcdkhapeejjaaGreatDoor.A
open Cal
set_option maxRecDepth 100000
attribute [local go_sem] hset_drewN halloc_drewN
theorem Year_any (s : Int) (w : World) (h : InR s) :
    Calls Tryz.prog 63 #[.agg #[.int .u64 0, .int .i64 s, .pointer none]] w fun e w' => e = .returned (.int .i64 (yearS s)) ∧ Below w.heap.size w w' := by
  have hu63 := Tryz.underlying63
  have hE := eS_bd s h
  have hy := ayd_bd (eS s)
  have hc := cen_bd (eS s) hE.1 hE.2
  have hcy := cyr_bd (eS s)
  have hj := jf_bd (ayd (eS s))
  have hm := amo_bd (ayd (eS s)) hy.1 hy.2
  have A78 := Aside0.mk (days_f s h)
  have A92 := Aside0.mk (split_f (eS s) hE.1 hE.2)
  have A93 := Aside0.mk (jf_f (ayd (eS s)))
  have A94 := Aside0.mk (year_f (cen (eS s)) (cyr (eS s)) (jf (ayd (eS s))) hc.1 hc.2 hcy.1 hcy.2 hj.1 hj.2)
  have HI := Aside0.mk h
  clear hE hy hc hcy hj hm h
  go_enter Tryz.func63, Tryz.ntmps63
  go_wp2_with (first | (go_at_call 77; refine (absSec_any s _ HI.out).mono ?_; rintro e w1 ⟨rfl, hb⟩) | (go_at_call 78; refine (gotime_absSeconds_days.calls _ _ _ A78.out).mono ?_; rintro e w' ⟨rfl, ⟨nd, rfl⟩⟩) | (go_at_call 92; refine (gotime_absDays_split.calls _ _ _ _ _ A92.out).mono ?_; rintro e w' ⟨rfl, ⟨nd, rfl⟩⟩) | (go_at_call 93; refine (gotime_absYday_janFeb.calls _ _ _ A93.out).mono ?_; rintro e w' ⟨rfl, ⟨nd, rfl⟩⟩) | (go_at_call 94; refine (gotime_absCentury_year.calls _ _ _ _ _ A94.out).mono ?_; rintro e w' ⟨rfl, ⟨nd, rfl⟩⟩))
  go_ret
  exact ⟨rfl, by repeat (with_reducible first | exact Below.refl _ _ | apply below_alloc | apply pw_below_drewN | apply below_drew1 | (refine below_step ?_ hb))⟩
theorem Month_any (s : Int) (w : World) (h : InR s) :
    Calls Tryz.prog 121 #[.agg #[.int .u64 0, .int .i64 s, .pointer none]] w fun e w' => e = .returned (.int .i64 (monS s)) ∧ Below w.heap.size w w' := by
  have hu63 := Tryz.underlying63
  have hE := eS_bd s h
  have hy := ayd_bd (eS s)
  have hc := cen_bd (eS s) hE.1 hE.2
  have hcy := cyr_bd (eS s)
  have hj := jf_bd (ayd (eS s))
  have hm := amo_bd (ayd (eS s)) hy.1 hy.2
  have A78 := Aside0.mk (days_f s h)
  have A92 := Aside0.mk (split_f (eS s) hE.1 hE.2)
  have A104 := Aside0.mk (ysplit_f (ayd (eS s)) hy.1 hy.2)
  have A93 := Aside0.mk (jf_f (ayd (eS s)))
  have A105 := Aside0.mk (mon_f (amo (ayd (eS s))) (jf (ayd (eS s))) hm.1 hm.2 hj.1 hj.2)
  have HI := Aside0.mk h
  clear hE hy hc hcy hj hm h
  go_enter Tryz.func121, Tryz.ntmps121
  go_wp2_with (first | (go_at_call 77; refine (absSec_any s _ HI.out).mono ?_; rintro e w1 ⟨rfl, hb⟩) | (go_at_call 78; refine (gotime_absSeconds_days.calls _ _ _ A78.out).mono ?_; rintro e w' ⟨rfl, ⟨nd, rfl⟩⟩) | (go_at_call 92; refine (gotime_absDays_split.calls _ _ _ _ _ A92.out).mono ?_; rintro e w' ⟨rfl, ⟨nd, rfl⟩⟩) | (go_at_call 104; refine (gotime_absYday_split.calls _ _ _ _ A104.out).mono ?_; rintro e w' ⟨rfl, ⟨nd, rfl⟩⟩) | (go_at_call 93; refine (gotime_absYday_janFeb.calls _ _ _ A93.out).mono ?_; rintro e w' ⟨rfl, ⟨nd, rfl⟩⟩) | (go_at_call 105; refine (gotime_absMonth_month.calls _ _ _ _ A105.out).mono ?_; rintro e w' ⟨rfl, ⟨nd, rfl⟩⟩))
  go_ret
  exact ⟨rfl, by repeat (with_reducible first | exact Below.refl _ _ | apply below_alloc | apply pw_below_drewN | apply below_drew1 | (refine below_step ?_ hb))⟩
theorem Day_any (s : Int) (w : World) (h : InR s) :
    Calls Tryz.prog 122 #[.agg #[.int .u64 0, .int .i64 s, .pointer none]] w fun e w' => e = .returned (.int .i64 (dayS s)) ∧ Below w.heap.size w w' := by
  have hu63 := Tryz.underlying63
  have hE := eS_bd s h
  have hy := ayd_bd (eS s)
  have hc := cen_bd (eS s) hE.1 hE.2
  have hcy := cyr_bd (eS s)
  have hj := jf_bd (ayd (eS s))
  have hm := amo_bd (ayd (eS s)) hy.1 hy.2
  have A78 := Aside0.mk (days_f s h)
  have A92 := Aside0.mk (split_f (eS s) hE.1 hE.2)
  have A104 := Aside0.mk (ysplit_f (ayd (eS s)) hy.1 hy.2)
  have HI := Aside0.mk h
  clear hE hy hc hcy hj hm h
  go_enter Tryz.func122, Tryz.ntmps122
  go_wp2_with (first | (go_at_call 77; refine (absSec_any s _ HI.out).mono ?_; rintro e w1 ⟨rfl, hb⟩) | (go_at_call 78; refine (gotime_absSeconds_days.calls _ _ _ A78.out).mono ?_; rintro e w' ⟨rfl, ⟨nd, rfl⟩⟩) | (go_at_call 92; refine (gotime_absDays_split.calls _ _ _ _ _ A92.out).mono ?_; rintro e w' ⟨rfl, ⟨nd, rfl⟩⟩) | (go_at_call 104; refine (gotime_absYday_split.calls _ _ _ _ A104.out).mono ?_; rintro e w' ⟨rfl, ⟨nd, rfl⟩⟩))
  go_ret
  exact ⟨rfl, by repeat (with_reducible first | exact Below.refl _ _ | apply below_alloc | apply pw_below_drewN | apply below_drew1 | (refine below_step ?_ hb))⟩
theorem Weekday_any (s : Int) (w : World) (h : InR s) :
    Calls Tryz.prog 211 #[.agg #[.int .u64 0, .int .i64 s, .pointer none]] w fun e w' => e = .returned (.int .i64 (wdS s)) ∧ Below w.heap.size w w' := by
  have hu63 := Tryz.underlying63
  have hE := eS_bd s h
  have hy := ayd_bd (eS s)
  have hc := cen_bd (eS s) hE.1 hE.2
  have hcy := cyr_bd (eS s)
  have hj := jf_bd (ayd (eS s))
  have hm := amo_bd (ayd (eS s)) hy.1 hy.2
  have A78 := Aside0.mk (days_f s h)
  have A147 := Aside0.mk (wd_f (eS s) hE.1 hE.2)
  have HI := Aside0.mk h
  clear hE hy hc hcy hj hm h
  go_enter Tryz.func211, Tryz.ntmps211
  go_wp2_with (first | (go_at_call 77; refine (absSec_any s _ HI.out).mono ?_; rintro e w1 ⟨rfl, hb⟩) | (go_at_call 78; refine (gotime_absSeconds_days.calls _ _ _ A78.out).mono ?_; rintro e w' ⟨rfl, ⟨nd, rfl⟩⟩) | (go_at_call 147; refine (gotime_absDays_weekday.calls _ _ _ A147.out).mono ?_; rintro e w' ⟨rfl, ⟨nd, rfl⟩⟩))
  go_ret
  exact ⟨rfl, by repeat (with_reducible first | exact Below.refl _ _ | apply below_alloc | apply pw_below_drewN | apply below_drew1 | (refine below_step ?_ hb))⟩
theorem Hour_any (s : Int) (w : World) (h : InR s) :
    Calls Tryz.prog 123 #[.agg #[.int .u64 0, .int .i64 s, .pointer none]] w fun e w' => e = .returned (.int .i64 (hourS s)) ∧ Below w.heap.size w w' := by
  have hu63 := Tryz.underlying63
  have hE := eS_bd s h
  have hy := ayd_bd (eS s)
  have hc := cen_bd (eS s) hE.1 hE.2
  have hcy := cyr_bd (eS s)
  have hj := jf_bd (ayd (eS s))
  have hm := amo_bd (ayd (eS s)) hy.1 hy.2
  have HI := Aside0.mk h
  obtain ⟨i0, i1⟩ := id h
  clear hE hy hc hcy hj hm h
  go_enter Tryz.func123, Tryz.ntmps123
  go_wp2_with (first | (go_at_call 77; refine (absSec_any s _ HI.out).mono ?_; rintro e w1 ⟨rfl, hb⟩))
  go_ret
  exact ⟨ret_i (by unfold hourS; omega), by repeat (with_reducible first | exact Below.refl _ _ | apply below_alloc | apply pw_below_drewN | apply below_drew1 | (refine below_step ?_ hb))⟩
theorem Minute_any (s : Int) (w : World) (h : InR s) :
    Calls Tryz.prog 124 #[.agg #[.int .u64 0, .int .i64 s, .pointer none]] w fun e w' => e = .returned (.int .i64 (minS s)) ∧ Below w.heap.size w w' := by
  have hu63 := Tryz.underlying63
  have hE := eS_bd s h
  have hy := ayd_bd (eS s)
  have hc := cen_bd (eS s) hE.1 hE.2
  have hcy := cyr_bd (eS s)
  have hj := jf_bd (ayd (eS s))
  have hm := amo_bd (ayd (eS s)) hy.1 hy.2
  have HI := Aside0.mk h
  obtain ⟨i0, i1⟩ := id h
  clear hE hy hc hcy hj hm h
  go_enter Tryz.func124, Tryz.ntmps124
  go_wp2_with (first | (go_at_call 77; refine (absSec_any s _ HI.out).mono ?_; rintro e w1 ⟨rfl, hb⟩))
  go_ret
  exact ⟨ret_i (by unfold minS; omega), by repeat (with_reducible first | exact Below.refl _ _ | apply below_alloc | apply pw_below_drewN | apply below_drew1 | (refine below_step ?_ hb))⟩
theorem Second_any (s : Int) (w : World) (h : InR s) :
    Calls Tryz.prog 210 #[.agg #[.int .u64 0, .int .i64 s, .pointer none]] w fun e w' => e = .returned (.int .i64 (secS s)) ∧ Below w.heap.size w w' := by
  have hu63 := Tryz.underlying63
  have hE := eS_bd s h
  have hy := ayd_bd (eS s)
  have hc := cen_bd (eS s) hE.1 hE.2
  have hcy := cyr_bd (eS s)
  have hj := jf_bd (ayd (eS s))
  have hm := amo_bd (ayd (eS s)) hy.1 hy.2
  have HI := Aside0.mk h
  obtain ⟨i0, i1⟩ := id h
  clear hE hy hc hcy hj hm h
  go_enter Tryz.func210, Tryz.ntmps210
  go_wp2_with (first | (go_at_call 77; refine (absSec_any s _ HI.out).mono ?_; rintro e w1 ⟨rfl, hb⟩))
  go_ret
  exact ⟨ret_i (by unfold secS; omega), by repeat (with_reducible first | exact Below.refl _ _ | apply below_alloc | apply pw_below_drewN | apply below_drew1 | (refine below_step ?_ hb))⟩
theorem TDate_any (s : Int) (w : World) (h : InR s) :
    Calls Tryz.prog 51 #[.agg #[.int .u64 0, .int .i64 s, .pointer none]] w fun e w' => e = .returned (.tuple #[.int .i64 (yearS s), .int .i64 (monS s), .int .i64 (dayS s)]) ∧ Below w.heap.size w w' := by
  have hu63 := Tryz.underlying63
  have hE := eS_bd s h
  have hy := ayd_bd (eS s)
  have hc := cen_bd (eS s) hE.1 hE.2
  have hcy := cyr_bd (eS s)
  have hj := jf_bd (ayd (eS s))
  have hm := amo_bd (ayd (eS s)) hy.1 hy.2
  have A78 := Aside0.mk (days_f s h)
  have A79 := Aside0.mk (date_f (eS s) hE.1 hE.2)
  have HI := Aside0.mk h
  clear hE hy hc hcy hj hm h
  go_enter Tryz.func51, Tryz.ntmps51
  go_wp2_with (first | (go_at_call 77; refine (absSec_any s _ HI.out).mono ?_; rintro e w1 ⟨rfl, hb⟩) | (go_at_call 78; refine (gotime_absSeconds_days.calls _ _ _ A78.out).mono ?_; rintro e w' ⟨rfl, ⟨nd, rfl⟩⟩) | (go_at_call 79; refine (gotime_absDays_date.calls _ _ _ _ _ A79.out).mono ?_; rintro e w' ⟨rfl, ⟨nd, rfl⟩⟩))
  go_ret3
  exact ⟨rfl, by repeat (with_reducible first | exact Below.refl _ _ | apply below_alloc | apply pw_below_drewN | apply below_drew1 | (refine below_step ?_ hb))⟩
theorem Clock_any (s : Int) (w : World) (h : InR s) :
    Calls Tryz.prog 52 #[.agg #[.int .u64 0, .int .i64 s, .pointer none]] w fun e w' => e = .returned (.tuple #[.int .i64 (hourS s), .int .i64 (minS s), .int .i64 (secS s)]) ∧ Below w.heap.size w w' := by
  have hu63 := Tryz.underlying63
  have hE := eS_bd s h
  have hy := ayd_bd (eS s)
  have hc := cen_bd (eS s) hE.1 hE.2
  have hcy := cyr_bd (eS s)
  have hj := jf_bd (ayd (eS s))
  have hm := amo_bd (ayd (eS s)) hy.1 hy.2
  have A80 := Aside0.mk (clock_f s h)
  have HI := Aside0.mk h
  clear hE hy hc hcy hj hm h
  go_enter Tryz.func52, Tryz.ntmps52
  go_wp2_with (first | (go_at_call 77; refine (absSec_any s _ HI.out).mono ?_; rintro e w1 ⟨rfl, hb⟩) | (go_at_call 80; refine (gotime_absSeconds_clock.calls _ _ _ _ _ A80.out).mono ?_; rintro e w' ⟨rfl, ⟨nd, rfl⟩⟩))
  go_ret3
  exact ⟨rfl, by repeat (with_reducible first | exact Below.refl _ _ | apply below_alloc | apply pw_below_drewN | apply below_drew1 | (refine below_step ?_ hb))⟩
end Go.Proofs.YtjpcdkhapeejjaaGreatDoor.A
