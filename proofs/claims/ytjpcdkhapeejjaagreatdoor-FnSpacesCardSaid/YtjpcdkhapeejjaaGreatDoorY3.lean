/- The law FnSpaces (function 8): each way through it, where the callees keep their contracts. Conditions: those that each theorem names. -/
import Derived.Test.YtjpcdkhapeejjaaGreatDoorX0
namespace Go.Proofs.YtjpcdkhapeejjaaGreatDoor.A
open Go.RowKit Cal Go.Proofs.YtjpcdkhapeejjaaGreatDoorW.PrintWords Go.Proofs.YtjpcdkhapeejjaaGreatDoorW.PrintLast Go.Proofs.YtjpcdkhapeejjaaGreatDoorW.PrintMore
set_option linter.unusedVariables false
set_option linter.unusedSimpArgs false
set_option maxRecDepth 100000
set_option maxHeartbeats 8000000 in
theorem spaces_a (A0_0 : Option Addr) (c0_0 : Nat) (l0_0 : List (List S53)) (a0_1 : Bool) (a1_0 a1_1 a1_2 a1_3 a1_4 a1_5 a2 : Int) (w : World) (C10 : Aside0 (∀ W, Below w.heap.size w W → Calls Tryz.prog 10 #[.agg #[.slice A0_0 l0_0.length c0_0, .bool a0_1]] W fun e w' => e = .returned (.bool false) ∧ Below W.heap.size W w')) :
    Calls Tryz.prog 8 #[.agg #[.slice A0_0 l0_0.length c0_0, .bool a0_1], .agg #[.int .i64 a1_0, .int .i64 a1_1, .int .i64 a1_2, .int .i64 a1_3, .int .i64 a1_4, .int .i64 a1_5], .int .u8 a2] w fun e w' => e = .returned (.bool true) ∧ Below w.heap.size w w' := by
  have hu24 := Tryz.underlying24
  have hu26 := Tryz.underlying26
  have hu30 := Tryz.underlying30
  have hu33 := Tryz.underlying33
  have HM := Aside0.mk (((Mem.start w).new (et 24 A0_0 l0_0.length c0_0 a0_1)).new (mt 26 a1_0 a1_1 a1_2 a1_3 a1_4 a1_5))
  rw [World.size_alloc] at HM
  go_enter Tryz.func8, Tryz.ntmps8
  go_wp2_with (first | (go_at_call 10; (with_reducible refine Calls.mono (C10.out _ HM.out.below) ?_); rintro e wz ⟨rfl, hb⟩; have HB := (HM.out.step hb).below))
  go_ret
  exact ⟨rfl, HB⟩
set_option maxHeartbeats 8000000 in
theorem spaces_b (A0_0 : Option Addr) (c0_0 : Nat) (l0_0 : List (List S53)) (a0_1 : Bool) (a1_0 a1_1 a1_2 a1_3 a1_4 a1_5 a2 : Int) (w : World) (le : List (List S54)) (sc : Bool) (C10 : Aside0 (∀ W, Below w.heap.size w W → Calls Tryz.prog 10 #[.agg #[.slice A0_0 l0_0.length c0_0, .bool a0_1]] W fun e w' => e = .returned (.bool true) ∧ Below W.heap.size W w')) (C11 : Aside0 (∀ W, Below w.heap.size w W → Calls Tryz.prog 11 #[.agg #[.slice A0_0 l0_0.length c0_0, .bool a0_1]] W fun e w' => ∃ v0_ : Value, e = .returned (.agg #[v0_, .bool sc]) ∧ Kd.S (Kd.slice 54 k54) 51 w' W.heap.size (fun _ => True) v0_ le ∧ Below W.heap.size W w')) (C12 : Aside0 (∀ W Ao co, Kd.C (Kd.slice 54 k54) W Ao le.length le → le.length ≤ co → Calls Tryz.prog 12 #[.agg #[.slice Ao le.length co, .bool sc], .agg #[.int .i64 a1_0, .int .i64 a1_1, .int .i64 a1_2, .int .i64 a1_3, .int .i64 a1_4, .int .i64 a1_5]] W fun e w' => e = .returned (.bool false) ∧ Below W.heap.size W w')) :
    Calls Tryz.prog 8 #[.agg #[.slice A0_0 l0_0.length c0_0, .bool a0_1], .agg #[.int .i64 a1_0, .int .i64 a1_1, .int .i64 a1_2, .int .i64 a1_3, .int .i64 a1_4, .int .i64 a1_5], .int .u8 a2] w fun e w' => e = .returned (.bool true) ∧ Below w.heap.size w w' := by
  have hu24 := Tryz.underlying24
  have hu26 := Tryz.underlying26
  have hu30 := Tryz.underlying30
  have hu33 := Tryz.underlying33
  have HM := Aside0.mk (((Mem.start w).new (et 24 A0_0 l0_0.length c0_0 a0_1)).new (mt 26 a1_0 a1_1 a1_2 a1_3 a1_4 a1_5))
  rw [World.size_alloc] at HM
  go_enter Tryz.func8, Tryz.ntmps8
  go_wp2_with (first
      | (go_at_call 10; (with_reducible refine Calls.mono (C10.out _ HM.out.below) ?_); rintro e wz ⟨rfl, hb⟩; have HN := Aside0.mk (HM.out.step hb); clear HM hb; have HM := HN; clear HN; have r0 := (et_cells (HM.out.at_ 1 rfl)).1; have r1 := (et_cells (HM.out.at_ 1 rfl)).2; obtain ⟨k0, k1, k2, k3, k4, k5⟩ := mt_cells (HM.out.at_ 0 rfl))
      | (go_at_call 11; (with_reducible refine Calls.mono (C11.out _ HM.out.below) ?_); rintro e wy ⟨v0, rfl, hS, hb⟩; obtain ⟨Ao, co, rfl⟩ := Kd.S_slice hS; have hC := Aside0.mk (Kd.S_reads' hS).2.2; have hc := Aside0.mk (Kd.S_reads' hS).2.1; have HN := Aside0.mk (HM.out.step hb); clear HM hb hS r0 r1 k0 k1 k2 k3 k4 k5; have HM := HN; clear HN; have KM := Aside0.mk fun (W : World) (hb : Below wy.heap.size wy W) => mt_cells (g := w.heap.size + 1) (t := 26) ((hb.block _ (HM.out.lt 0 rfl)).trans (HM.out.at_ 0 rfl)); obtain ⟨k0, k1, k2, k3, k4, k5⟩ := mt_cells (HM.out.at_ 0 rfl); have klt := HM.out.lt 0 rfl; have HE := Aside0.mk ((Mem.start wy).new (et 30 Ao le.length co sc)))
      | (go_at_call 12; (with_reducible refine Calls.mono (C12.out _ Ao co (Kd.C_below hC.out HE.out.below) hc.out) ?_); rintro e wd ⟨rfl, hb⟩; have HN := Aside0.mk (HE.out.step hb); clear HE hb; (try clear e0); (try clear e1); (try clear k0); (try clear k1); (try clear k2); (try clear k3); (try clear k4); (try clear k5); have HE := HN; clear HN; obtain ⟨e0, e1⟩ := et_cells (HE.out.blk (wy.heap.size, et 30 Ao le.length co sc) (by simp)).1; obtain ⟨k0, k1, k2, k3, k4, k5⟩ := KM.out _ HE.out.below))
  go_ret
  exact ⟨rfl, below_step HM.out.below HE.out.below⟩
/-- So many spaces behind a text; the text with n more of them behind each one, its first i bytes. -/
def spc (b : ByteArray) : Nat → ByteArray
  | 0 => b
  | k + 1 => spc b k ++ ⟨#[32]⟩
def wid (tx : ByteArray) (n : Nat) : Nat → ByteArray
  | 0 => ⟨#[]⟩
  | i + 1 => spc (wid tx n i ++ tx.extract i (i + 1)) (if bt tx (i : Int) = 32 then n else 0)
theorem spc_size (b : ByteArray) : ∀ k, (spc b k).size = b.size + k
  | 0 => rfl
  | k + 1 => by rw [spc, ByteArray.size_append, spc_size b k]; rfl
theorem wid_size (tx : ByteArray) (n : Nat) (hn : n ≤ 4) : ∀ i, i ≤ tx.size → (wid tx n i).size ≤ 5 * i
  | 0, _ => Nat.le_refl _
  | i + 1, h => by
    have := wid_size tx n hn i (by omega)
    rw [wid, spc_size, ByteArray.size_append, ByteArray.size_extract]
    split <;> omega
set_option maxHeartbeats 8000000 in
theorem spaces_c (A0_0 : Option Addr) (c0_0 : Nat) (l0_0 : List (List S53)) (a0_1 : Bool) (a1_0 a1_1 a1_2 a1_3 a1_4 a1_5 a2 : Int) (w : World) (le : List (List S54)) (sc b : Bool) (tx : ByteArray) (n : Nat) (x1 x2 x3 x4 x5 x6 : Int) (C10 : Aside0 (∀ W, Below w.heap.size w W → Calls Tryz.prog 10 #[.agg #[.slice A0_0 l0_0.length c0_0, .bool a0_1]] W fun e w' => e = .returned (.bool true) ∧ Below W.heap.size W w')) (C11 : Aside0 (∀ W, Below w.heap.size w W → Calls Tryz.prog 11 #[.agg #[.slice A0_0 l0_0.length c0_0, .bool a0_1]] W fun e w' => ∃ v0_ : Value, e = .returned (.agg #[v0_, .bool sc]) ∧ Kd.S (Kd.slice 54 k54) 51 w' W.heap.size (fun _ => True) v0_ le ∧ Below W.heap.size W w')) (C12 : Aside0 (∀ W Ao co, Kd.C (Kd.slice 54 k54) W Ao le.length le → le.length ≤ co → Calls Tryz.prog 12 #[.agg #[.slice Ao le.length co, .bool sc], .agg #[.int .i64 a1_0, .int .i64 a1_1, .int .i64 a1_2, .int .i64 a1_3, .int .i64 a1_4, .int .i64 a1_5]] W fun e w' => e = .returned (.bool true) ∧ Below W.heap.size W w'))
    (hn : (n : Int) = a2.tmod 5) (hn4 : n ≤ 4) (hsz : tx.size ≤ 1000000000000)
    (C16 : Aside0 (∀ W Ao co, Kd.C (Kd.slice 54 k54) W Ao le.length le → le.length ≤ co → Calls Tryz.prog 16 #[.agg #[.slice Ao le.length co, .bool sc]] W fun e w' => e = .returned (.string tx) ∧ Below W.heap.size W w'))
    (C21 : Aside0 (∀ W, Calls Tryz.prog 21 #[.string tx, .agg #[.int .i64 a1_0, .int .i64 a1_1, .int .i64 a1_2, .int .i64 a1_3, .int .i64 a1_4, .int .i64 a1_5]] W fun e w' => e = .returned (.tuple #[.bool b, .bool true]) ∧ Below W.heap.size W w'))
    (C21b : Aside0 (∀ W, Calls Tryz.prog 21 #[.string (wid tx n tx.size), .agg #[.int .i64 a1_0, .int .i64 a1_1, .int .i64 a1_2, .int .i64 a1_3, .int .i64 a1_4, .int .i64 a1_5]] W fun e w' => e = .returned (.tuple #[.bool b, .bool true]) ∧ Below W.heap.size W w'))
    (C15 : Aside0 (∀ W, Below w.heap.size w W → Calls Tryz.prog 15 #[.string (wid tx n tx.size), .agg #[.int .i64 a1_0, .int .i64 a1_1, .int .i64 a1_2, .int .i64 a1_3, .int .i64 a1_4, .int .i64 a1_5], .bool false] W fun e w' => e = .returned (.tuple #[.agg #[.int .i64 x1, .int .i64 x2, .int .i64 x3, .int .i64 x4, .int .i64 x5, .int .i64 x6], .bool true]) ∧ Below W.heap.size W w'))
    (C14 : Aside0 (∀ W, Calls Tryz.prog 14 #[.agg #[.int .i64 a1_0, .int .i64 a1_1, .int .i64 a1_2, .int .i64 a1_3, .int .i64 a1_4, .int .i64 a1_5]] W fun e w' => e = .returned (.agg #[.int .i64 a1_0, .int .i64 a1_1, .int .i64 a1_2, .int .i64 a1_3, .int .i64 a1_4, .int .i64 a1_5]) ∧ Below W.heap.size W w'))
    (C13 : Aside0 (∀ W Ao co, Kd.C (Kd.slice 54 k54) W Ao le.length le → le.length ≤ co → Calls Tryz.prog 13 #[.agg #[.slice Ao le.length co, .bool sc], .agg #[.int .i64 a1_0, .int .i64 a1_1, .int .i64 a1_2, .int .i64 a1_3, .int .i64 a1_4, .int .i64 a1_5], .bool false] W fun e w' => e = .returned (.tuple #[.agg #[.int .i64 x1, .int .i64 x2, .int .i64 x3, .int .i64 x4, .int .i64 x5, .int .i64 x6], .bool true]) ∧ Below W.heap.size W w'))
    (C17 : Aside0 (∀ W, Calls Tryz.prog 17 #[.agg #[.int .i64 x1, .int .i64 x2, .int .i64 x3, .int .i64 x4, .int .i64 x5, .int .i64 x6], .bool true, .agg #[.int .i64 x1, .int .i64 x2, .int .i64 x3, .int .i64 x4, .int .i64 x5, .int .i64 x6], .bool true] W fun e w' => e = .returned (.bool true) ∧ Below W.heap.size W w')) :
    Calls Tryz.prog 8 #[.agg #[.slice A0_0 l0_0.length c0_0, .bool a0_1], .agg #[.int .i64 a1_0, .int .i64 a1_1, .int .i64 a1_2, .int .i64 a1_3, .int .i64 a1_4, .int .i64 a1_5], .int .u8 a2] w fun e w' => e = .returned (.bool true) ∧ Below w.heap.size w w' := by
  have hu24 := Tryz.underlying24
  have hu26 := Tryz.underlying26
  have hu30 := Tryz.underlying30
  have hu33 := Tryz.underlying33
  have HM := Aside0.mk (((Mem.start w).new (et 24 A0_0 l0_0.length c0_0 a0_1)).new (mt 26 a1_0 a1_1 a1_2 a1_3 a1_4 a1_5))
  rw [World.size_alloc] at HM
  have HN4 := Aside0.mk hn4
  have HSZ := Aside0.mk hsz
  have HA2 := Aside0.mk hn
  clear hn hn4 hsz
  go_enter Tryz.func8, Tryz.ntmps8
  go_upto_region 7 with (first
      | (go_at_call 10; (with_reducible refine Calls.mono (C10.out _ HM.out.below) ?_); rintro e wz ⟨rfl, hb⟩; have HN := Aside0.mk (HM.out.step hb); clear HM hb; have HM := HN; clear HN; have r0 := (et_cells (HM.out.at_ 1 rfl)).1; have r1 := (et_cells (HM.out.at_ 1 rfl)).2; obtain ⟨k0, k1, k2, k3, k4, k5⟩ := mt_cells (HM.out.at_ 0 rfl))
      | (go_at_call 11; (with_reducible refine Calls.mono (C11.out _ HM.out.below) ?_); rintro e wy ⟨v0, rfl, hS, hb⟩; obtain ⟨Ao, co, rfl⟩ := Kd.S_slice hS; have hC := Aside0.mk (Kd.S_reads' hS).2.2; have hc := Aside0.mk (Kd.S_reads' hS).2.1; have HN := Aside0.mk (HM.out.step hb); clear HM hb hS r0 r1 k0 k1 k2 k3 k4 k5; have HM := HN; clear HN; have KM := Aside0.mk fun (W : World) (hb : Below wy.heap.size wy W) => mt_cells (g := w.heap.size + 1) (t := 26) ((hb.block _ (HM.out.lt 0 rfl)).trans (HM.out.at_ 0 rfl)); obtain ⟨k0, k1, k2, k3, k4, k5⟩ := mt_cells (HM.out.at_ 0 rfl); have klt := HM.out.lt 0 rfl; have HE := Aside0.mk ((Mem.start wy).new (et 30 Ao le.length co sc)))
      | (go_at_call 12; (with_reducible refine Calls.mono (C12.out _ Ao co (Kd.C_below hC.out HE.out.below) hc.out) ?_); rintro e wd ⟨rfl, hb⟩; have HN := Aside0.mk (HE.out.step hb); clear HE hb; (try clear e0); (try clear e1); (try clear k0); (try clear k1); (try clear k2); (try clear k3); (try clear k4); (try clear k5); have HE := HN; clear HN; obtain ⟨e0, e1⟩ := et_cells (HE.out.blk (wy.heap.size, et 30 Ao le.length co sc) (by simp)).1; obtain ⟨k0, k1, k2, k3, k4, k5⟩ := KM.out _ HE.out.below)
      | (go_at_call 16; (with_reducible refine Calls.mono (C16.out _ Ao co (Kd.C_below hC.out HE.out.below) hc.out) ?_); rintro e wd ⟨rfl, hb⟩; have HN := Aside0.mk (HE.out.step hb); clear HE hb; (try clear e0); (try clear e1); (try clear k0); (try clear k1); (try clear k2); (try clear k3); (try clear k4); (try clear k5); have HE := HN; clear HN; obtain ⟨e0, e1⟩ := et_cells (HE.out.blk (wy.heap.size, et 30 Ao le.length co sc) (by simp)).1; obtain ⟨k0, k1, k2, k3, k4, k5⟩ := KM.out _ HE.out.below))
  clear C10 C11 C12 C16
  go_wp2
  go_loopg [9, 33] tx.size (fun kq v9 v33 w' => ∃ i : Nat, v9 = .string (wid tx n i) ∧ v33 = .int .i64 (i : Int) ∧ Aside0 (i + kq = tx.size) ∧ Aside0 (Mem wy [(wy.heap.size, et 30 Ao le.length co sc)] w'))
  case atStart => exact ⟨0, rfl, rfl, ⟨Nat.zero_add _⟩, HE⟩
  case round =>
    clear HE e0 e1 k0 k1 k2 k3 k4 k5
    obtain ⟨i, rfl, rfl, HK, HE⟩ := hrel
    by_cases c : (i : Int) < (tx.size : Int)
    case pos =>
      rcases gk with _ | gq
      · have := HK.out; omega
      have cb := decide_eq_true c
      have c0 : ((i : Int) < (tx.size : Int)) = True := eq_true c
      have c1 : (0 ≤ (i : Int)) = True := eq_true (by omega)
      have hi1 : wrap64 ((i : Int) + 1) = (i : Int) + 1 := w64' _ (by omega) (by have := HSZ.out; omega)
      have c2 : ((i : Int) + 1 ≤ (tx.size : Int)) = True := eq_true (by omega)
      have c3 : ((i : Int) ≤ (i : Int) + 1) = True := eq_true (by omega)
      have hs1 := wid_size tx n HN4.out i (by omega)
      have c4 : (9223372036854775807 < (wid tx n i).size + (min (i + 1) tx.size - i)) = False := eq_false (by have := HSZ.out; omega)
      have hx : ∀ h : i < tx.size, ((tx[i]'h).toNat : Int) = bt tx (i : Int) := fun h => bt_at tx (i : Int) (by simpa using h)
      have HS := Aside0.mk hs1
      have HC := Aside0.mk c
      clear hs1 c
      go_wp2
      simp only [hi1]
      go_loopg [9, 11] 6 (fun kq v9 v11 w' => ∃ j : Nat, v9 = .string (spc (wid tx n i ++ tx.extract i (i + 1)) j) ∧ v11 = .int .u8 (j : Int) ∧ Aside0 (j ≤ (if bt tx (i : Int) = 32 then n else 0)) ∧ Aside0 (j + kq = 6) ∧ Aside0 (Mem wy [(wy.heap.size, et 30 Ao le.length co sc)] w'))
      case atStart => exact ⟨0, rfl, rfl, ⟨Nat.zero_le _⟩, ⟨rfl⟩, HE⟩
      case round =>
        clear HE
        obtain ⟨j, rfl, rfl, HJ, HK2, HE⟩ := hrel
        rcases gk with _ | gr
        · exfalso
          have h1 := HJ.out; have h2 := HK2.out; have h3 := HN4.out
          split at h1 <;> omega
        by_cases c5 : bt tx (i : Int) = 32
        case neg =>
          have c5b : (bt tx (i : Int) == 32) = false := beq_eq_false_iff_ne.mpr c5
          obtain rfl : j = 0 := by have h1 := HJ.out; rw [if_neg c5] at h1; omega
          have C5 := Aside0.mk c5
          clear c5
          go_wp2
          go_roundg gq
          case measure => omega
          case rel => exact ⟨i + 1, by rw [wid, if_neg C5.out], by rw [hi1]; rfl, ⟨by have := HK.out; omega⟩, HE⟩
        case pos =>
          have c5b : (bt tx (i : Int) == 32) = true := beq_iff_eq.mpr c5
          have C5 := Aside0.mk c5
          clear c5
          by_cases c6 : j < n
          case pos =>
            have c6b : ((j : Int) < a2.tmod 5) = True := eq_true (by have := HA2.out; omega)
            have c7 : (9223372036854775807 < (spc (wid tx n i ++ tx.extract i (i + 1)) j).size + 1) = False := eq_false (by
              have h1 := HS.out; have h2 := HSZ.out; have h3 := HN4.out; have h4 := HC.out
              rw [spc_size, ByteArray.size_append, ByteArray.size_extract]; omega)
            have C6 := Aside0.mk c6
            clear c6
            go_wp2
            go_roundg gr
            case measure => omega
            case rel => exact ⟨j + 1, rfl, by rw [show ((j : Int) + 1) % 256 = ((j + 1 : Nat) : Int) by have := C6.out; have := HN4.out; omega], ⟨by rw [if_pos C5.out]; exact C6.out⟩, ⟨by have := HK2.out; omega⟩, HE⟩
          case neg =>
            have c6b : ((j : Int) < a2.tmod 5) = False := eq_false (by have := HA2.out; omega)
            have C6 := Aside0.mk c6
            clear c6
            go_wp2
            go_roundg gq
            case measure => omega
            case rel =>
              obtain rfl : j = n := by have h1 := HJ.out; rw [if_pos C5.out] at h1; have := C6.out; omega
              exact ⟨i + 1, by rw [wid, if_pos C5.out], by rw [hi1]; rfl, ⟨by have := HK.out; omega⟩, HE⟩
    case neg =>
      have cb := decide_eq_false c
      obtain rfl : i = tx.size := by have := HK.out; omega
      clear c
      obtain ⟨e0, e1⟩ := et_cells (HE.out.at_ 0 rfl)
      obtain ⟨k0, k1, k2, k3, k4, k5⟩ := KM.out _ HE.out.below
      have BW := Aside0.mk fun (W : World) (hb : Below wy.heap.size wy W) => below_step HM.out.below hb
      have CL := Aside0.mk fun (W : World) (hb : Below wy.heap.size wy W) => Kd.C_below hC.out hb
      have hcC := hc.out
      go_upto_region 18 with (first
      | (go_at_call 21; (with_reducible refine Calls.mono (C21.out _) ?_); rintro e wd ⟨rfl, hb⟩; have HN := Aside0.mk (HE.out.step hb); clear HE hb; (try clear e0); (try clear e1); (try clear k0); (try clear k1); (try clear k2); (try clear k3); (try clear k4); (try clear k5); have HE := HN; clear HN; obtain ⟨e0, e1⟩ := et_cells (HE.out.blk (wy.heap.size, et 30 Ao le.length co sc) (by simp)).1; obtain ⟨k0, k1, k2, k3, k4, k5⟩ := KM.out _ HE.out.below)
      | (go_at_call 21; (with_reducible refine Calls.mono (C21b.out _) ?_); rintro e wd ⟨rfl, hb⟩; have HN := Aside0.mk (HE.out.step hb); clear HE hb; (try clear e0); (try clear e1); (try clear k0); (try clear k1); (try clear k2); (try clear k3); (try clear k4); (try clear k5); have HE := HN; clear HN; obtain ⟨e0, e1⟩ := et_cells (HE.out.blk (wy.heap.size, et 30 Ao le.length co sc) (by simp)).1; obtain ⟨k0, k1, k2, k3, k4, k5⟩ := KM.out _ HE.out.below))
      go_cut [16, 17] (fun s16 s17 wc => ∃ g, s16 = .pointer (some ⟨g, 0, none⟩) ∧ s17 = .bool true ∧ Aside0 (Mem wy [(g, mt 26 x1 x2 x3 x4 x5 x6), (wy.heap.size, et 30 Ao le.length co sc)] wc))
      case first =>
        go_wp2_with (first
      | (go_at_call 15; (with_reducible refine Calls.mono (C15.out _ (below_step HM.out.below HE.out.below)) ?_); rintro e wn ⟨rfl, hb⟩; have HN := Aside0.mk ((HE.out.step hb).new (mt 26 x1 x2 x3 x4 x5 x6)); clear HE hb; (try clear e0); (try clear e1); (try clear k0); (try clear k1); (try clear k2); (try clear k3); (try clear k4); (try clear k5); have HE := HN; clear HN; obtain ⟨e0, e1⟩ := et_cells (HE.out.blk (wy.heap.size, et 30 Ao le.length co sc) (by simp)).1; obtain ⟨k0, k1, k2, k3, k4, k5⟩ := KM.out _ HE.out.below))
        go_meet
        exact ⟨_, rfl, rfl, HE⟩
      case rest =>
      clear HM HE e0 e1 k0 k1 k2 k3 k4 k5
      obtain ⟨g16, rfl, rfl, HE⟩ := hcut
      go_upto_region 19 with fail
      have KS := Aside0.mk fun (W : World) (L : List (Nat × Obj)) (i : Nat) (hm : Mem wy L W) (hi : L[i]? = some (wy.heap.size, et 30 Ao le.length co sc)) => (⟨(et_cells (hm.at_ i hi)).1, (et_cells (hm.at_ i hi)).2, KM.out W hm.below⟩ : W.cell? ⟨wy.heap.size, 0, none⟩ = some (.slice Ao le.length co) ∧ W.cell? ⟨wy.heap.size, 1, none⟩ = some (.bool sc) ∧ W.cell? ⟨w.heap.size + 1, 0, none⟩ = some (.int .i64 a1_0) ∧ W.cell? ⟨w.heap.size + 1, 1, none⟩ = some (.int .i64 a1_1) ∧ W.cell? ⟨w.heap.size + 1, 2, none⟩ = some (.int .i64 a1_2) ∧ W.cell? ⟨w.heap.size + 1, 3, none⟩ = some (.int .i64 a1_3) ∧ W.cell? ⟨w.heap.size + 1, 4, none⟩ = some (.int .i64 a1_4) ∧ W.cell? ⟨w.heap.size + 1, 5, none⟩ = some (.int .i64 a1_5))
      have KS1 := Aside0.mk fun (W : World) (q : Nat × Obj) (hm : Mem wy [q, (wy.heap.size, et 30 Ao le.length co sc)] W) => KS.out W _ 1 hm rfl
      have KS2 := Aside0.mk fun (W : World) (q r : Nat × Obj) (hm : Mem wy [q, r, (wy.heap.size, et 30 Ao le.length co sc)] W) => KS.out W _ 2 hm rfl
      go_cut [18, 19] (fun s18 s19 wc => ∃ g, s18 = .pointer (some ⟨g, 0, none⟩) ∧ s19 = .bool true ∧ Aside0 (Mem wy [(g, mt 33 x1 x2 x3 x4 x5 x6), (g16, mt 26 x1 x2 x3 x4 x5 x6), (wy.heap.size, et 30 Ao le.length co sc)] wc))
      case first =>
        go_region_held3 (fun w' => w'.cell? ⟨wy.heap.size, 0, none⟩ = some (.slice Ao le.length co) ∧ w'.cell? ⟨wy.heap.size, 1, none⟩ = some (.bool sc) ∧ w'.cell? ⟨w.heap.size + 1, 0, none⟩ = some (.int .i64 a1_0) ∧ w'.cell? ⟨w.heap.size + 1, 1, none⟩ = some (.int .i64 a1_1) ∧ w'.cell? ⟨w.heap.size + 1, 2, none⟩ = some (.int .i64 a1_2) ∧ w'.cell? ⟨w.heap.size + 1, 3, none⟩ = some (.int .i64 a1_3) ∧ w'.cell? ⟨w.heap.size + 1, 4, none⟩ = some (.int .i64 a1_4) ∧ w'.cell? ⟨w.heap.size + 1, 5, none⟩ = some (.int .i64 a1_5))
          (first | ((with_reducible show World.cell? (World.setCell _ _ _) _ = _ ∧ _); with_reducible exact KS2.out _ _ _ (Mem.put6 HE.out _ _ _ _ _ _)) | with_reducible exact KS1.out _ _ HE.out.drew | with_reducible exact KS1.out _ _ HE.out | with_reducible exact KS2.out _ _ _ HE.out | with_reducible exact KS2.out _ _ _ (HE.out.new _) | with_reducible exact KS2.out _ _ _ (HE.out.newD _))
          (first
            | (go_at_call 14; (with_reducible refine Calls.mono (C14.out _) ?_); rintro e wd ⟨rfl, hb⟩; (first | have HN := Aside0.mk (HE.out.step hb) | have HN := Aside0.mk (HE.out.drew.step hb) | have HN := Aside0.mk ((HE.out.drewN _).step hb) | have HN := Aside0.mk ((HE.out.new _).step hb) | have HN := Aside0.mk ((HE.out.newD _).step hb)); clear HE hb; have HE := HN; clear HN; (try obtain ⟨f0, f1, f2, f3, f4, f5⟩ := mt_frozen (HE.out.at_ 0 rfl)); (try have flt := HE.out.lt 0 rfl); (try dsimp only at f0 f1 f2 f3 f4 f5 flt); (try obtain ⟨z0, z1, z2, z3, z4, z5⟩ := mt_cells (HE.out.at_ 0 rfl)); (try dsimp only at z0 z1 z2 z3 z4 z5))
            | (go_at_call 13; (first | with_reducible refine Calls.mono (C13.out _ Ao co (CL.out _ HE.out.below) hcC) ?_ | with_reducible refine Calls.mono (C13.out _ Ao co (CL.out _ HE.out.drew.below) hcC) ?_ | with_reducible refine Calls.mono (C13.out _ Ao co (CL.out _ (HE.out.drewN _).below) hcC) ?_ | with_reducible refine Calls.mono (C13.out _ Ao co (CL.out _ (HE.out.alloc _).below) hcC) ?_ | with_reducible refine Calls.mono (C13.out _ Ao co (CL.out _ (HE.out.drew.alloc _).below) hcC) ?_ | with_reducible refine Calls.mono (C13.out _ Ao co (CL.out _ (HE.out.alloc _).drew.below) hcC) ?_); rintro e wd ⟨rfl, hb⟩; (first | have HN := Aside0.mk (HE.out.step hb) | have HN := Aside0.mk (HE.out.drew.step hb) | have HN := Aside0.mk ((HE.out.drewN _).step hb) | have HN := Aside0.mk ((HE.out.new _).step hb) | have HN := Aside0.mk ((HE.out.newD _).step hb)); clear HE hb; have HE := HN; clear HN; (try obtain ⟨f0, f1, f2, f3, f4, f5⟩ := mt_frozen (HE.out.at_ 0 rfl)); (try have flt := HE.out.lt 0 rfl); (try dsimp only at f0 f1 f2 f3 f4 f5 flt); (try obtain ⟨z0, z1, z2, z3, z4, z5⟩ := mt_cells (HE.out.at_ 0 rfl)); (try dsimp only at z0 z1 z2 z3 z4 z5)))
        all_goals (go_wp2_with fail; go_meet; exact ⟨_, rfl, rfl, ⟨by first | with_reducible exact HE.out.new _ | with_reducible exact HE.out.newD _ | with_reducible exact Mem.put6 HE.out _ _ _ _ _ _⟩⟩)
      case rest =>
      obtain ⟨g18, rfl, rfl, HE⟩ := hcut
      obtain ⟨k0, k1, k2, k3, k4, k5⟩ := mt_cells (HE.out.at_ 1 rfl)
      obtain ⟨j0, j1, j2, j3, j4, j5⟩ := mt_cells (HE.out.at_ 0 rfl)
      go_wp2_with (first | (go_at_call 17; (with_reducible refine Calls.mono (C17.out _) ?_); rintro e wd ⟨rfl, hb⟩; have HB := BW.out _ (HE.out.step hb).below))
      go_ret
      exact ⟨rfl, HB⟩
end Go.Proofs.YtjpcdkhapeejjaaGreatDoor.A
