/- Steps of the proof of the law: contracts of functions of the given program, and plain lemmas about what they compute.
Conditions: none beyond those that each theorem names. -/
import Derived.Test.YtjpcdkhapeejjaaGreatDoorK38
set_option linter.unusedVariables false
set_option linter.unusedSimpArgs false
open Go.RowKit Go.Proofs.YtjpcdkhapeejjaaGreatDoorW.PrintWords Go.Proofs.YtjpcdkhapeejjaaGreatDoorW.PrintLast Go.Proofs.YtjpcdkhapeejjaaGreatDoorW.PrintMore
namespace Go.Proofs.YtjpcdkhapeejjaaGreatDoor.A
open Cal
set_option maxRecDepth 100000
attribute [local go_sem] hset_drewN halloc_drewN
def fmtB (s : Int) : ByteArray := strOfNums (fmtL s)
set_option maxHeartbeats 4000000 in
theorem AppendFormat_any (s : Int) (v : Value) (w0 W : World) (h : InR s) (hS : StdAt w0) (hO : Buf w0 W v []) (hB : Below w0.heap.size w0 W) :
    Calls Tryz.prog 100 #[.agg #[.int .u64 0, .int .i64 s, .pointer none], v, .string L1] W fun e w' => ∃ v' : Value, e = .returned v' ∧ Buf w0 w' v' (fmtL s) ∧ Below w0.heap.size w0 w' := by
  have hu63 := Tryz.underlying63
  have HI := Aside0.mk h
  have HS := Aside0.mk hS
  have HO := Aside0.mk (hO.alloc (tb s))
  have HB := Aside0.mk (below_alloc hB (tb s))
  unfold tb at HO HB
  have HM := Aside0.mk ((Mem.start W).new (tb s))
  unfold tb at HM
  obtain ⟨⟨c0, c1, c2⟩, _, _⟩ := HM.out.c3 0 rfl
  clear h hS hO hB
  have p1 : (L1.toList == ([50, 48, 48, 54, 45, 48, 49, 45, 48, 50, 84, 49, 53, 58, 48, 52, 58, 48, 53, 90, 48, 55, 58, 48, 48] : List UInt8)) = false := by rw [Go.ByteArray.toList_eq]; decide
  have p2 : (L1.toList == ([50, 48, 48, 54, 45, 48, 49, 45, 48, 50, 84, 49, 53, 58, 48, 52, 58, 48, 53, 46, 57, 57, 57, 57, 57, 57, 57, 57, 57, 90, 48, 55, 58, 48, 48] : List UInt8)) = false := by rw [Go.ByteArray.toList_eq]; decide
  go_enter Tryz.func100, Tryz.ntmps100
  go_wp2_with (first
    | (go_at_call 127; (with_reducible refine (appendFormat_any s v w0 _ HI.out HS.out HO.out HB.out).mono ?_); rintro e w' ⟨v', rfl, ho, hb⟩))
  go_ret
  exact ⟨_, rfl, ho, hb⟩
theorem Buf_new (w0 W1 : World) (cur : Array Value) (hb : w0.heap.size ≤ W1.heap.size) (hn : cur.size = 64) : Buf w0 (W1.alloc (.cells cur 164 (0, 0))) (.slice (some ⟨W1.heap.size, 0, none⟩) 0 64) [] :=
  ⟨_, cur, rfl, hb, heap_alloc_new _ _, hn, rfl⟩
set_option maxHeartbeats 1000000 in
theorem Format_any (s : Int) (W : World) (h : InR s) (hS : StdAt W) :
    Calls Tryz.prog 71 #[.agg #[.int .u64 0, .int .i64 s, .pointer none], .string L1] W fun e w' => e = .returned (.string (fmtB s)) ∧ Below W.heap.size W w' := by
  have hu63 := Tryz.underlying63
  have HI := Aside0.mk h
  have HS := Aside0.mk hS
  clear h hS
  have z1 : (L1.size : Int) = 19 := rfl
  have HR := Aside0.mk (fun (cur : Array Value) (hc : cur.size = 64) => Buf_new W (W.alloc (tb s)) cur (by rw [World.size_alloc]; omega) hc)
  rw [World.size_alloc] at HR
  have HB := Aside0.mk (fun cur : Array Value => below_alloc (below_alloc (Below.refl W.heap.size W) (tb s)) (.cells cur 164 (0, 0)))
  unfold tb at HR HB
  go_enter Tryz.func71, Tryz.ntmps71
  go_wp2_with (first
    | (go_at_call 100; ((with_reducible refine (AppendFormat_any s _ W _ HI.out HS.out (HR.out _ (by kernel_rfl)) (HB.out _)).mono ?_); rintro e w' ⟨v', rfl, ho, hb⟩; obtain ⟨Ao, rfl, hc⟩ := ho.c; have hcv := Kd.C_string (P := Tryz.prog) (c := 64) Tryz.underlying163 Tryz.underlying5 Tryz.underlying9 hc; clear ho hc HR HB)))
  go_ret
  exact ⟨rfl, hb⟩
end Go.Proofs.YtjpcdkhapeejjaaGreatDoor.A
