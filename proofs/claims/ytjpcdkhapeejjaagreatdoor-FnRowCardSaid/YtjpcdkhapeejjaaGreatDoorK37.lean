/- Steps of the proof of the law: contracts of functions of the given program, and plain lemmas about what they compute.
Conditions: none beyond those that each theorem names. -/
import Derived.Test.YtjpcdkhapeejjaaGreatDoorK34
import Derived.Test.YtjpcdkhapeejjaaGreatDoorK36
set_option linter.unusedVariables false
set_option linter.unusedSimpArgs false
open Go.RowKit Go.Proofs.YtjpcdkhapeejjaaGreatDoorW.PrintWords Go.Proofs.YtjpcdkhapeejjaaGreatDoorW.PrintLast Go.Proofs.YtjpcdkhapeejjaaGreatDoorW.PrintMore
namespace Go.Proofs.YtjpcdkhapeejjaaGreatDoor.A
open Cal
set_option maxRecDepth 100000
attribute [local go_sem] hset_drewN halloc_drewN
def utcB : ByteArray := ⟨#[85, 84, 67]⟩
theorem locabs_any (s : Int) (w : World) (h : InR s) :
    Calls Tryz.prog 139 #[.agg #[.int .u64 0, .int .i64 s, .pointer none]] w fun e w' => e = .returned (.tuple #[.string utcB, .int .i64 0, .int .u64 (s + 9223371966606163200)]) ∧ Below w.heap.size w w' := by
  obtain ⟨h0, h1⟩ := h
  have hu63 := Tryz.underlying63
  have hbz := bzne
  go_enter Tryz.func139, Tryz.ntmps139
  go_wp2
  go_ret3
  refine ⟨?_, by repeat (with_reducible first | exact Below.refl _ _ | apply below_alloc | apply pw_below_drewN | apply below_drew1)⟩
  show Ending.returned (.tuple #[.string utcB, .int .i64 0, .int .u64 (s + -62135596800 + 9223372028741760000)]) = _
  rw [show s + -62135596800 + 9223372028741760000 = s + 9223371966606163200 from by omega]
end Go.Proofs.YtjpcdkhapeejjaaGreatDoor.A
