/- Steps of the proof of the law: contracts of functions of the given program, and plain lemmas about what they compute.
Conditions: none beyond those that each theorem names. -/
import Derived.Test.YtjpcdkhapeejjaaGreatDoorK11
import Derived.Test.YtjpcdkhapeejjaaGreatDoorK37
set_option linter.unusedVariables false
set_option linter.unusedSimpArgs false
open Go.RowKit Go.Proofs.YtjpcdkhapeejjaaGreatDoorW.PrintWords Go.Proofs.YtjpcdkhapeejjaaGreatDoorW.PrintLast Go.Proofs.YtjpcdkhapeejjaaGreatDoorW.PrintMore
namespace Go.Proofs.YtjpcdkhapeejjaaGreatDoor.A
open Cal
set_option maxRecDepth 100000
attribute [local go_sem] hset_drewN halloc_drewN
def two (u : Int) : List Int := [48 + u / 10, 48 + u % 10]
def four (u : Int) : List Int := [48 + u / 1000, 48 + u / 100 % 10, 48 + u / 10 % 10, 48 + u % 10]
def fmtL (s : Int) : List Int := ([] : List Int) ++ four (yearS s) ++ bytesOf hyB ++ two (monS s) ++ bytesOf hyB ++ two (dayS s) ++ bytesOf spB ++ two (hourS s) ++ bytesOf coB ++ two (minS s) ++ bytesOf coB ++ two (secS s)
set_option maxHeartbeats 16000000 in
theorem appendFormat_any (s : Int) (v : Value) (w0 W : World) (h : InR s) (hS : StdAt w0) (hO : Buf w0 W v []) (hB : Below w0.heap.size w0 W) :
    Calls Tryz.prog 127 #[.agg #[.int .u64 0, .int .i64 s, .pointer none], v, .string L1] W fun e w' => ∃ v' : Value, e = .returned v' ∧ Buf w0 w' v' (fmtL s) ∧ Below w0.heap.size w0 w' := by
  have hu63 := Tryz.underlying63
  have hE := eS_bd s h
  have A78 := Aside0.mk (days_f s h)
  have A79 := Aside0.mk (date_f (eS s) hE.1 hE.2)
  have A80 := Aside0.mk (clock_f s h)
  have BY := Aside0.mk (year_bd s h)
  have BM := Aside0.mk (mon_bd s)
  have BD := Aside0.mk (day_bd s)
  have BH := Aside0.mk (hour_bd s)
  have BN := Aside0.mk (min_bd s)
  have BS := Aside0.mk (sec_bd s)
  have y0 : decide (yearS s < 0) = false := decide_eq_false (by have := year_bd s h; omega)
  have y1 : decide (hourS s < 0) = false := decide_eq_false (by have := hour_bd s; omega)
  have HI := Aside0.mk h
  have HS := Aside0.mk hS
  have HO := Aside0.mk hO
  have HB := Aside0.mk hB
  clear h hS hO hB hE
  change Aside0 (gotime_absDays_date.f (eS s + 106751990353932) = some (yearS s, monS s, dayS s)) at A79
  have pe : ByteArray.empty.toList.isEmpty = true := by rw [Go.ByteArray.toList_eq]; decide
  have pL1 : L1.toList.isEmpty = false := by rw [Go.ByteArray.toList_eq]; decide
  have pL2 : L2.toList.isEmpty = false := by rw [Go.ByteArray.toList_eq]; decide
  have pL3 : L3.toList.isEmpty = false := by rw [Go.ByteArray.toList_eq]; decide
  have pL4 : L4.toList.isEmpty = false := by rw [Go.ByteArray.toList_eq]; decide
  have pL5 : L5.toList.isEmpty = false := by rw [Go.ByteArray.toList_eq]; decide
  have pL6 : L6.toList.isEmpty = false := by rw [Go.ByteArray.toList_eq]; decide
  have phyB : hyB.toList.isEmpty = false := by rw [Go.ByteArray.toList_eq]; decide
  have pspB : spB.toList.isEmpty = false := by rw [Go.ByteArray.toList_eq]; decide
  have pcoB : coB.toList.isEmpty = false := by rw [Go.ByteArray.toList_eq]; decide
  have pL7 : L7.toList.isEmpty = true := by rw [Go.ByteArray.toList_eq]; decide
  go_enter Tryz.func127, Tryz.ntmps127
  go_wp2_with (first
    | (go_at_call 139; (with_reducible refine (locabs_any s _ HI.out).mono ?_); rintro e w1 ⟨rfl, hb⟩; have n1 := Aside0.mk (below_step (below_alloc HB.out _) hb); have n2 := Aside0.mk ((HO.out.alloc _).below hb); clear HB HO hb; have HB := n1; have HO := n2; clear n1 n2)
    | (go_at_call 78; (with_reducible refine (gotime_absSeconds_days.calls _ _ _ A78.out).mono ?_); rintro e w' ⟨rfl, ⟨nd, rfl⟩⟩))
  refine wp_loop_rounds 7 ?_
  rw [rounds_succ]
  go_wp2_with (first
    | (go_at_call 144; (with_reducible refine (chunk1 _ (by first | exact StdAt.below HS.out HB.out | exact StdAt.below HS.out (pw_below_drewN HB.out _))).mono ?_); rintro e w' ⟨rfl, ⟨nd, rfl⟩⟩; skip)
    | (go_at_call 79; (with_reducible refine (gotime_absDays_date.calls _ _ _ _ _ A79.out).mono ?_); rintro e w' ⟨rfl, ⟨nd, rfl⟩⟩; skip)
    | (go_at_call 140; ((with_reducible refine (appendInt4 v ([] : List Int) (yearS s) w0 _ (by have := BY.out; omega) (by have := BY.out; omega) (by first | exact HO.out | exact HO.out.drewN _) (by first | exact HB.out | exact pw_below_drewN HB.out _) (by simp [four, two, bytesOf]; try decide)).mono ?_); rintro e w' ⟨y0v, rfl, ho, hb⟩; have n1 := Aside0.mk hb; have n2 := Aside0.mk (show Buf w0 w' y0v (([] : List Int) ++ four (yearS s)) from ho); clear HB HO ho hb; have HB := n1; have HO := n2; clear n1 n2)))
  have LEN1 := Aside0.mk (show ((([] : List Int) ++ four (yearS s))).length + hyB.size ≤ 64 from by simp [four, two, bytesOf]; decide)
  rw [rounds_succ]
  go_wp2_with (first
    | (go_at_call 144; (with_reducible refine (chunk2 _ (by first | exact StdAt.below HS.out HB.out | exact StdAt.below HS.out (pw_below_drewN HB.out _))).mono ?_); rintro e w' ⟨rfl, ⟨nd, rfl⟩⟩; skip)
    | (at_builtin; refine buf_str (w0 := w0) rfl (.tmp 47) _ rfl y0v (([] : List Int) ++ four (yearS s)) hyB rfl rfl ?aO ?aB ?aL ?_; (case aB => first | exact HB.out | exact pw_below_drewN HB.out _); (case aO => first | exact HO.out | exact HO.out.drewN _); (case aL => have := LEN1.out; omega); intro x1 w13 ho hb; have n0_ := Aside0.mk hb; have n1_ := Aside0.mk ho; clear HB HO; have HB := n0_; have HO := n1_; clear n0_ n1_; clear ho hb)
    | (go_at_call 140; ((with_reducible refine (appendInt2 x1 ((([] : List Int) ++ four (yearS s)) ++ bytesOf hyB) (monS s) w0 _ (by have := BM.out; omega) (by have := BM.out; omega) (by first | exact HO.out | exact HO.out.drewN _) (by first | exact HB.out | exact pw_below_drewN HB.out _) (by simp [four, two, bytesOf]; try decide)).mono ?_); rintro e w' ⟨y1v, rfl, ho, hb⟩; have n1 := Aside0.mk hb; have n2 := Aside0.mk (show Buf w0 w' y1v (((([] : List Int) ++ four (yearS s)) ++ bytesOf hyB) ++ two (monS s)) from ho); clear HB HO ho hb; have HB := n1; have HO := n2; clear n1 n2)))
  have LEN2 := Aside0.mk (show ((((([] : List Int) ++ four (yearS s)) ++ bytesOf hyB) ++ two (monS s))).length + hyB.size ≤ 64 from by simp [four, two, bytesOf]; decide)
  rw [rounds_succ]
  go_wp2_with (first
    | (go_at_call 144; (with_reducible refine (chunk3 _ (by first | exact StdAt.below HS.out HB.out | exact StdAt.below HS.out (pw_below_drewN HB.out _))).mono ?_); rintro e w' ⟨rfl, ⟨nd, rfl⟩⟩; skip)
    | (at_builtin; refine buf_str (w0 := w0) rfl (.tmp 47) _ rfl y1v (((([] : List Int) ++ four (yearS s)) ++ bytesOf hyB) ++ two (monS s)) hyB rfl rfl ?aO ?aB ?aL ?_; (case aB => first | exact HB.out | exact pw_below_drewN HB.out _); (case aO => first | exact HO.out | exact HO.out.drewN _); (case aL => have := LEN2.out; omega); intro x2 w13 ho hb; have n0_ := Aside0.mk hb; have n1_ := Aside0.mk ho; clear HB HO; have HB := n0_; have HO := n1_; clear n0_ n1_; clear ho hb)
    | (go_at_call 140; ((with_reducible refine (appendInt2 x2 ((((([] : List Int) ++ four (yearS s)) ++ bytesOf hyB) ++ two (monS s)) ++ bytesOf hyB) (dayS s) w0 _ (by have := BD.out; omega) (by have := BD.out; omega) (by first | exact HO.out | exact HO.out.drewN _) (by first | exact HB.out | exact pw_below_drewN HB.out _) (by simp [four, two, bytesOf]; try decide)).mono ?_); rintro e w' ⟨y2v, rfl, ho, hb⟩; have n1 := Aside0.mk hb; have n2 := Aside0.mk (show Buf w0 w' y2v (((((([] : List Int) ++ four (yearS s)) ++ bytesOf hyB) ++ two (monS s)) ++ bytesOf hyB) ++ two (dayS s)) from ho); clear HB HO ho hb; have HB := n1; have HO := n2; clear n1 n2)))
  have LEN3 := Aside0.mk (show ((((((([] : List Int) ++ four (yearS s)) ++ bytesOf hyB) ++ two (monS s)) ++ bytesOf hyB) ++ two (dayS s))).length + spB.size ≤ 64 from by simp [four, two, bytesOf]; decide)
  rw [rounds_succ]
  go_wp2_with (first
    | (go_at_call 144; (with_reducible refine (chunk4 _ (by first | exact StdAt.below HS.out HB.out | exact StdAt.below HS.out (pw_below_drewN HB.out _))).mono ?_); rintro e w' ⟨rfl, ⟨nd, rfl⟩⟩; skip)
    | (go_at_call 80; (with_reducible refine (gotime_absSeconds_clock.calls _ _ _ _ _ A80.out).mono ?_); rintro e w' ⟨rfl, ⟨nd, rfl⟩⟩; skip)
    | (at_builtin; refine buf_str (w0 := w0) rfl (.tmp 47) _ rfl y2v (((((([] : List Int) ++ four (yearS s)) ++ bytesOf hyB) ++ two (monS s)) ++ bytesOf hyB) ++ two (dayS s)) spB rfl rfl ?aO ?aB ?aL ?_; (case aB => first | exact HB.out | exact pw_below_drewN HB.out _); (case aO => first | exact HO.out | exact HO.out.drewN _); (case aL => have := LEN3.out; omega); intro x3 w13 ho hb; have n0_ := Aside0.mk hb; have n1_ := Aside0.mk ho; clear HB HO; have HB := n0_; have HO := n1_; clear n0_ n1_; clear ho hb)
    | (go_at_call 140; ((with_reducible refine (appendInt2 x3 ((((((([] : List Int) ++ four (yearS s)) ++ bytesOf hyB) ++ two (monS s)) ++ bytesOf hyB) ++ two (dayS s)) ++ bytesOf spB) (hourS s) w0 _ (by have := BH.out; omega) (by have := BH.out; omega) (by first | exact HO.out | exact HO.out.drewN _) (by first | exact HB.out | exact pw_below_drewN HB.out _) (by simp [four, two, bytesOf]; try decide)).mono ?_); rintro e w' ⟨y3v, rfl, ho, hb⟩; have n1 := Aside0.mk hb; have n2 := Aside0.mk (show Buf w0 w' y3v (((((((([] : List Int) ++ four (yearS s)) ++ bytesOf hyB) ++ two (monS s)) ++ bytesOf hyB) ++ two (dayS s)) ++ bytesOf spB) ++ two (hourS s)) from ho); clear HB HO ho hb; have HB := n1; have HO := n2; clear n1 n2)))
  have LEN4 := Aside0.mk (show ((((((((([] : List Int) ++ four (yearS s)) ++ bytesOf hyB) ++ two (monS s)) ++ bytesOf hyB) ++ two (dayS s)) ++ bytesOf spB) ++ two (hourS s))).length + coB.size ≤ 64 from by simp [four, two, bytesOf]; decide)
  rw [rounds_succ]
  go_wp2_with (first
    | (go_at_call 144; (with_reducible refine (chunk5 _ (by first | exact StdAt.below HS.out HB.out | exact StdAt.below HS.out (pw_below_drewN HB.out _))).mono ?_); rintro e w' ⟨rfl, ⟨nd, rfl⟩⟩; skip)
    | (at_builtin; refine buf_str (w0 := w0) rfl (.tmp 47) _ rfl y3v (((((((([] : List Int) ++ four (yearS s)) ++ bytesOf hyB) ++ two (monS s)) ++ bytesOf hyB) ++ two (dayS s)) ++ bytesOf spB) ++ two (hourS s)) coB rfl rfl ?aO ?aB ?aL ?_; (case aB => first | exact HB.out | exact pw_below_drewN HB.out _); (case aO => first | exact HO.out | exact HO.out.drewN _); (case aL => have := LEN4.out; omega); intro x4 w13 ho hb; have n0_ := Aside0.mk hb; have n1_ := Aside0.mk ho; clear HB HO; have HB := n0_; have HO := n1_; clear n0_ n1_; clear ho hb)
    | (go_at_call 140; ((with_reducible refine (appendInt2 x4 ((((((((([] : List Int) ++ four (yearS s)) ++ bytesOf hyB) ++ two (monS s)) ++ bytesOf hyB) ++ two (dayS s)) ++ bytesOf spB) ++ two (hourS s)) ++ bytesOf coB) (minS s) w0 _ (by have := BN.out; omega) (by have := BN.out; omega) (by first | exact HO.out | exact HO.out.drewN _) (by first | exact HB.out | exact pw_below_drewN HB.out _) (by simp [four, two, bytesOf]; try decide)).mono ?_); rintro e w' ⟨y4v, rfl, ho, hb⟩; have n1 := Aside0.mk hb; have n2 := Aside0.mk (show Buf w0 w' y4v (((((((((([] : List Int) ++ four (yearS s)) ++ bytesOf hyB) ++ two (monS s)) ++ bytesOf hyB) ++ two (dayS s)) ++ bytesOf spB) ++ two (hourS s)) ++ bytesOf coB) ++ two (minS s)) from ho); clear HB HO ho hb; have HB := n1; have HO := n2; clear n1 n2)))
  have LEN5 := Aside0.mk (show ((((((((((([] : List Int) ++ four (yearS s)) ++ bytesOf hyB) ++ two (monS s)) ++ bytesOf hyB) ++ two (dayS s)) ++ bytesOf spB) ++ two (hourS s)) ++ bytesOf coB) ++ two (minS s))).length + coB.size ≤ 64 from by simp [four, two, bytesOf]; decide)
  rw [rounds_succ]
  go_wp2_with (first
    | (go_at_call 144; (with_reducible refine (chunk6 _ (by first | exact StdAt.below HS.out HB.out | exact StdAt.below HS.out (pw_below_drewN HB.out _))).mono ?_); rintro e w' ⟨rfl, ⟨nd, rfl⟩⟩; skip)
    | (at_builtin; refine buf_str (w0 := w0) rfl (.tmp 47) _ rfl y4v (((((((((([] : List Int) ++ four (yearS s)) ++ bytesOf hyB) ++ two (monS s)) ++ bytesOf hyB) ++ two (dayS s)) ++ bytesOf spB) ++ two (hourS s)) ++ bytesOf coB) ++ two (minS s)) coB rfl rfl ?aO ?aB ?aL ?_; (case aB => first | exact HB.out | exact pw_below_drewN HB.out _); (case aO => first | exact HO.out | exact HO.out.drewN _); (case aL => have := LEN5.out; omega); intro x5 w13 ho hb; have n0_ := Aside0.mk hb; have n1_ := Aside0.mk ho; clear HB HO; have HB := n0_; have HO := n1_; clear n0_ n1_; clear ho hb)
    | (go_at_call 140; ((with_reducible refine (appendInt2 x5 ((((((((((([] : List Int) ++ four (yearS s)) ++ bytesOf hyB) ++ two (monS s)) ++ bytesOf hyB) ++ two (dayS s)) ++ bytesOf spB) ++ two (hourS s)) ++ bytesOf coB) ++ two (minS s)) ++ bytesOf coB) (secS s) w0 _ (by have := BS.out; omega) (by have := BS.out; omega) (by first | exact HO.out | exact HO.out.drewN _) (by first | exact HB.out | exact pw_below_drewN HB.out _) (by simp [four, two, bytesOf]; try decide)).mono ?_); rintro e w' ⟨y5v, rfl, ho, hb⟩; have n1 := Aside0.mk hb; have n2 := Aside0.mk (show Buf w0 w' y5v (((((((((((([] : List Int) ++ four (yearS s)) ++ bytesOf hyB) ++ two (monS s)) ++ bytesOf hyB) ++ two (dayS s)) ++ bytesOf spB) ++ two (hourS s)) ++ bytesOf coB) ++ two (minS s)) ++ bytesOf coB) ++ two (secS s)) from ho); clear HB HO ho hb; have HB := n1; have HO := n2; clear n1 n2)))
  rw [rounds_succ]
  go_wp2
  go_ret
  exact ⟨_, rfl, HO.out, HB.out⟩
end Go.Proofs.YtjpcdkhapeejjaaGreatDoor.A
