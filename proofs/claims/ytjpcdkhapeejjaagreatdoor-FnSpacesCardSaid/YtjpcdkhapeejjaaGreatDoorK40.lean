/- Steps of the proof of the law: contracts of functions of the given program, and plain lemmas about what they compute.
Conditions: none beyond those that each theorem names. -/
import Derived.ScopeJumps
import Derived.WalkMore
import Derived.Test.YtjpcdkhapeejjaaGreatDoorK33
import Derived.Test.YtjpcdkhapeejjaaGreatDoorK39
set_option linter.unusedVariables false
set_option linter.unusedSimpArgs false
open Go.RowKit Go.Proofs.YtjpcdkhapeejjaaGreatDoorW.PrintWords Go.Proofs.YtjpcdkhapeejjaaGreatDoorW.PrintLast Go.Proofs.YtjpcdkhapeejjaaGreatDoorW.PrintMore
namespace Go.Proofs.YtjpcdkhapeejjaaGreatDoor.A
open Cal
set_option maxRecDepth 100000
attribute [local go_sem] hset_drewN halloc_drewN
/-- One round over the fields, from the last to the first: where it ends, and whether it is to be begun anew. -/
def rnd (k : Nat) (rev : Bool) (segs : List ByteArray) : Nat → Int → Option (Int × Bool)
  | 0, s => some (s, false)
  | j + 1, s => if (rdOf ByteArray.empty segs (j : Int)).toList = ([42] : List UInt8) then rnd k rev segs j s else if (rdOf ByteArray.empty segs (j : Int)).toList = ([63] : List UInt8) then none else
    (isect k segs (rdOf ByteArray.empty segs (j : Int)) j).bind fun _ => (bumpU k rev (rdOf ByteArray.empty segs (j : Int)) (j : Int) s).bind fun r => if r.2 = true then some (r.1, true) else rnd k rev segs j r.1
/-- What follows a round. -/
def lopC (nxt : Int → Option Int) (rev incl : Bool) (start : Int) (q : Int × Bool) : Option Int :=
  if q.2 = true then nxt q.1 else if incl = true then some q.1 else
    if InR q.1 ∧ InR start then (if (fmtB q.1).toList = (fmtB start).toList then nxt (if rev = true then q.1 - 1 else q.1 + 1) else some q.1) else none
def lop (k : Nat) (rev incl : Bool) (start : Int) (segs : List ByteArray) : Nat → Int → Option Int
  | 0, _ => none
  | n + 1, s => (rnd k rev segs segs.length s).bind (lopC (fun x => lop k rev incl start segs n x) rev incl start)
theorem wp_scope_from {P : Program} {a : Act} {w : World} {Q : Exit → Act → World → Prop} {c X : Code} (l : Nat) (J : Act → World → Prop) (μ : Act → World → Nat) (hf : findLabel c l = some (Code.skip.seq X))
    (first : (∀ a w, J a w → X.wp P (Exit.jump l J Q) a w) → c.wp P (Exit.jump l J Q) a w)
    (pass : ∀ a w, J a w → X.wp P (Exit.jump l (fun a' w' => J a' w' ∧ μ a' w' < μ a w) Q) a w) : (Code.scope c).wp P Q a w :=
  wp_scope_jumps l J μ hf (first fun a w h => Code.wp_mono (fun e a' w' q => by cases e <;> first | exact q | exact ⟨q.1, q.2.1⟩) (pass a w h)) fun a w h => wp_seq (wp_skip (pass a w h))
theorem bumpUD_any (k g i : Nat) (rev : Bool) (seg : ByteArray) (s p s0 s' : Int) (m : Bool) (L : List (Nat × Obj)) (w W : World) (hm : Mem w L W) (hc : L[i]? = some (g, ckO s0)) (h : bumpU k rev seg p s = some (s', m)) :
    Calls Tryz.prog 68 #[.iface 97 (.pointer (some ⟨g, 0, none⟩)), .string seg, .int .i64 p, .agg #[.int .u64 0, .int .i64 s, .pointer none], .bool rev] W fun e w' => e = .returned (.tuple #[.agg #[.int .u64 0, .int .i64 s', .pointer none], .bool m, .nilIface]) ∧ Mem w (L.set i (g, ckO s')) w' := by
  cases rev with
  | true => exact bumpUntilDueR_any k g i seg s p s0 s' m L w W hm hc h
  | false => exact bumpUntilDue_any k g i seg s p s0 s' m L w W hm hc h
theorem Format_lit (s : Int) (W : World) (h : InR s) (hS : StdAt W) :
    Calls Tryz.prog 71 #[.agg #[.int .u64 0, .int .i64 s, .pointer none], .string { data := #[50, 48, 48, 54, 45, 48, 49, 45, 48, 50, 32, 49, 53, 58, 48, 52, 58, 48, 53] }] W fun e w' => e = .returned (.string (fmtB s)) ∧ Below W.heap.size W w' := Format_any s W h hS
theorem get3 {L : List (Nat × Obj)} {i : Nat} {p : Nat × Obj} (a b c : Nat × Obj) (h : L[i]? = some p) : (a :: b :: c :: L)[i + 3]? = some p := by rw [List.getElem?_cons_succ]; exact get2 _ _ h
theorem set3' {L : List (Nat × Obj)} {i : Nat} {p : Nat × Obj} (a b c : Nat × Obj) : (a :: b :: c :: L).set (i + 3) p = a :: b :: c :: L.set i p := rfl
theorem jump_ret {l : Nat} {J : Act → World → Prop} {Q : Exit → Act → World → Prop} {a : Act} {w : World} (h : Q .ret a w) : Exit.jump l J Q .ret a w := h
theorem set_same {L : List (Nat × Obj)} {i : Nat} {p : Nat × Obj} (h : L[i]? = some p) : L.set i p = L := by
  obtain ⟨hi, e⟩ := List.getElem?_eq_some_iff.1 h
  rw [← e]; exact List.set_getElem_self hi
inductive lopJ (k gG gC cap i : Nat) (ad : Addr) (segs : List ByteArray) (s r : Int) (rev incl : Bool) (L : List (Nat × Obj)) (w W : World) : Act → World → Prop
  | mk {n : Nat} {sq sc : Int} {w' : World} (h1 : n ≤ 500) (h2 : lop k rev incl s segs n sq = some r) (h3 : Mem w ((W.heap.size + 1, tb sq) :: (W.heap.size, tb s) :: L.set i (gC, ckO sc)) w') {u13 u14 u15 u16 u17 u18 u19 u20 u21 u22 u23 u24 u25 u26 u27 u28 u29 u30 u31 u32 u33 u34 u35 u36 u37 u38 u39 u40 u41 u42 u43 u44 u45 u46 u47 u48 u49 u50 u51 u52 u53 u54 u55 u56 u57 u58 u59 u60 u61 u62 u63 u64 u65 u66 u67 u68 u69 u70 u71 u72 u73 u74 u75 u76 u77 u78 u79 u80 u81 u82 u83 u84 u85 u86 u87 u88 u89 u90 u91 u92 u93 u94 u95 u96 u97 u98 u99 u100 u101 u102 u103 u104 u105 u106 u107 u108 u109 u110 u111 u112 u113 u114 u115 u116 u117 u118 u119 u120 u121 u122 u123 u124 u125 u126 u127 u128 u129 u130 u131 u132 u133 u134 u135 u136 u137 u138 u139 u140 u141 u142 u143 u144 u145 u146 u147 u148 u149 u150 u151 u152 u153 u154 u155 u156 u157 u158 u159 : Value} : lopJ k gG gC cap i ad segs s r rev incl L w W { tmps := #[.pointer (some ⟨gG, 0, none⟩), .slice (some ad) segs.length cap, .agg #[.int .u64 0, .int .i64 s, .pointer none], .bool incl, .bool rev, undef, undef, .pointer (some ⟨W.heap.size, 0, none⟩), undef, undef, .pointer (some ⟨W.heap.size + 1, 0, none⟩), .nilIface, .int .i64 (n : Int), u13, u14, u15, u16, u17, u18, u19, u20, u21, u22, u23, u24, u25, u26, u27, u28, u29, u30, u31, u32, u33, u34, u35, u36, u37, u38, u39, u40, u41, u42, u43, u44, u45, u46, u47, u48, u49, u50, u51, u52, u53, u54, u55, u56, u57, u58, u59, u60, u61, u62, u63, u64, u65, u66, u67, u68, u69, u70, u71, u72, u73, u74, u75, u76, u77, u78, u79, u80, u81, u82, u83, u84, u85, u86, u87, u88, u89, u90, u91, u92, u93, u94, u95, u96, u97, u98, u99, u100, u101, u102, u103, u104, u105, u106, u107, u108, u109, u110, u111, u112, u113, u114, u115, u116, u117, u118, u119, u120, u121, u122, u123, u124, u125, u126, u127, u128, u129, u130, u131, u132, u133, u134, u135, u136, u137, u138, u139, u140, u141, u142, u143, u144, u145, u146, u147, u148, u149, u150, u151, u152, u153, u154, u155, u156, u157, u158, u159], defers := [] } w'
theorem lopJ_elim {k gG gC cap i : Nat} {ad : Addr} {segs : List ByteArray} {s r : Int} {rev incl : Bool} {L : List (Nat × Obj)} {w W : World} {P : Act → World → Prop} (h : ∀ (n : Nat) (sq sc : Int) (w' : World) (h1 : n ≤ 500) (h2 : lop k rev incl s segs n sq = some r) (h3 : Mem w ((W.heap.size + 1, tb sq) :: (W.heap.size, tb s) :: L.set i (gC, ckO sc)) w') (u13 u14 u15 u16 u17 u18 u19 u20 u21 u22 u23 u24 u25 u26 u27 u28 u29 u30 u31 u32 u33 u34 u35 u36 u37 u38 u39 u40 u41 u42 u43 u44 u45 u46 u47 u48 u49 u50 u51 u52 u53 u54 u55 u56 u57 u58 u59 u60 u61 u62 u63 u64 u65 u66 u67 u68 u69 u70 u71 u72 u73 u74 u75 u76 u77 u78 u79 u80 u81 u82 u83 u84 u85 u86 u87 u88 u89 u90 u91 u92 u93 u94 u95 u96 u97 u98 u99 u100 u101 u102 u103 u104 u105 u106 u107 u108 u109 u110 u111 u112 u113 u114 u115 u116 u117 u118 u119 u120 u121 u122 u123 u124 u125 u126 u127 u128 u129 u130 u131 u132 u133 u134 u135 u136 u137 u138 u139 u140 u141 u142 u143 u144 u145 u146 u147 u148 u149 u150 u151 u152 u153 u154 u155 u156 u157 u158 u159 : Value), P { tmps := #[.pointer (some ⟨gG, 0, none⟩), .slice (some ad) segs.length cap, .agg #[.int .u64 0, .int .i64 s, .pointer none], .bool incl, .bool rev, undef, undef, .pointer (some ⟨W.heap.size, 0, none⟩), undef, undef, .pointer (some ⟨W.heap.size + 1, 0, none⟩), .nilIface, .int .i64 (n : Int), u13, u14, u15, u16, u17, u18, u19, u20, u21, u22, u23, u24, u25, u26, u27, u28, u29, u30, u31, u32, u33, u34, u35, u36, u37, u38, u39, u40, u41, u42, u43, u44, u45, u46, u47, u48, u49, u50, u51, u52, u53, u54, u55, u56, u57, u58, u59, u60, u61, u62, u63, u64, u65, u66, u67, u68, u69, u70, u71, u72, u73, u74, u75, u76, u77, u78, u79, u80, u81, u82, u83, u84, u85, u86, u87, u88, u89, u90, u91, u92, u93, u94, u95, u96, u97, u98, u99, u100, u101, u102, u103, u104, u105, u106, u107, u108, u109, u110, u111, u112, u113, u114, u115, u116, u117, u118, u119, u120, u121, u122, u123, u124, u125, u126, u127, u128, u129, u130, u131, u132, u133, u134, u135, u136, u137, u138, u139, u140, u141, u142, u143, u144, u145, u146, u147, u148, u149, u150, u151, u152, u153, u154, u155, u156, u157, u158, u159], defers := [] } w') (a' : Act) (w' : World) (hJ : lopJ k gG gC cap i ad segs s r rev incl L w W a' w') : P a' w' :=
  hJ.rec fun {n sq sc w'} h1 h2 h3 {u13 u14 u15 u16 u17 u18 u19 u20 u21 u22 u23 u24 u25 u26 u27 u28 u29 u30 u31 u32 u33 u34 u35 u36 u37 u38 u39 u40 u41 u42 u43 u44 u45 u46 u47 u48 u49 u50 u51 u52 u53 u54 u55 u56 u57 u58 u59 u60 u61 u62 u63 u64 u65 u66 u67 u68 u69 u70 u71 u72 u73 u74 u75 u76 u77 u78 u79 u80 u81 u82 u83 u84 u85 u86 u87 u88 u89 u90 u91 u92 u93 u94 u95 u96 u97 u98 u99 u100 u101 u102 u103 u104 u105 u106 u107 u108 u109 u110 u111 u112 u113 u114 u115 u116 u117 u118 u119 u120 u121 u122 u123 u124 u125 u126 u127 u128 u129 u130 u131 u132 u133 u134 u135 u136 u137 u138 u139 u140 u141 u142 u143 u144 u145 u146 u147 u148 u149 u150 u151 u152 u153 u154 u155 u156 u157 u158 u159} => h n sq sc w' h1 h2 h3 u13 u14 u15 u16 u17 u18 u19 u20 u21 u22 u23 u24 u25 u26 u27 u28 u29 u30 u31 u32 u33 u34 u35 u36 u37 u38 u39 u40 u41 u42 u43 u44 u45 u46 u47 u48 u49 u50 u51 u52 u53 u54 u55 u56 u57 u58 u59 u60 u61 u62 u63 u64 u65 u66 u67 u68 u69 u70 u71 u72 u73 u74 u75 u76 u77 u78 u79 u80 u81 u82 u83 u84 u85 u86 u87 u88 u89 u90 u91 u92 u93 u94 u95 u96 u97 u98 u99 u100 u101 u102 u103 u104 u105 u106 u107 u108 u109 u110 u111 u112 u113 u114 u115 u116 u117 u118 u119 u120 u121 u122 u123 u124 u125 u126 u127 u128 u129 u130 u131 u132 u133 u134 u135 u136 u137 u138 u139 u140 u141 u142 u143 u144 u145 u146 u147 u148 u149 u150 u151 u152 u153 u154 u155 u156 u157 u158 u159
set_option maxHeartbeats 16000000 in
theorem loop_any (k gG gC cap i j m : Nat) (ad : Addr) (cur : Array Value) (segs : List ByteArray) (s s0 r : Int) (rev incl : Bool) (L : List (Nat × Obj)) (w W : World) (hm : Mem w L W)
    (hC : L[i]? = some (gC, ckO s0)) (hG : L[j]? = some (gG, grO gC)) (hR : L[m]? = some (ad.block, .cells cur 9 (0, 0))) (hij : i ≠ j) (him : i ≠ m)
    (hA : SegAt cur ad segs) (hl : segs.length ≤ 7) (hstd : StdAt w ∨ incl = true) (h : lop k rev incl s segs 500 s = some r) :
    Calls Tryz.prog 47 #[.pointer (some ⟨gG, 0, none⟩), .slice (some ad) segs.length cap, .agg #[.int .u64 0, .int .i64 s, .pointer none], .bool incl, .bool rev] W fun e w' =>
      e = .returned (.tuple #[.agg #[.int .u64 0, .int .i64 r, .pointer none], .nilIface]) ∧ ∃ sc, Mem w (L.set i (gC, ckO sc)) w' := by
  have hu63 := Tryz.underlying63
  have hu65 := Tryz.underlying65
  have HM := Aside0.mk ((hm.new (tb s)).new (tb 0))
  rw [World.size_alloc] at HM
  have HM2 := Aside0.mk ((hm.new (tb s)).new (tb s))
  rw [World.size_alloc] at HM2
  have HC := Aside0.mk hC
  have HG := Aside0.mk (fun sc => get_ne (q := (gC, ckO sc)) hij hG)
  have HS := Aside0.mk (fun sc => get_ne (q := (gC, ckO sc)) him hR)
  have HCs := Aside0.mk (fun sc => get_set (gC, ckO sc) hC)
  have HA := Aside0.mk hA
  have HL7 := Aside0.mk hl
  have HStd := Aside0.mk hstd
  have HLop := Aside0.mk h
  clear hm hC hG hR hij him hA hl hstd h
  go_enter Tryz.func47, Tryz.ntmps47
  go_wp2
  refine wp_scope_from 0 (lopJ k gG gC cap i ad segs s r rev incl L w W) (fun a' _ => (intOf (a'.tmps.getD 12 undef)).toNat) rfl ?_ ?_
  · intro hp
    unfold tb at HM HM2
    obtain ⟨⟨c0, c1, c2⟩, _, _⟩ := HM.out.c3 1 rfl
    obtain ⟨⟨d0, d1, d2⟩, ⟨d3, d4, d5⟩, d6⟩ := HM.out.c3 0 rfl
    have K0 := Aside0.mk (HM.out.c3 1 rfl).1
    have K1 := Aside0.mk (HM.out.drew.c3 1 rfl).1
    have K2 := Aside0.mk (HM2.out.c3 1 rfl).1
    have K3 := Aside0.mk (HM2.out.drew.c3 1 rfl).1
    have K4 := Aside0.mk fun n => ((HM2.out.drewN n).c3 1 rfl).1
    go_upto_region 1 with fail
    go_cut [12, 13] (fun s12 s13 wx => s12 = .int .i64 500 ∧ Aside0 (Mem w ((W.heap.size + 1, tb s) :: (W.heap.size, tb s) :: L) wx))
    case first =>
      go_region_held3 (fun w' => w'.cell? ⟨W.heap.size, 0, none⟩ = some (.int .u64 0) ∧ w'.cell? ⟨W.heap.size, 1, none⟩ = some (.int .i64 s) ∧ w'.cell? ⟨W.heap.size, 2, none⟩ = some (.pointer none))
        (first | with_reducible exact K0.out | with_reducible exact K1.out | with_reducible exact K2.out | with_reducible exact K3.out | with_reducible exact K4.out _ | (trace_state; fail))
        (fail)
      all_goals (go_wp2_with fail; go_meet; exact ⟨rfl, ⟨by first | exact HM2.out | exact HM2.out.drew | exact HM2.out.drewN _⟩⟩)
    case rest =>
      obtain ⟨rfl, HM⟩ := hcut
      go_wp2
      go_step3
      have hk := ‹∀ (a : Act) (w : World), Code.wp Tryz.prog _ _ a w → _›
      refine hk _ _ (hp _ _ (lopJ.mk (n := 500) (sq := s) (sc := s0) (Nat.le_refl _) HLop.out ?_))
      rw [set_same HC.out]
      exact HM.out
  · refine lopJ_elim ?_
    clear HM HM2 HLop
    intro n sq sc w' h1 h2 h3 u13 u14 u15 u16 u17 u18 u19 u20 u21 u22 u23 u24 u25 u26 u27 u28 u29 u30 u31 u32 u33 u34 u35 u36 u37 u38 u39 u40 u41 u42 u43 u44 u45 u46 u47 u48 u49 u50 u51 u52 u53 u54 u55 u56 u57 u58 u59 u60 u61 u62 u63 u64 u65 u66 u67 u68 u69 u70 u71 u72 u73 u74 u75 u76 u77 u78 u79 u80 u81 u82 u83 u84 u85 u86 u87 u88 u89 u90 u91 u92 u93 u94 u95 u96 u97 u98 u99 u100 u101 u102 u103 u104 u105 u106 u107 u108 u109 u110 u111 u112 u113 u114 u115 u116 u117 u118 u119 u120 u121 u122 u123 u124 u125 u126 u127 u128 u129 u130 u131 u132 u133 u134 u135 u136 u137 u138 u139 u140 u141 u142 u143 u144 u145 u146 u147 u148 u149 u150 u151 u152 u153 u154 u155 u156 u157 u158 u159
    have HN5 := Aside0.mk h1
    have HLp := Aside0.mk h2
    have HM := Aside0.mk h3
    clear h1 h2 h3
    go_wp2
    go_loopg [11, 12] n (fun kq v11 v12 wq => ∃ sq sc, v11 = .nilIface ∧ v12 = .int .i64 (kq : Int) ∧ Aside0 (kq ≤ n) ∧ Aside0 (lop k rev incl s segs kq sq = some r) ∧ Aside0 (Mem w ((W.heap.size + 1, tb sq) :: (W.heap.size, tb s) :: L.set i (gC, ckO sc)) wq))
    case atStart => exact ⟨sq, sc, rfl, rfl, ⟨Nat.le_refl _⟩, HLp, HM⟩
    case round =>
      clear HLp HM
      obtain ⟨sq, sc, rfl, rfl, HK, HLp, HM⟩ := hrel
      cases gk with
      | zero => exact absurd HLp.out (by simp [lop])
      | succ k1 =>
        have H := HLp.out
        clear HLp
        unfold lop at H
        replace H := Option.bind_eq_some_iff.mp H
        obtain ⟨q, hq, H⟩ := H
        have HX0 := Aside0.mk H
        have HQ := Aside0.mk hq
        clear H hq
        have hkk : k1 + 1 ≤ n := HK.out
        have hn5 : n ≤ 500 := HN5.out
        have h0 : decide (((k1 + 1 : Nat) : Int) > 0) = true := decide_eq_true (by omega)
        have w0 : IntKind.i64.wrap (((k1 + 1 : Nat) : Int) - 1) = (k1 : Int) := by rw [i64_w]; unfold wrap64; omega
        go_wp2
        go_loopg [11, 14, 15] segs.length (fun jq v11 v14 v15 wq => ∃ s2 sc2, v11 = .nilIface ∧ v14 = .bool false ∧ v15 = .int .i64 ((segs.length : Int) - (jq : Int)) ∧ Aside0 (jq ≤ segs.length) ∧ Aside0 (rnd k rev segs jq s2 = some q) ∧ Aside0 (Mem w ((W.heap.size + 1, tb s2) :: (W.heap.size, tb s) :: L.set i (gC, ckO sc2)) wq))
        case atStart => exact ⟨sq, sc, rfl, rfl, by rw [Int.sub_self], ⟨Nat.le_refl _⟩, HQ, HM⟩
        case round =>
          clear HQ HM
          obtain ⟨s2, sc2, rfl, rfl, rfl, HJ, HQ, HM⟩ := hrel
          cases gk with
          | zero =>
            have H := HQ.out
            clear HQ
            unfold rnd at H
            cases H
            have q0 : decide (((segs.length : Int) - ((0 : Nat) : Int)) < (segs.length : Int)) = false := decide_eq_false (by omega)
            have HX := HX0.out
            clear HX0
            unfold lopC at HX
            rw [if_neg (show ¬ (((s2, false) : Int × Bool).2 = true) from (fun hq => by cases hq))] at HX
            unfold tb at HM
            obtain ⟨⟨c0, c1, c2⟩, ⟨c3, c4, c5⟩, c6⟩ := HM.out.c3 0 rfl
            obtain ⟨⟨d0, d1, d2⟩, _, _⟩ := HM.out.c3 1 rfl
            cases incl with
            | true =>
              rw [if_pos rfl] at HX
              cases HX
              go_upto_region 34 with fail
              go_cut [153] (fun s153 wx => s153 = .bool false ∧ Aside0 (Mem w ((W.heap.size + 1, tb s2) :: (W.heap.size, tb s) :: L.set i (gC, ckO sc2)) wx))
              case first =>
                go_region_with fail
                all_goals (go_wp2_with fail; go_meet; exact ⟨rfl, ⟨by first | exact HM.out | exact HM.out.drew | exact HM.out.drewN _⟩⟩)
              case rest =>
                obtain ⟨rfl, HM⟩ := hcut
                unfold tb at HM
                obtain ⟨⟨c0, c1, c2⟩, ⟨c3, c4, c5⟩, c6⟩ := HM.out.c3 0 rfl
                go_wp2
                refine jump_ret ?_
                refine bodyPost_ret (v := .tuple #[.agg #[.int .u64 0, .int .i64 s2, .pointer none], .nilIface]) (by simp [results, Tryz.results47, go_sem, *]) rfl ⟨rfl, sc2, HM.out.drop 2⟩
            | false =>
              rw [if_neg (show ¬ (false = true) by decide)] at HX
              by_cases hI : InR s2 ∧ InR s
              case neg => rw [if_neg hI] at HX; cases HX
              rw [if_pos hI] at HX
              have AI := Aside0.mk hI
              clear hI
              have hStd := Aside0.mk (HStd.out.resolve_right (by decide))
              obtain ⟨eqb, heq⟩ : ∃ b : Bool, ((fmtB s2).toList == (fmtB s).toList) = b := ⟨_, rfl⟩
              go_upto_region 34 with fail
              go_cut [153] (fun s153 wx => s153 = .bool eqb ∧ Aside0 (Mem w ((W.heap.size + 1, tb s2) :: (W.heap.size, tb s) :: L.set i (gC, ckO sc2)) wx))
              case first =>
                go_region_with (first
                  | (go_at_call 71; (first | (with_reducible refine (Format_lit s2 _ AI.out.1 (hStd.out.below HM.out.below)).mono ?_) | (with_reducible refine (Format_lit s2 _ AI.out.1 (hStd.out.below HM.out.drew.below)).mono ?_) | (with_reducible refine (Format_lit s2 _ AI.out.1 (hStd.out.below (HM.out.drewN _).below)).mono ?_) | (with_reducible refine (Format_lit s _ AI.out.2 (hStd.out.below HM.out.below)).mono ?_) | (with_reducible refine (Format_lit s _ AI.out.2 (hStd.out.below HM.out.drew.below)).mono ?_) | (with_reducible refine (Format_lit s _ AI.out.2 (hStd.out.below (HM.out.drewN _).below)).mono ?_)); rintro e wz ⟨rfl, hb⟩; (first | have HN := Aside0.mk (HM.out.step hb) | have HN := Aside0.mk (HM.out.drew.step hb) | have HN := Aside0.mk ((HM.out.drewN _).step hb)); clear HM hb; have HM := HN; clear HN; clear c0 c1 c2 c3 c4 c5 c6 d0 d1 d2; obtain ⟨⟨c0, c1, c2⟩, ⟨c3, c4, c5⟩, c6⟩ := HM.out.c3 0 rfl; obtain ⟨⟨d0, d1, d2⟩, _, _⟩ := HM.out.c3 1 rfl))
                all_goals (go_wp2_with fail; go_meet; exact ⟨by rw [← heq], ⟨by first | exact HM.out | exact HM.out.drew | exact HM.out.drewN _⟩⟩)
              case rest =>
                obtain ⟨rfl, HM⟩ := hcut
                unfold tb at HM
                obtain ⟨⟨c0, c1, c2⟩, ⟨c3, c4, c5⟩, c6⟩ := HM.out.c3 0 rfl
                cases eqb with
                | false =>
                  have hne : ¬ (fmtB s2).toList = (fmtB s).toList := beq_eq_false_iff_ne.mp heq
                  clear heq
                  rw [if_neg hne] at HX
                  cases HX
                  clear hne
                  go_wp2
                  refine jump_ret ?_
                  refine bodyPost_ret (v := .tuple #[.agg #[.int .u64 0, .int .i64 s2, .pointer none], .nilIface]) (by simp [results, Tryz.results47, go_sem, *]) rfl ⟨rfl, sc2, HM.out.drop 2⟩
                | true =>
                  have he : (fmtB s2).toList = (fmtB s).toList := beq_iff_eq.mp heq
                  clear heq
                  rw [if_pos he] at HX
                  clear he
                  have hb1 : 1000000 ≤ s2 := by have := AI.out.1; unfold InR at this; omega
                  have hb2 : s2 ≤ 100000000000 := by have := AI.out.1; unfold InR at this; omega
                  cases rev with
                  | true =>
                    rw [if_pos rfl] at HX
                    have AX := Aside0.mk HX
                    clear HX
                    go_wp2_with (first
                      | (go_at_call 60; (with_reducible refine (Add_m1 s2 _ hb1 hb2).mono ?_); rintro e wz ⟨rfl, hb⟩; have HN := Aside0.mk (HM.out.step hb); clear HM hb; have HM := HN; clear HN; clear c0 c1 c2 c3 c4 c5 c6; obtain ⟨⟨c0, c1, c2⟩, ⟨c3, c4, c5⟩, c6⟩ := HM.out.c3 0 rfl))
                    go_roundg k1
                    case measure => omega
                    case rel => exact ⟨s2 - 1, sc2, rfl, rfl, ⟨by omega⟩, AX, ⟨HM.out.set3 0 rfl _ _ _⟩⟩
                  | false =>
                    rw [if_neg (show ¬ (false = true) by decide)] at HX
                    have AX := Aside0.mk HX
                    clear HX
                    go_wp2_with (first
                      | (go_at_call 60; (with_reducible refine (Add_1 s2 _ hb1 hb2).mono ?_); rintro e wz ⟨rfl, hb⟩; have HN := Aside0.mk (HM.out.step hb); clear HM hb; have HM := HN; clear HN; clear c0 c1 c2 c3 c4 c5 c6; obtain ⟨⟨c0, c1, c2⟩, ⟨c3, c4, c5⟩, c6⟩ := HM.out.c3 0 rfl))
                    go_roundg k1
                    case measure => omega
                    case rel => exact ⟨s2 + 1, sc2, rfl, rfl, ⟨by omega⟩, AX, ⟨HM.out.set3 0 rfl _ _ _⟩⟩
          | succ j1 =>
            have H := HQ.out
            clear HQ
            unfold rnd at H
            have hj : j1 + 1 ≤ segs.length := HJ.out
            have hl7 : segs.length ≤ 7 := HL7.out
            obtain ⟨x, hx⟩ : ∃ x : Int, (segs.length : Int) - ((j1 + 1 : Nat) : Int) = x := ⟨_, rfl⟩
            obtain ⟨n1, hn1⟩ : ∃ x : Int, (segs.length : Int) - 1 = x := ⟨_, rfl⟩
            rw [hx]
            have q0 : decide (x < (segs.length : Int)) = true := decide_eq_true (by omega)
            have w1 : IntKind.i64.wrap ((segs.length : Int) - 1) = n1 := by rw [i64_w]; unfold wrap64; omega
            have w2 : IntKind.i64.wrap (n1 - x) = (j1 : Int) := by rw [i64_w]; unfold wrap64; omega
            have w3 : IntKind.i64.wrap (x + 1) = (segs.length : Int) - (j1 : Int) := by rw [i64_w]; unfold wrap64; omega
            have q1 : (0 ≤ (j1 : Int)) = True := eq_true (by omega)
            have q2 : ((j1 : Int) < (segs.length : Int)) = True := eq_true (by omega)
            have q3 : (((j1 : Int)).toNat < segs.length) = True := eq_true (by omega)
            have q4 : (j1 < segs.length) = True := eq_true (by omega)
            have hcell := HA.out _ (HM.out.at_ (m + 2) (get2 _ _ (HS.out sc2))) j1 (by omega)
            obtain ⟨seg, hseg⟩ : ∃ sg : ByteArray, rdOf ByteArray.empty segs (j1 : Int) = sg := ⟨_, rfl⟩
            rw [hseg] at H hcell
            by_cases e1 : seg.toList = ([42] : List UInt8)
            · rw [if_pos e1] at H
              have b1 : (seg.toList == ([42] : List UInt8)) = true := beq_iff_eq.mpr e1
              clear e1
              have AH := Aside0.mk H
              clear H
              go_wp2
              go_roundg j1
              case measure => omega
              case rel => exact ⟨s2, sc2, rfl, rfl, rfl, ⟨by omega⟩, AH, HM⟩
            · rw [if_neg e1] at H
              have b1 : (seg.toList == ([42] : List UInt8)) = false := beq_eq_false_iff_ne.mpr e1
              clear e1
              by_cases e2 : seg.toList = ([63] : List UInt8)
              case pos => rw [if_pos e2] at H; cases H
              rw [if_neg e2] at H
              have b2 : (seg.toList == ([63] : List UInt8)) = false := beq_eq_false_iff_ne.mpr e2
              clear e2
              replace H := Option.bind_eq_some_iff.mp H
              obtain ⟨_, hi, H⟩ := H
              replace H := Option.bind_eq_some_iff.mp H
              obtain ⟨⟨sn, mv⟩, hb, H⟩ := H
              have HB := Aside0.mk hb
              clear hb
              have hcg := gr_cell (HM.out.at_ (j + 2) (get2 _ _ (HG.out sc2)))
              obtain ⟨⟨c0, c1, c2⟩, ⟨c3, c4, c5⟩, c6⟩ := HM.out.c3 0 rfl
              unfold isect at hi
              by_cases e5 : j1 = 5
              · rw [if_pos e5] at hi
                have b5 : ((j1 : Int) == 5) = true := beq_iff_eq.mpr (by omega)
                have b3 : ((j1 : Int) == 3) = false := beq_eq_false_iff_ne.mpr (by omega)
                replace hi := Option.bind_eq_some_iff.mp hi
                obtain ⟨a, ha, hi⟩ := hi
                have Aa := Aside0.mk ha
                clear ha
                have q8 : 3 < segs.length := by omega
                have q9 : (3 < segs.length) = True := eq_true q8
                have q10 : (3 < (segs.length : Int)) = True := eq_true (by omega)
                have hcell3 := HA.out _ (HM.out.at_ (m + 2) (get2 _ _ (HS.out sc2))) 3 (by omega)
                rw [show (((3 : Nat) : Int)) = (3 : Int) from rfl] at hcell3
                obtain ⟨s3, hs3⟩ : ∃ sg : ByteArray, rdOf ByteArray.empty segs 3 = sg := ⟨_, rfl⟩
                rw [hs3] at hcell3 hi
                simp only [Go.Addr.add, Nat.reduceEqDiff, ↓reduceIte] at hcell3
                clear e5
                by_cases ea : a = 0
                · subst ea
                  clear hi
                  go_upto_region 19 with (first | (go_at_call 65; with_reducible refine (gronx_zzIndex.calls k seg ⟨#[42, 47]⟩ 0 _ Aa.out).mono ?_; rintro e w2 ⟨rfl, ⟨nd, rfl⟩⟩))
                  have HN := Aside0.mk (HM.out.new (tb s2))
                  unfold tb at HN
                  clear HM c0 c1 c2 c3 c4 c5 c6 hcg hcell hcell3
                  have HM := HN
                  clear HN
                  have hcg := gr_cell (HM.out.at_ (j + 3) (get3 _ _ _ (HG.out sc2)))
                  obtain ⟨⟨c0, c1, c2⟩, ⟨c3, c4, c5⟩, c6⟩ := HM.out.c3 0 rfl
                  obtain ⟨⟨d0, d1, d2⟩, ⟨d3, d4, d5⟩, d6⟩ := HM.out.c3 1 rfl
                  go_cut [13, 11] (fun s13 s11 wx => s13 = .bool mv ∧ s11 = .nilIface ∧ Aside0 (Mem w ((wr.heap.size, tb sn) :: (W.heap.size + 1, tb s2) :: (W.heap.size, tb s) :: L.set i (gC, ckO sn)) wx))
                  case first =>
                    go_region_with (first
                      | (go_at_call 68; (first | (with_reducible refine (bumpUD_any k gC (i + 3) rev seg s2 (j1 : Int) sc2 sn mv _ w _ HM.out (get3 _ _ _ (HCs.out sc2)) HB.out).mono ?_) | (with_reducible refine (bumpUD_any k gC (i + 3) rev seg s2 (j1 : Int) sc2 sn mv _ w _ HM.out.drew (get3 _ _ _ (HCs.out sc2)) HB.out).mono ?_) | (with_reducible refine (bumpUD_any k gC (i + 3) rev seg s2 (j1 : Int) sc2 sn mv _ w _ (HM.out.drewN _) (get3 _ _ _ (HCs.out sc2)) HB.out).mono ?_)); rintro e wz ⟨rfl, hmz⟩; rw [set3', List.set_set] at hmz; clear HM; have HM := Aside0.mk hmz; clear hmz; clear c0 c1 c2 c3 c4 c5 c6 d0 d1 d2 d3 d4 d5 d6; obtain ⟨⟨c0, c1, c2⟩, ⟨c3, c4, c5⟩, c6⟩ := HM.out.c3 0 rfl; obtain ⟨⟨d0, d1, d2⟩, ⟨d3, d4, d5⟩, d6⟩ := HM.out.c3 1 rfl))
                    all_goals (go_wp2_with fail; go_meet; exact ⟨rfl, rfl, ⟨by first | exact HM.out.set3 0 rfl _ _ _ | exact (HM.out.set3 0 rfl _ _ _).drew | exact (HM.out.set3 0 rfl _ _ _).drewN _⟩⟩)
                  case rest =>
                    obtain ⟨rfl, rfl, HM⟩ := hcut
                    unfold tb at HM
                    obtain ⟨⟨c0, c1, c2⟩, ⟨c3, c4, c5⟩, c6⟩ := HM.out.c3 0 rfl
                    obtain ⟨⟨d0, d1, d2⟩, ⟨d3, d4, d5⟩, d6⟩ := HM.out.c3 1 rfl
                    cases mv with
                    | true =>
                      rw [if_pos (show (((sn, true) : Int × Bool).2 = true) from rfl)] at H
                      cases H
                      have HX := HX0.out
                      clear HX0
                      unfold lopC at HX
                      rw [if_pos (show (((sn, true) : Int × Bool).2 = true) from rfl)] at HX
                      replace HX := Aside0.mk HX
                      go_wp2
                      go_step3
                      refine ⟨rfl, lopJ.mk (n := k1) (sq := sn) (sc := sn) (by omega) HX.out ((HM.out.set3 1 rfl _ _ _).drop 1), ?_⟩
                      show (intOf (.int .i64 ((k1 : Nat) : Int))).toNat < (intOf (.int .i64 ((n : Nat) : Int))).toNat
                      simp only [intOf]
                      omega
                    | false =>
                      rw [if_neg (show ¬ (((sn, false) : Int × Bool).2 = true) from (fun hq => by cases hq))] at H
                      have AH := Aside0.mk H
                      clear H
                      go_wp2
                      go_roundg j1
                      case measure => omega
                      case rel => exact ⟨sn, sn, rfl, rfl, rfl, ⟨by omega⟩, AH, ⟨(HM.out.set3 1 rfl _ _ _).drop 1⟩⟩
                · rw [if_neg ea] at hi
                  have ca : (a == 0) = false := beq_eq_false_iff_ne.mpr ea
                  clear ea
                  by_cases h3 : segs.length ≤ 3
                  case pos => omega
                  rw [if_neg h3] at hi
                  replace hi := Option.bind_eq_some_iff.mp hi
                  obtain ⟨c, hc, hi⟩ := hi
                  by_cases ec : c = 0
                  case neg => rw [if_neg ec] at hi; cases hi
                  subst ec
                  clear hi
                  have Ac := Aside0.mk hc
                  clear hc
                  go_upto_region 19 with (first | (go_at_call 65; with_reducible refine (gronx_zzIndex.calls k seg ⟨#[42, 47]⟩ a _ Aa.out).mono ?_; rintro e w2 ⟨rfl, ⟨nd, rfl⟩⟩) | (go_at_call 65; with_reducible refine (gronx_zzIndex.calls k s3 ⟨#[42]⟩ 0 _ Ac.out).mono ?_; rintro e w2 ⟨rfl, ⟨nd2, rfl⟩⟩))
                  have HN := Aside0.mk (HM.out.new (tb s2))
                  unfold tb at HN
                  clear HM c0 c1 c2 c3 c4 c5 c6 hcg hcell hcell3
                  have HM := HN
                  clear HN
                  have hcg := gr_cell (HM.out.at_ (j + 3) (get3 _ _ _ (HG.out sc2)))
                  obtain ⟨⟨c0, c1, c2⟩, ⟨c3, c4, c5⟩, c6⟩ := HM.out.c3 0 rfl
                  obtain ⟨⟨d0, d1, d2⟩, ⟨d3, d4, d5⟩, d6⟩ := HM.out.c3 1 rfl
                  go_cut [13, 11] (fun s13 s11 wx => s13 = .bool mv ∧ s11 = .nilIface ∧ Aside0 (Mem w ((wr.heap.size, tb sn) :: (W.heap.size + 1, tb s2) :: (W.heap.size, tb s) :: L.set i (gC, ckO sn)) wx))
                  case first =>
                    go_region_with (first
                      | (go_at_call 68; (first | (with_reducible refine (bumpUD_any k gC (i + 3) rev seg s2 (j1 : Int) sc2 sn mv _ w _ HM.out (get3 _ _ _ (HCs.out sc2)) HB.out).mono ?_) | (with_reducible refine (bumpUD_any k gC (i + 3) rev seg s2 (j1 : Int) sc2 sn mv _ w _ HM.out.drew (get3 _ _ _ (HCs.out sc2)) HB.out).mono ?_) | (with_reducible refine (bumpUD_any k gC (i + 3) rev seg s2 (j1 : Int) sc2 sn mv _ w _ (HM.out.drewN _) (get3 _ _ _ (HCs.out sc2)) HB.out).mono ?_)); rintro e wz ⟨rfl, hmz⟩; rw [set3', List.set_set] at hmz; clear HM; have HM := Aside0.mk hmz; clear hmz; clear c0 c1 c2 c3 c4 c5 c6 d0 d1 d2 d3 d4 d5 d6; obtain ⟨⟨c0, c1, c2⟩, ⟨c3, c4, c5⟩, c6⟩ := HM.out.c3 0 rfl; obtain ⟨⟨d0, d1, d2⟩, ⟨d3, d4, d5⟩, d6⟩ := HM.out.c3 1 rfl))
                    all_goals (go_wp2_with fail; go_meet; exact ⟨rfl, rfl, ⟨by first | exact HM.out.set3 0 rfl _ _ _ | exact (HM.out.set3 0 rfl _ _ _).drew | exact (HM.out.set3 0 rfl _ _ _).drewN _⟩⟩)
                  case rest =>
                    obtain ⟨rfl, rfl, HM⟩ := hcut
                    unfold tb at HM
                    obtain ⟨⟨c0, c1, c2⟩, ⟨c3, c4, c5⟩, c6⟩ := HM.out.c3 0 rfl
                    obtain ⟨⟨d0, d1, d2⟩, ⟨d3, d4, d5⟩, d6⟩ := HM.out.c3 1 rfl
                    cases mv with
                    | true =>
                      rw [if_pos (show (((sn, true) : Int × Bool).2 = true) from rfl)] at H
                      cases H
                      have HX := HX0.out
                      clear HX0
                      unfold lopC at HX
                      rw [if_pos (show (((sn, true) : Int × Bool).2 = true) from rfl)] at HX
                      replace HX := Aside0.mk HX
                      go_wp2
                      go_step3
                      refine ⟨rfl, lopJ.mk (n := k1) (sq := sn) (sc := sn) (by omega) HX.out ((HM.out.set3 1 rfl _ _ _).drop 1), ?_⟩
                      show (intOf (.int .i64 ((k1 : Nat) : Int))).toNat < (intOf (.int .i64 ((n : Nat) : Int))).toNat
                      simp only [intOf]
                      omega
                    | false =>
                      rw [if_neg (show ¬ (((sn, false) : Int × Bool).2 = true) from (fun hq => by cases hq))] at H
                      have AH := Aside0.mk H
                      clear H
                      go_wp2
                      go_roundg j1
                      case measure => omega
                      case rel => exact ⟨sn, sn, rfl, rfl, rfl, ⟨by omega⟩, AH, ⟨(HM.out.set3 1 rfl _ _ _).drop 1⟩⟩
              · clear hi
                have b5 : ((j1 : Int) == 5) = false := beq_eq_false_iff_ne.mpr (by omega)
                clear e5
                cases hb3 : ((j1 : Int) == 3)
                all_goals
                  go_upto_region 14 with fail
                  go_cut [13, 11] (fun s13 s11 wx => s13 = .bool mv ∧ s11 = .nilIface ∧ Aside0 (Mem w ((W.heap.size + 1, tb sn) :: (W.heap.size, tb s) :: L.set i (gC, ckO sn)) wx))
                  case first =>
                    go_region_with (first
                      | (go_at_call 68; (first | (with_reducible refine (bumpUD_any k gC (i + 2) rev seg s2 (j1 : Int) sc2 sn mv _ w _ HM.out (get2 _ _ (HCs.out sc2)) HB.out).mono ?_) | (with_reducible refine (bumpUD_any k gC (i + 2) rev seg s2 (j1 : Int) sc2 sn mv _ w _ HM.out.drew (get2 _ _ (HCs.out sc2)) HB.out).mono ?_) | (with_reducible refine (bumpUD_any k gC (i + 2) rev seg s2 (j1 : Int) sc2 sn mv _ w _ (HM.out.drewN _) (get2 _ _ (HCs.out sc2)) HB.out).mono ?_)); rintro e wz ⟨rfl, hmz⟩; rw [set2, List.set_set] at hmz; clear HM; have HM := Aside0.mk hmz; clear hmz; clear c0 c1 c2 c3 c4 c5 c6; obtain ⟨⟨c0, c1, c2⟩, ⟨c3, c4, c5⟩, c6⟩ := HM.out.c3 0 rfl))
                    all_goals (go_wp2_with fail; go_meet; exact ⟨rfl, rfl, ⟨by first | exact HM.out.set3 0 rfl _ _ _ | exact (HM.out.set3 0 rfl _ _ _).drew | exact (HM.out.set3 0 rfl _ _ _).drewN _⟩⟩)
                  case rest =>
                    obtain ⟨rfl, rfl, HM⟩ := hcut
                    cases mv with
                    | true =>
                      rw [if_pos (show (((sn, true) : Int × Bool).2 = true) from rfl)] at H
                      cases H
                      have HX := HX0.out
                      clear HX0
                      unfold lopC at HX
                      rw [if_pos (show (((sn, true) : Int × Bool).2 = true) from rfl)] at HX
                      replace HX := Aside0.mk HX
                      go_wp2
                      go_step3
                      refine ⟨rfl, lopJ.mk (n := k1) (sq := sn) (sc := sn) (by omega) HX.out HM.out, ?_⟩
                      show (intOf (.int .i64 ((k1 : Nat) : Int))).toNat < (intOf (.int .i64 ((n : Nat) : Int))).toNat
                      simp only [intOf]
                      omega
                    | false =>
                      rw [if_neg (show ¬ (((sn, false) : Int × Bool).2 = true) from (fun hq => by cases hq))] at H
                      have AH := Aside0.mk H
                      clear H
                      go_wp2
                      go_roundg j1
                      case measure => omega
                      case rel => exact ⟨sn, sn, rfl, rfl, rfl, ⟨by omega⟩, AH, HM⟩
end Go.Proofs.YtjpcdkhapeejjaaGreatDoor.A
