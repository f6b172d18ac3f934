/- Steps of the proof of the law: contracts of functions of the given program, and plain lemmas about what they compute.
Conditions: none beyond those that each theorem names. -/
import Derived.Test.YtjpcdkhapeejjaaGreatDoorK07
set_option linter.unusedVariables false
set_option linter.unusedSimpArgs false
open Go.RowKit Go.Proofs.YtjpcdkhapeejjaaGreatDoorW.PrintWords Go.Proofs.YtjpcdkhapeejjaaGreatDoorW.PrintLast Go.Proofs.YtjpcdkhapeejjaaGreatDoorW.PrintMore
namespace Go.Proofs.YtjpcdkhapeejjaaGreatDoor.A
open Cal
set_option maxRecDepth 100000
attribute [local go_sem] hset_drewN halloc_drewN
theorem digit_calls (u : Int) (W : World) (h0 : 0 ≤ u) (h1 : u ≤ 9) : Calls Tryz.prog 157 #[.int .u64 u] W fun e w' => e = .returned (.int .u8 (48 + u)) ∧ w' = W := by
  have e1 : IntKind.u8.wrap u = u := by unfold IntKind.wrap; simp [IntKind.bits, IntKind.signed]; omega
  have e2 : IntKind.u8.wrap (48 + u) = 48 + u := by unfold IntKind.wrap; simp [IntKind.bits, IntKind.signed]; omega
  go_enter Tryz.func157, Tryz.ntmps157
  go_wp2
  go_ret
  exact ⟨rfl, rfl⟩
theorem tdiv_n (u n : Int) (h0 : 0 ≤ u) (hu : u ≤ 100000) (hn : 0 < n) : IntKind.u64.wrap (u.tdiv n) = u / n := by
  have e : u.tdiv n = u / n := Int.tdiv_eq_ediv_of_nonneg h0
  have h1 : 0 ≤ u / n := Int.ediv_nonneg h0 (by omega)
  have h2 : u / n ≤ u := Int.ediv_le_self n h0
  rw [e]; unfold IntKind.wrap; simp [IntKind.bits, IntKind.signed]; omega
theorem C_row (W : World) (g : Nat) (cur : Array Value) (t : TypeId) (fz : Nat × Nat) (xs : List Int) (h : W.heap[g]? = some (.cells cur t fz)) (hc : cur = (xs.map (Value.int .u8)).toArray) (hn : xs.length ≤ 9223372036854775807) : (Kd.int .u8).C W (some ⟨g, 0, none⟩) xs.length xs := by
  refine ⟨rfl, hn, fun _ => ⟨_, rfl, fun j p hj => ⟨[.int .u8 p], rfl, rfl, fun i u hu => ?_⟩⟩⟩
  have hi : i = 0 := by
    cases i with
    | zero => rfl
    | succ i => simp at hu
  subst hi
  cases hu
  have hb : ((⟨g, 0, none⟩ : Addr).add (j * 1 + 0)) = ⟨g, j, none⟩ := by
    unfold Addr.add
    split
    · rename_i e; have : j = 0 := by simpa using e
      rw [this]
    · simp
  have : (Kd.int .u8).sz = 1 := rfl
  rw [this, hb]
  unfold World.cell?
  simp only [h, hc]
  simp [hj]
end Go.Proofs.YtjpcdkhapeejjaaGreatDoor.A
namespace Go.Proofs.YtjpcdkhapeejjaaGreatDoor.A
open Go.Lib Cal
set_option maxRecDepth 100000
section
variable {P : Program} (w : World)
theorem run_append_room_tag (t ty e tg : TypeId) (i : TypeInfo) (ht : P.underlying t = some (.slice e)) (hi : P.info? e = some i)
    (g sLen sCap : Nat) (cur : Array Value) (hg : w.heap[g]? = some (.cells cur tg (0, 0)))
    (a : Addr) (m c : Nat) (news : List Value) (hl : news.length = m * i.size) (hnews : ∀ j u, news[j]? = some u → w.cell? (a.add j) = some u) (h1 : ∀ u ∈ news, u.oneCell' = true)
    (hroom : sLen + m ≤ sCap) (hfit : sLen * i.size + news.length ≤ cur.size) :
    (Builtin.append_ #[t, t] ty #[.slice (some ⟨g, 0, none⟩) sLen sCap, .slice (some a) m c]).run P w =
      .ok (.slice (some ⟨g, 0, none⟩) (sLen + m) sCap) (w.setRow g (cur.toList.take (sLen * i.size) ++ news ++ cur.toList.drop (sLen * i.size + news.length)).toArray) := by
  have hf := run_firstCells_some (P := P) w i.size m a m c news hl hnews
  have hst := run_storeCells_at P g (sLen * i.size) tg news 0 cur w hg (by simpa using hfit) h1
  simp only [Nat.add_zero] at hst
  simp [Builtin.append_, run_underlying ht, sizeOf, typeInfo, hi, Builtin.lenOf, hroom, hf, Addr.add_lit, hst]
theorem run_append_room_string_tag (t u ty e tg : TypeId) (i : TypeInfo) (ht : P.underlying t = some (.slice e)) (hu : P.underlying u = some .string) (hi : P.info? e = some i) (hs1 : i.size = 1)
    (g sLen sCap : Nat) (cur : Array Value) (hg : w.heap[g]? = some (.cells cur tg (0, 0))) (s : ByteArray)
    (hroom : sLen + s.size ≤ sCap) (hfit : sLen + s.size ≤ cur.size) :
    (Builtin.append_ #[t, u] ty #[.slice (some ⟨g, 0, none⟩) sLen sCap, .string s]).run P w =
      .ok (.slice (some ⟨g, 0, none⟩) (sLen + s.size) sCap) (w.setRow g (cur.toList.take sLen ++ strCells s ++ cur.toList.drop (sLen + s.size)).toArray) := by
  have hf := run_firstCells_string (P := P) w 1 s
  have hst := run_storeCells_at P g sLen tg (strCells s) 0 cur w hg (by simpa [strCells_length] using hfit) (strCells_oneCell s)
  simp only [Nat.add_zero, strCells_length] at hst
  simp [Builtin.append_, run_underlying ht, run_underlying hu, sizeOf, typeInfo, hi, hs1, Builtin.lenOf, hroom, hf, Addr.add_lit, hst]
end
theorem below_setRow {B : Nat} {a w : World} (h : Below B a w) (g : Nat) (cs : Array Value) (hg : B ≤ g) : Below B a (w.setRow g cs) :=
  h.trans ⟨rfl, rfl, rfl, by simp [World.setRow], fun k hk => by simp only [World.setRow, Array.getElem?_modify]; rw [if_neg (by omega)]⟩
/-- The bytes of a slice over a local array of 64, no older than w0. -/
def Buf (w0 W : World) (v : Value) (xs : List Int) : Prop :=
  ∃ g cur, v = .slice (some ⟨g, 0, none⟩) xs.length 64 ∧ w0.heap.size ≤ g ∧ W.heap[g]? = some (.cells cur 164 (0, 0)) ∧ cur.size = 64 ∧ cur.toList.take xs.length = xs.map (Value.int .u8)
theorem Buf.drewN {w0 W : World} {v : Value} {xs : List Int} (h : Buf w0 W v xs) (n : Nat) : Buf w0 (W.drewN n) v xs := h
theorem Buf.alloc {w0 W : World} {v : Value} {xs : List Int} (h : Buf w0 W v xs) (o : Obj) : Buf w0 (W.alloc o) v xs := by
  obtain ⟨g, cur, e, hb, hg, hr⟩ := h
  exact ⟨g, cur, e, hb, blk_alloc hg o, hr⟩
theorem Buf.below {w0 W W' : World} {v : Value} {xs : List Int} (h : Buf w0 W v xs) (hb : Below W.heap.size W W') : Buf w0 W' v xs := by
  obtain ⟨g, cur, e, hb1, hg, hr⟩ := h
  exact ⟨g, cur, e, hb1, blk_below hg hb, hr⟩
theorem Buf.c {w0 W : World} {v : Value} {xs : List Int} (h : Buf w0 W v xs) : ∃ A, v = .slice A xs.length 64 ∧ (Kd.int .u8).C W A xs.length xs := by
  obtain ⟨g, cur, e, hb1, hg, hs, hr⟩ := h
  have hl : xs.length ≤ 64 := by
    have := congrArg List.length hr
    simp at this
    omega
  refine ⟨_, e, rfl, by omega, fun _ => ⟨_, rfl, fun j p hj => ⟨[.int .u8 p], rfl, rfl, fun i u hu => ?_⟩⟩⟩
  have hi : i = 0 := by
    cases i with
    | zero => rfl
    | succ i => simp at hu
  subst hi
  cases hu
  have hb : ((⟨g, 0, none⟩ : Addr).add (j * 1 + 0)) = ⟨g, j, none⟩ := by
    unfold Addr.add
    split
    · rename_i e; have : j = 0 := by simpa using e
      rw [this]
    · simp
  have : (Kd.int .u8).sz = 1 := rfl
  rw [this, hb]
  unfold World.cell?
  simp only [hg]
  have hjl : j < xs.length := (List.getElem?_eq_some_iff.1 hj).1
  have e1 : (cur.toList.take xs.length)[j]? = some (Value.int .u8 p) := by rw [hr]; simp [hj]
  rw [List.getElem?_take_of_lt hjl] at e1
  simpa using e1
section
variable {ops : Array Oper} {rest : List Oper} {o : Oper} {a : Act} {Q : Exit → Act → World → Prop}
theorem buf_put {w0 W : World} {g : Nat} {cur : Array Value} {xs ys : List Int} (hb : w0.heap.size ≤ g) (hg : W.heap[g]? = some (.cells cur 164 (0, 0))) (hs : cur.size = 64) (hr : cur.toList.take xs.length = xs.map (Value.int .u8)) (hl : xs.length + ys.length ≤ 64) :
    Buf w0 (W.setRow g (cur.toList.take xs.length ++ ys.map (Value.int .u8) ++ cur.toList.drop (xs.length + ys.length)).toArray) (.slice (some ⟨g, 0, none⟩) (xs.length + ys.length) 64) (xs ++ ys) := by
  refine ⟨g, _, by rw [List.length_append], hb, setRow_heap W g cur _ 164 (0, 0) hg, ?_, ?_⟩
  · simp; omega
  · have h1 : (cur.toList.take xs.length ++ ys.map (Value.int .u8)).length = (xs ++ ys).length := by simp; omega
    rw [hr] at h1 ⊢
    show List.take (xs ++ ys).length (xs.map (Value.int .u8) ++ ys.map (Value.int .u8) ++ cur.toList.drop (xs.length + ys.length)) = _
    rw [← h1, List.take_left, List.map_append]
theorem buf_row {w0 W : World} (hgd : o.guard = none) (s x : Operand) (ho : o.op = .call { callee := .builtin .append, args := #[s, x], argTypes := #[163, 163] })
    (v : Value) (xs ys : List Int) (A : Addr) (m c : Nat) (hs : a.eval s = v) (hx : a.eval x = .slice (some A) m c)
    (HO : Buf w0 W v xs) (HR : (Kd.int .u8).C W (some A) m ys) (HB : Below w0.heap.size w0 W) (hl : xs.length + m ≤ 64)
    (h : ∀ v1 w1, Buf w0 w1 v1 (xs ++ ys) → Below w0.heap.size w0 w1 → wpList Tryz.prog ops Q rest (a.put o.dst v1) w1) :
    wpList Tryz.prog ops Q (o :: rest) a W := by
  obtain ⟨g, cur, rfl, hb, hg, hcs, hr⟩ := HO
  obtain ⟨hym, _, hcell⟩ := HR
  subst hym
  have hc2 : ∀ j u, (ys.map (Value.int .u8))[j]? = some u → W.cell? (A.add j) = some u := by
    intro j u hu
    simp at hu
    obtain ⟨y, hy, rfl⟩ := hu
    have hjl : j < ys.length := (List.getElem?_eq_some_iff.1 hy).1
    obtain ⟨ad, e, hcc⟩ := hcell (by omega)
    cases e
    obtain ⟨cc, hsz, hR, hcv⟩ := hcc j y hy
    have := hcv 0 (Value.int .u8 y) (by rw [show cc = [Value.int .u8 y] from hR]; rfl)
    rw [show (Kd.int .u8).sz = 1 from rfl, Nat.mul_one, Nat.add_zero] at this
    exact this
  obtain ⟨ie, hie, hz1⟩ : ∃ i, Tryz.prog.info? 5 = some i ∧ i.size = 1 := by
    have hh := info5
    cases hq : Tryz.prog.info? 5 with
    | none => rw [hq] at hh; simp at hh
    | some i => rw [hq] at hh; simp at hh; exact ⟨i, rfl, by first | exact hh.2.1 | exact hh.2⟩
  have hrun := run_append_room_tag (P := Tryz.prog) W 163 o.type 5 164 ie Tryz.underlying163 hie g xs.length 64 cur hg A ys.length c (ys.map (Value.int .u8)) (by rw [hz1]; simp) hc2 (by intro u hu; simp at hu; obtain ⟨y, _, rfl⟩ := hu; rfl) hl (by rw [hz1]; simp; omega)
  refine wpList_plain hgd fun K hK' => ?_
  unfold Oper.wp
  simp [execOp, ho, resolve, invoke, builtin, hs, hx, hrun, Result.andThen]
  refine hK' _ _ ?_
  refine h _ _ ?_ (below_setRow HB g _ hb)
  have := buf_put (w0 := w0) (ys := ys) hb hg hcs hr hl
  simpa [hz1] using this
theorem buf_str {w0 W : World} (hgd : o.guard = none) (s x : Operand) (ho : o.op = .call { callee := .builtin .append, args := #[s, x], argTypes := #[163, 9] })
    (v : Value) (xs : List Int) (t : ByteArray) (hs : a.eval s = v) (hx : a.eval x = .string t)
    (HO : Buf w0 W v xs) (HB : Below w0.heap.size w0 W) (hl : xs.length + t.size ≤ 64)
    (h : ∀ v1 w1, Buf w0 w1 v1 (xs ++ bytesOf t) → Below w0.heap.size w0 w1 → wpList Tryz.prog ops Q rest (a.put o.dst v1) w1) :
    wpList Tryz.prog ops Q (o :: rest) a W := by
  obtain ⟨g, cur, rfl, hb, hg, hcs, hr⟩ := HO
  obtain ⟨ie, hie, hz1⟩ : ∃ i, Tryz.prog.info? 5 = some i ∧ i.size = 1 := by
    have hh := info5
    cases hq : Tryz.prog.info? 5 with
    | none => rw [hq] at hh; simp at hh
    | some i => rw [hq] at hh; simp at hh; exact ⟨i, rfl, by first | exact hh.2.1 | exact hh.2⟩
  have hrun := run_append_room_string_tag (P := Tryz.prog) W 163 9 o.type 5 164 ie Tryz.underlying163 Tryz.underlying9 hie hz1 g xs.length 64 cur hg t hl (by omega)
  refine wpList_plain hgd fun K hK' => ?_
  unfold Oper.wp
  simp [execOp, ho, resolve, invoke, builtin, hs, hx, hrun, Result.andThen]
  refine hK' _ _ ?_
  refine h _ _ ?_ (below_setRow HB g _ hb)
  have hbl : (bytesOf t).length = t.size := by simp [bytesOf, data_length]
  have hsc : strCells t = (bytesOf t).map (Value.int .u8) := by simp [strCells, bytesOf]
  have := buf_put (w0 := w0) (ys := bytesOf t) hb hg hcs hr (by rw [hbl]; exact hl)
  rw [hbl, ← hsc] at this
  simpa using this
end
end Go.Proofs.YtjpcdkhapeejjaaGreatDoor.A
