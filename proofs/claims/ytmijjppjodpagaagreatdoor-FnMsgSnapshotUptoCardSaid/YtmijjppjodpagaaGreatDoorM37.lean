/-
  parseNext at the end.
  What a parser gathers: a piece of its input without room, or a row of its own.
  The functions that parseString calls, in these texts' own words.
  (*Decoder).parseString: the loop of its body, and what holds at the head of each round.
  (*Decoder).parseString, a round: the closing quote.
-/
import Derived.Test.YtmijjppjodpagaaGreatDoorM31
import Derived.Test.YtmijjppjodpagaaGreatDoorM05
import Derived.Test.YtmijjppjodpagaaGreatDoorM27
import Derived.Test.YtmijjppjodpagaaGreatDoorM15
import Derived.Test.YtmijjppjodpagaaGreatDoorM28
import Derived.Test.YtmijjppjodpagaaGreatDoorM29
import Derived.Deep.RegionLaw
set_option linter.unusedVariables false
set_option linter.unusedSimpArgs false
namespace Go.Proofs.YtmijjppjodpagaaGreatDoor
open Go.RowKit

set_option maxRecDepth 1000000 in
set_option maxHeartbeats 20000000 in
theorem next_eof0 (D : Nat) (cur : Array Value) (vo vi : Value) (orig : List UInt8) (w : World) (hrow : w.heap[D]? = some (.cells cur 129 (0, 0))) (ho : cur[9]? = some vo) (hin : cur[10]? = some vi) (h8 : cur[8]? = some (.slice none 0 0)) (hsz : cur.size = 11) (hvo : BytesAt w vo orig) (hvD : vi.ownBlock ≠ some D) (hoD : vo.ownBlock ≠ some D)
    (hv : BytesAt w vi []) (hvl : ∀ j, vi.ownBlock = some j → j < w.heap.size) :
    Calls Tryz.prog 85 #[.pointer (some ⟨D, 0, none⟩), .int .u8 0] w (NextPost D cur vi w 1 0 0 ⟨#[]⟩ [] []) := by
  have hDl := row_lt hrow
  have hK1 : ∀ A, Keeps (fun _ => False) w (w.alloc A) := fun A => (Keeps.refl _ w).alloc A
  have HSE : Hid (skip (([] : List UInt8).drop 0) = []) := rfl
  have HSK : Hid (∀ r, skip (([] : List UInt8).drop 0) ≠ 35 :: r) := fun r hr => by cases hr
  have HV := Lib.hid hv
  have HVO := Lib.hid hvo
  have HR := Lib.hid hrow
  clear hv hvo hrow
  go_enter Tryz.func85, Tryz.ntmps85
  go_wp2_with (first
    | (go_at_call 113; refine (dconsume D cur vi [] 0 (Nat.zero_le _) _ ((hK1 _).row HR.out id) hin (HV.out.keeps (hK1 _) (fun _ _ => id)) HSK.out).mono ?_; rintro e w1 ⟨rfl, V0, hb0, hi0, hw1⟩; obtain ⟨h1D, h1K, h1k, hb1⟩ := next_start D cur vi V0 _ w w1 _ HR.out HV.out hvD hi0 hb0 hw1; clear hw1 hb0; rw [HSE.out] at hb1; obtain ⟨a0, c0, hf0, hcc, hcm⟩ := hb1.form; subst hf0; have hc10 := (cell_row (j := 10) h1D).trans (setIn_same hsz); have hc8 := (cell_row (j := 8) h1D).trans (setIn_other h8); have H1D := Lib.hid h1D; have H1K := Lib.hid h1K; have H1k := Lib.hid h1k; have HB1 := Lib.hid hb1; have HI0 := Lib.hid hi0; clear h1D h1K h1k hb1 hi0)

    | (go_at_call 114; refine (consumeToken_any D _ vo _ orig [] 1 0 0 (Nat.zero_le _) _ H1D.out ((setIn_other' (by decide)).trans ho) (setIn_same hsz) (HVO.out.keeps H1k.out (fun j hj e => by subst e; exact hoD hj)) HB1.out HSK.out).mono ?_; rintro e w2 ⟨raw, V, pos, rfl, hraw, hri, hV, hVi, hk2, hrD⟩; have hrK := hk2.row H1K.out (by omega); have hfK := fun j => frozen_row (j := j) hrK; have k0 := cell_row (j := 0) hrK; have k1 := cell_row (j := 1) hrK; have k2 := cell_row (j := 2) hrK; have k3 := cell_row (j := 3) hrK; have k4 := cell_row (j := 4) hrK; have k5 := cell_row (j := 5) hrK; simp at k0 k1 k2 k3 k4 k5; obtain ⟨ar, cr, hrf, _, _⟩ := hraw.form; subst hrf))
  refine bodyPost_ret (results_cell_slot (p := 4) (u := 5) rfl _ _ w.heap.size (0, 0) rfl (store6_row hrK _ _ _ _ _ _)) rfl ?_
  exact next_end D cur vi w _ w2 w.heap.size (Nat.le_refl _) hDl H1k.out hk2 hraw (HI0.out.trans hri) hV (HI0.out.trans hVi) hvD hvl (by rw [hrD, Array.setIfInBounds_setIfInBounds])

set_option maxRecDepth 1000000 in
set_option maxHeartbeats 20000000 in
theorem next_eof3 (D : Nat) (cur : Array Value) (vo vi : Value) (orig : List UInt8) (w : World) (hrow : w.heap[D]? = some (.cells cur 129 (0, 0))) (ho : cur[9]? = some vo) (hin : cur[10]? = some vi) (h8 : cur[8]? = some (.slice none 0 0)) (hsz : cur.size = 11) (hvo : BytesAt w vo orig) (hvD : vi.ownBlock ≠ some D) (hoD : vo.ownBlock ≠ some D)
    (hv : BytesAt w vi []) (hvl : ∀ j, vi.ownBlock = some j → j < w.heap.size) :
    Calls Tryz.prog 85 #[.pointer (some ⟨D, 0, none⟩), .int .u8 3] w (NextPost D cur vi w 1 0 0 ⟨#[]⟩ [] []) := by
  have hDl := row_lt hrow
  have hK1 : ∀ A, Keeps (fun _ => False) w (w.alloc A) := fun A => (Keeps.refl _ w).alloc A
  have HSE : Hid (skip (([] : List UInt8).drop 0) = []) := rfl
  have HSK : Hid (∀ r, skip (([] : List UInt8).drop 0) ≠ 35 :: r) := fun r hr => by cases hr
  have HV := Lib.hid hv
  have HVO := Lib.hid hvo
  have HR := Lib.hid hrow
  clear hv hvo hrow
  go_enter Tryz.func85, Tryz.ntmps85
  go_wp2_with (first
    | (go_at_call 113; refine (dconsume D cur vi [] 0 (Nat.zero_le _) _ ((hK1 _).row HR.out id) hin (HV.out.keeps (hK1 _) (fun _ _ => id)) HSK.out).mono ?_; rintro e w1 ⟨rfl, V0, hb0, hi0, hw1⟩; obtain ⟨h1D, h1K, h1k, hb1⟩ := next_start D cur vi V0 _ w w1 _ HR.out HV.out hvD hi0 hb0 hw1; clear hw1 hb0; rw [HSE.out] at hb1; obtain ⟨a0, c0, hf0, hcc, hcm⟩ := hb1.form; subst hf0; have hc10 := (cell_row (j := 10) h1D).trans (setIn_same hsz); have hc8 := (cell_row (j := 8) h1D).trans (setIn_other h8); have H1D := Lib.hid h1D; have H1K := Lib.hid h1K; have H1k := Lib.hid h1k; have HB1 := Lib.hid hb1; have HI0 := Lib.hid hi0; clear h1D h1K h1k hb1 hi0)
    | (go_at_call 118; refine (openKind_top D _ hc8).mono ?_; rintro e w3 ⟨rfl, rfl⟩)
    | (go_at_call 114; refine (consumeToken_any D _ vo _ orig [] 1 0 0 (Nat.zero_le _) _ H1D.out ((setIn_other' (by decide)).trans ho) (setIn_same hsz) (HVO.out.keeps H1k.out (fun j hj e => by subst e; exact hoD hj)) HB1.out HSK.out).mono ?_; rintro e w2 ⟨raw, V, pos, rfl, hraw, hri, hV, hVi, hk2, hrD⟩; have hrK := hk2.row H1K.out (by omega); have hfK := fun j => frozen_row (j := j) hrK; have k0 := cell_row (j := 0) hrK; have k1 := cell_row (j := 1) hrK; have k2 := cell_row (j := 2) hrK; have k3 := cell_row (j := 3) hrK; have k4 := cell_row (j := 4) hrK; have k5 := cell_row (j := 5) hrK; simp at k0 k1 k2 k3 k4 k5; obtain ⟨ar, cr, hrf, _, _⟩ := hraw.form; subst hrf))
  refine bodyPost_ret (results_cell_slot (p := 4) (u := 5) rfl _ _ w.heap.size (0, 0) rfl (store6_row hrK _ _ _ _ _ _)) rfl ?_
  exact next_end D cur vi w _ w2 w.heap.size (Nat.le_refl _) hDl H1k.out hk2 hraw (HI0.out.trans hri) hV (HI0.out.trans hVi) hvD hvl (by rw [hrD, Array.setIfInBounds_setIfInBounds])
end Go.Proofs.YtmijjppjodpagaaGreatDoor

namespace Go.Proofs.YtmijjppjodpagaaGreatDoor
open Go.RowKit

/-- append(v, s...): v a slice without room that is not owned; s a string, not empty. -/
theorem run_full_str (ty : TypeId) (w : World) {a : Option Addr} {l r : List UInt8} (h : BytesAt w (.slice a l.length l.length) l) (ha : a.isSome = true) (hr : r ≠ []) (hb : l.length + r.length ≤ 140737488355328) :
    ∃ v' w', (Builtin.append_ #[31, 9] ty #[.slice a l.length l.length, .string (mk r)]).run Tryz.prog w = .ok v' w' ∧ Own w' v' (l ++ r) ∧ Keeps (fun _ => False) w w' ∧ (∀ k, v'.ownBlock = some k → w.heap.size ≤ k) := by
  obtain ⟨i0, hi, hz0, hz1, hz2⟩ := info_parts info5
  have hr0 : 0 < r.length := List.length_pos_iff.2 hr
  obtain ⟨a0, c0, hv0, hc0, hm0, h0⟩ := h
  cases hv0
  obtain ⟨p, rfl⟩ := Option.isSome_iff_exists.1 ha
  have holds : ∀ j u, (bv l)[j]? = some u → w.cell? (p.add j) = some u := by
    intro j u hu
    have hj : j < l.length := by have := (List.getElem?_eq_some_iff.1 hu).1; simpa [bv_length] using this
    rw [bv_get hj] at hu
    rcases h0 with h0 | ⟨b0, off0, e0, h0⟩
    · subst h0; simp at hj
    · cases e0
      rw [Addr.add_lit, h0 j hj]; exact hu
  have hrun := Lib.run_append_grow_string (P := Tryz.prog) w 31 9 ty 5 i0 _ Tryz.underlying31 Tryz.underlying9 hi hz0 p l.length l.length (bv l) (by rw [bv_length, hz1, Nat.mul_one])
    holds (mk r) (by rw [mk_size]; omega) (by rw [mk_size]; omega) (by rw [hz2, mk_size]; exact growslice_fits (by omega) (by omega))
  rw [mk_size, strCells_mk] at hrun
  have hge := grownCap_ge w (l.length + r.length) l.length 5
  have hgm := grownCap_le_maxLen w (l.length + r.length) l.length 5 (by unfold maxLen; omega)
  refine ⟨_, _, hrun, .inr ⟨w.heap.size, _, _, by rw [List.length_append], heap_alloc_new w.drew _, by rw [List.length_append]; exact hge, hgm, ?_, ?_⟩, ⟨rfl, rfl, rfl, by simp, fun k hk _ => Below.heap_alloc w.drew _ k hk⟩, fun k hk => ?_⟩
  · simp only [Array.size_append, List.size_toArray, size_zeroCells, bv_length]
    rw [show (Value.int IntKind.u8 0).cells.size = 1 from rfl, Nat.mul_one]
    omega
  · simp only [Array.toList_append, List.append_assoc, List.length_append]
    rw [← List.append_assoc, ← bv_append, ← List.length_append, ← bv_length (l ++ r)]
    exact List.take_left
  · simp [Value.ownBlock] at hk
    omega

/-- v reads as l in w: a piece of a block that B has, without room, not of block D; or a row that is newer than B. w is B but for new blocks. -/
structure Buf (D : Nat) (B w : World) (v : Value) (l : List UInt8) : Prop where
  keeps : Keeps (fun _ => False) B w
  form : (∃ a, v = .slice (some a) l.length l.length ∧ a.block ≠ D ∧ BytesAt B v l) ∨ (Own w v l ∧ ∀ k, v.ownBlock = some k → B.heap.size ≤ k)

theorem Buf.bytes {D : Nat} {B w : World} {v : Value} {l : List UInt8} (h : Buf D B w v l) : BytesAt w v l := by
  rcases h.form with ⟨a, _, _, hb⟩ | ⟨ho, _⟩
  · exact hb.keeps h.keeps (fun _ _ => id)
  · exact ho.bytes
theorem Buf.below {D : Nat} {B w w' : World} {v : Value} {l : List UInt8} (h : Buf D B w v l) (hk : Keeps (fun _ => False) w w') : Buf D B w' v l := by
  refine ⟨h.keeps.trans hk (fun _ _ => id), ?_⟩
  rcases h.form with h1 | ⟨ho, h2⟩
  · exact .inl h1
  · exact .inr ⟨ho.below hk, h2⟩
theorem Buf.ne {D : Nat} {B w : World} {v : Value} {l : List UInt8} (h : Buf D B w v l) (hD : D < B.heap.size) : ∀ k, v.ownBlock = some k → k ≠ D := by
  intro k hk
  rcases h.form with ⟨a, rfl, ha, _⟩ | ⟨_, h2⟩
  · simp only [Value.ownBlock, Option.some.injEq] at hk
    subst hk; exact ha
  · have := h2 k hk; omega
theorem Buf.alloc {D : Nat} {B w : World} {v : Value} {l : List UInt8} (h : Buf D B w v l) (o : Obj) : Buf D B (w.alloc o) v l := h.below ((Keeps.refl _ w).alloc o)
theorem Buf.drew {D : Nat} {B w : World} {v : Value} {l : List UInt8} (h : Buf D B w v l) : Buf D B w.drew v l := h.below (Keeps.refl _ w).drew

theorem Buf.app (ty : TypeId) {D : Nat} {B w : World} {v x : Value} {l r : List UInt8} (h : Buf D B w v l) (hx : BytesAt w x r) (hr : r ≠ []) (hb : l.length + r.length ≤ 140737488355328) :
    ∃ v' w', (Builtin.append_ #[31, 31] ty #[v, x]).run Tryz.prog w = .ok v' w' ∧ Buf D B w' v' (l ++ r) := by
  rcases h.form with ⟨a, rfl, _, hb1⟩ | ⟨ho, h2⟩
  · obtain ⟨v', w', hrun, h1, h3, h4⟩ := run_full_app ty w (hb1.keeps h.keeps (fun _ _ => id)) rfl hx hr hb
    exact ⟨v', w', hrun, h.keeps.trans h3 (fun _ _ => id), .inr ⟨h1, fun k hk => Nat.le_trans h.keeps.size (h4 k hk)⟩⟩
  · obtain ⟨v', w', hrun, h1, h3, h4, _⟩ := run_own_app ty w ho hx hb
    refine ⟨v', w', hrun, h.keeps.trans h3 (fun i hi hi2 => absurd (h2 i hi2) (by omega)), .inr ⟨h1, fun k hk => ?_⟩⟩
    rcases h4 k hk with h5 | h5
    · exact h2 k h5
    · exact Nat.le_trans h.keeps.size h5
theorem buf_str (ty : TypeId) {D : Nat} {B w : World} {v : Value} {l r : List UInt8} (h : Buf D B w v l) (hr : r ≠ []) (hb : l.length + r.length ≤ 140737488355328) :
    ∃ v' w', (Builtin.append_ #[31, 9] ty #[v, .string (mk r)]).run Tryz.prog w = .ok v' w' ∧ Buf D B w' v' (l ++ r) := by
  rcases h.form with ⟨a, rfl, _, hb1⟩ | ⟨ho, h2⟩
  · obtain ⟨v', w', hrun, h1, h3, h4⟩ := run_full_str ty w (hb1.keeps h.keeps (fun _ _ => id)) rfl hr hb
    exact ⟨v', w', hrun, h.keeps.trans h3 (fun _ _ => id), .inr ⟨h1, fun k hk => Nat.le_trans h.keeps.size (h4 k hk)⟩⟩
  · obtain ⟨v', w', hrun, h1, h3, h4, _⟩ := run_own_str ty w ho hb
    refine ⟨v', w', hrun, h.keeps.trans h3 (fun i hi hi2 => absurd (h2 i hi2) (by omega)), .inr ⟨h1, fun k hk => ?_⟩⟩
    rcases h4 k hk with h5 | h5
    · exact h2 k h5
    · exact Nat.le_trans h.keeps.size h5

section
variable {ops : Array Oper} {rest : List Oper} {o : Oper} {a : Act} {Q : Exit → Act → World → Prop} {w : World} {D : Nat} {B : World} {K : Act → World → Prop} {E : Prop}
theorem at_buf_str {v : Value} {l : List UInt8} (h : Buf D B w v l) (s x : Operand) (r : List UInt8) (hr : r ≠ []) (hb : l.length + r.length ≤ 140737488355328)
    (hgd : o.guard = none) (ho : o.op = .call { callee := .builtin .append, args := #[s, x], argTypes := #[31, 9] }) (hs : a.eval s = v) (hx : a.eval x = .string (mk r))
    (hk : ∀ v' w', Buf D B w' v' (l ++ r) → wpList Tryz.prog ops Q rest (a.put o.dst v') w') : wpList Tryz.prog ops Q (o :: rest) a w := by
  refine wpList_plain hgd fun K hK => ?_
  obtain ⟨v', w', hr, h2⟩ := buf_str o.type h hr hb
  unfold Oper.wp execOp
  simp only [ho, resolve, invoke, builtin, Sem.run_bind, Sem.run_pure, Result.andThen_ok, List.map_toArray, List.map_cons, List.map_nil, hs, hx, hr]
  exact hK _ _ (hk v' w' h2)
theorem step_buf_app {v : Value} {l : List UInt8} (h : Buf D B w v l) (s x : Operand) {xv : Value} {r : List UInt8} (hxb : BytesAt w xv r) (hr : r ≠ []) (hb : l.length + r.length ≤ 140737488355328)
    (hgd : o.guard = none) (ho : o.op = .call { callee := .builtin .append, args := #[s, x], argTypes := #[31, 31] }) (hs : a.eval s = v) (hx : a.eval x = xv)
    (hk : ∀ v' w', Buf D B w' v' (l ++ r) → K (a.put o.dst v') w') : if Region.wanted o (yielded ops a.tmps) = true then Oper.wp Tryz.prog o a w K Q else E := by
  rw [if_pos (by simp [Region.wanted, hgd])]
  obtain ⟨v', w', hr, h2⟩ := h.app o.type hxb hr hb
  unfold Oper.wp execOp
  simp only [ho, resolve, invoke, builtin, Sem.run_bind, Sem.run_pure, Result.andThen_ok, List.map_toArray, List.map_cons, List.map_nil, hs, hx, hr]
  exact hk v' w' h2
/-- A byte that the region has laid. -/
theorem step_buf_lit {v : Value} {l : List UInt8} (h : Buf D B w v l) (s x : Operand) (c : UInt8) (hb : l.length + 1 ≤ 140737488355328)
    (hgd : o.guard = none) (ho : o.op = .call { callee := .builtin .append, args := #[s, x], argTypes := #[31, 31] }) (hs : a.eval s = v) (hx : a.eval x = .slice (some ⟨w.heap.size, 0, none⟩) 1 1)
    (hk : ∀ v' w', Buf D B w' v' (l ++ [c]) → K (a.put o.dst v') w') :
    if Region.wanted o (yielded ops a.tmps) = true then Oper.wp Tryz.prog o a (w.alloc (.cells #[.int .u8 (c.toNat : Int)] 5)) K Q else E :=
  step_buf_app (h.alloc _) s x (bytesAt_new w [c] (by simp [maxLen])) (by simp) hb hgd ho hs hx hk
end
end Go.Proofs.YtmijjppjodpagaaGreatDoor

namespace Go.Proofs.YtmijjppjodpagaaGreatDoor
open Go.RowKit

set_option maxRecDepth 100000 in
theorem indexNeed_bytes (v : Value) (l : List UInt8) (w : World) (hv : BytesAt w v l) :
    Calls Tryz.prog 210 #[v] w fun e w' => e = .returned (.int .i64 (pre l : Nat)) ∧ w = w' := by
  obtain ⟨a, c, rfl, hc, hm⟩ := hv.form
  have hrun := run_to_str hv
  have hsz := mk_size l
  obtain ⟨s, hs⟩ : ∃ s, mk l = s := ⟨_, rfl⟩
  have HS := Lib.hid hs
  rw [hs] at hrun hsz
  clear hs
  unfold maxLen at hm
  go_enter Tryz.func210, Tryz.ntmps210
  go_wp2_with (first | (go_at_call 184; go_in) | (go_at_call 75; (rw [← HS.out]); refine (indexNeed_any l (by omega) w).mono ?_; rintro e w' ⟨rfl, rfl⟩))
  go_ret
  exact ⟨rfl, rfl⟩

end Go.Proofs.YtmijjppjodpagaaGreatDoor

namespace Go.Proofs.YtmijjppjodpagaaGreatDoor
open Go.RowKit

/-- The first loop of a body. -/
def firstLoop : Code → Option Code
  | .loop c => some c
  | .seq a b => match firstLoop a with
    | some c => some c
    | none => firstLoop b
  | .block _ c => firstLoop c
  | .scope c => firstLoop c
  | .cond _ a b => match firstLoop a with
    | some c => some c
    | none => firstLoop b
  | _ => none
noncomputable def psBody : Code := ((Tryz.f180.body.bind firstLoop).getD .skip)

/-- B is the world ahead of the loop. -/
def UnqRel (D : Nat) (B : World) (l T : List UInt8) (iv ov : Value) (wr : World) : Prop :=
  ∃ r o, BytesAt B iv (encL false r ++ 34 :: T) ∧ Buf D B wr ov o ∧ o ++ r = l

theorem BytesAt.spot {w : World} {v : Value} {l : List UInt8} (h : BytesAt w v l) (hl : l ≠ []) : ∃ b off c, v = .slice (some ⟨b, off, none⟩) l.length c ∧ l.length ≤ c ∧ c ≤ maxLen := by
  obtain ⟨a, c, rfl, h1, h2, h⟩ := h
  obtain ⟨b, off, rfl, _⟩ := h.resolve_left hl
  exact ⟨b, off, c, rfl, h1, h2⟩
theorem dec_head (c : UInt8) (X : List UInt8) (h : c.toNat < 128) : dec (c :: X) = (c.toNat, 1) := (dec_ascii (c :: X) (by simp)).2 h

/-- What a call of parseString leaves. -/
def Parsed (D : Nat) (v : Value) (l T : List UInt8) (w : World) (e : Ending) (w' : World) : Prop :=
  e = .returned (.tuple #[.string (mk l), .nilIface]) ∧ ∃ V w1, w' = w1.setCell ⟨D, 10, none⟩ V ∧ Keeps (fun _ => False) w w1 ∧ BytesAt w1 V (skip T) ∧ Within v V

/-- What is asked behind the loop: that the call returns. -/
def retPost (Qr : Act → World → Prop) : Exit → Act → World → Prop
  | .ret, a, w => Qr a w
  | _, _, _ => False

/-- The head of a round. -/
def PSI (D : Nat) (B : World) (l T : List UInt8) (a : Act) (w' : World) : Prop :=
  a.defers = [] ∧ a.tmps.size = 358 ∧ a.tmps.getD 0 undef = .pointer (some ⟨D, 0, none⟩) ∧ a.tmps.getD 5 undef = .int .u8 34 ∧ UnqRel D B l T (a.tmps.getD 4 undef) (a.tmps.getD 7 undef) w'
def PSmu (a : Act) (_ : World) : Nat := lenOf (a.tmps.getD 4 undef)

set_option maxRecDepth 1000000 in
theorem range_map_n (g : Nat → Value) : (List.range 358).map g = [g 0, g 1, g 2, g 3, g 4, g 5, g 6, g 7, g 8, g 9, g 10, g 11, g 12, g 13, g 14, g 15, g 16, g 17, g 18, g 19, g 20, g 21, g 22, g 23, g 24, g 25, g 26, g 27, g 28, g 29, g 30, g 31, g 32, g 33, g 34, g 35, g 36, g 37, g 38, g 39, g 40, g 41, g 42, g 43, g 44, g 45, g 46, g 47, g 48, g 49, g 50, g 51, g 52, g 53, g 54, g 55, g 56, g 57, g 58, g 59, g 60, g 61, g 62, g 63, g 64, g 65, g 66, g 67, g 68, g 69, g 70, g 71, g 72, g 73, g 74, g 75, g 76, g 77, g 78, g 79, g 80, g 81, g 82, g 83, g 84, g 85, g 86, g 87, g 88, g 89, g 90, g 91, g 92, g 93, g 94, g 95, g 96, g 97, g 98, g 99, g 100, g 101, g 102, g 103, g 104, g 105, g 106, g 107, g 108, g 109, g 110, g 111, g 112, g 113, g 114, g 115, g 116, g 117, g 118, g 119, g 120, g 121, g 122, g 123, g 124, g 125, g 126, g 127, g 128, g 129, g 130, g 131, g 132, g 133, g 134, g 135, g 136, g 137, g 138, g 139, g 140, g 141, g 142, g 143, g 144, g 145, g 146, g 147, g 148, g 149, g 150, g 151, g 152, g 153, g 154, g 155, g 156, g 157, g 158, g 159, g 160, g 161, g 162, g 163, g 164, g 165, g 166, g 167, g 168, g 169, g 170, g 171, g 172, g 173, g 174, g 175, g 176, g 177, g 178, g 179, g 180, g 181, g 182, g 183, g 184, g 185, g 186, g 187, g 188, g 189, g 190, g 191, g 192, g 193, g 194, g 195, g 196, g 197, g 198, g 199, g 200, g 201, g 202, g 203, g 204, g 205, g 206, g 207, g 208, g 209, g 210, g 211, g 212, g 213, g 214, g 215, g 216, g 217, g 218, g 219, g 220, g 221, g 222, g 223, g 224, g 225, g 226, g 227, g 228, g 229, g 230, g 231, g 232, g 233, g 234, g 235, g 236, g 237, g 238, g 239, g 240, g 241, g 242, g 243, g 244, g 245, g 246, g 247, g 248, g 249, g 250, g 251, g 252, g 253, g 254, g 255, g 256, g 257, g 258, g 259, g 260, g 261, g 262, g 263, g 264, g 265, g 266, g 267, g 268, g 269, g 270, g 271, g 272, g 273, g 274, g 275, g 276, g 277, g 278, g 279, g 280, g 281, g 282, g 283, g 284, g 285, g 286, g 287, g 288, g 289, g 290, g 291, g 292, g 293, g 294, g 295, g 296, g 297, g 298, g 299, g 300, g 301, g 302, g 303, g 304, g 305, g 306, g 307, g 308, g 309, g 310, g 311, g 312, g 313, g 314, g 315, g 316, g 317, g 318, g 319, g 320, g 321, g 322, g 323, g 324, g 325, g 326, g 327, g 328, g 329, g 330, g 331, g 332, g 333, g 334, g 335, g 336, g 337, g 338, g 339, g 340, g 341, g 342, g 343, g 344, g 345, g 346, g 347, g 348, g 349, g 350, g 351, g 352, g 353, g 354, g 355, g 356, g 357] := by rfl
set_option maxRecDepth 1000000 in
theorem frame_n (a : Act) (hs : a.tmps.size = 358) (hd : a.defers = []) : ∃ f : Nat → Value, (∀ i, f i = a.tmps.getD i undef) ∧ a = ⟨#[f 0, f 1, f 2, f 3, f 4, f 5, f 6, f 7, f 8, f 9, f 10, f 11, f 12, f 13, f 14, f 15, f 16, f 17, f 18, f 19, f 20, f 21, f 22, f 23, f 24, f 25, f 26, f 27, f 28, f 29, f 30, f 31, f 32, f 33, f 34, f 35, f 36, f 37, f 38, f 39, f 40, f 41, f 42, f 43, f 44, f 45, f 46, f 47, f 48, f 49, f 50, f 51, f 52, f 53, f 54, f 55, f 56, f 57, f 58, f 59, f 60, f 61, f 62, f 63, f 64, f 65, f 66, f 67, f 68, f 69, f 70, f 71, f 72, f 73, f 74, f 75, f 76, f 77, f 78, f 79, f 80, f 81, f 82, f 83, f 84, f 85, f 86, f 87, f 88, f 89, f 90, f 91, f 92, f 93, f 94, f 95, f 96, f 97, f 98, f 99, f 100, f 101, f 102, f 103, f 104, f 105, f 106, f 107, f 108, f 109, f 110, f 111, f 112, f 113, f 114, f 115, f 116, f 117, f 118, f 119, f 120, f 121, f 122, f 123, f 124, f 125, f 126, f 127, f 128, f 129, f 130, f 131, f 132, f 133, f 134, f 135, f 136, f 137, f 138, f 139, f 140, f 141, f 142, f 143, f 144, f 145, f 146, f 147, f 148, f 149, f 150, f 151, f 152, f 153, f 154, f 155, f 156, f 157, f 158, f 159, f 160, f 161, f 162, f 163, f 164, f 165, f 166, f 167, f 168, f 169, f 170, f 171, f 172, f 173, f 174, f 175, f 176, f 177, f 178, f 179, f 180, f 181, f 182, f 183, f 184, f 185, f 186, f 187, f 188, f 189, f 190, f 191, f 192, f 193, f 194, f 195, f 196, f 197, f 198, f 199, f 200, f 201, f 202, f 203, f 204, f 205, f 206, f 207, f 208, f 209, f 210, f 211, f 212, f 213, f 214, f 215, f 216, f 217, f 218, f 219, f 220, f 221, f 222, f 223, f 224, f 225, f 226, f 227, f 228, f 229, f 230, f 231, f 232, f 233, f 234, f 235, f 236, f 237, f 238, f 239, f 240, f 241, f 242, f 243, f 244, f 245, f 246, f 247, f 248, f 249, f 250, f 251, f 252, f 253, f 254, f 255, f 256, f 257, f 258, f 259, f 260, f 261, f 262, f 263, f 264, f 265, f 266, f 267, f 268, f 269, f 270, f 271, f 272, f 273, f 274, f 275, f 276, f 277, f 278, f 279, f 280, f 281, f 282, f 283, f 284, f 285, f 286, f 287, f 288, f 289, f 290, f 291, f 292, f 293, f 294, f 295, f 296, f 297, f 298, f 299, f 300, f 301, f 302, f 303, f 304, f 305, f 306, f 307, f 308, f 309, f 310, f 311, f 312, f 313, f 314, f 315, f 316, f 317, f 318, f 319, f 320, f 321, f 322, f 323, f 324, f 325, f 326, f 327, f 328, f 329, f 330, f 331, f 332, f 333, f 334, f 335, f 336, f 337, f 338, f 339, f 340, f 341, f 342, f 343, f 344, f 345, f 346, f 347, f 348, f 349, f 350, f 351, f 352, f 353, f 354, f 355, f 356, f 357], []⟩ := by
  refine ⟨fun i => a.tmps.getD i undef, fun _ => rfl, ?_⟩
  obtain ⟨t, d⟩ := a
  subst hd
  obtain ⟨L⟩ := t
  have h := range_map_n fun i => (Array.mk L).getD i undef
  have h2 : L = (List.range 358).map fun i => (Array.mk L).getD i undef := by
    refine List.ext_getElem (by simpa using hs) fun i h1 h2 => ?_
    simp [h1]
  exact congrArg (fun X => Act.mk (Array.mk X) []) (h2.trans h)
end Go.Proofs.YtmijjppjodpagaaGreatDoor

namespace Go.Proofs.YtmijjppjodpagaaGreatDoor
open Go.RowKit

set_option maxRecDepth 1000000 in
set_option maxHeartbeats 40000000 in
theorem ps_close (D : Nat) (cur : Array Value) (w wr : World) (v1 iv ov : Value) (l T o Y X0 : List UInt8) (f : Nat → Value) (Qr : Act → World → Prop) (hrow : w.heap[D]? = some (.cells cur 129 (0, 0))) (hin : cur[10]? = some v1)
    (hv : BytesAt w v1 X0) (hlen : X0.length ≤ 140737488200000) (hXT : ∃ A, X0 = A ++ T) (hs : ∀ r, skip T ≠ 35 :: r) (hX1 : T.length + 1 ≤ X0.length)
    (hT : Tabs w) (hl : l.length ≤ 140737488200000) (hY : Y = 34 :: T) (hne : Y ≠ []) (hbi : BytesAt w iv Y) (hbo : Buf D w wr ov o) (hor : o = l)
    (hexit : ∀ a w' v, (results Tryz.f180 a.tmps).run Tryz.prog w' = .ok v w' → a.defers = [] → Parsed D v1 l T w (.returned v) w' → Qr a w') :
    Code.wp Tryz.prog psBody (Exit.then (fun a' w'' => PSI D w l T a' w'' ∧ PSmu a' w'' < lenOf iv) (retPost Qr)) ⟨#[.pointer (some ⟨D, 0, none⟩), f 1, f 2, f 3, iv, .int .u8 34, f 6, ov, f 8, f 9, f 10, f 11, f 12, f 13, f 14, f 15, f 16, f 17, f 18, f 19, f 20, f 21, f 22, f 23, f 24, f 25, f 26, f 27, f 28, f 29, f 30, f 31, f 32, f 33, f 34, f 35, f 36, f 37, f 38, f 39, f 40, f 41, f 42, f 43, f 44, f 45, f 46, f 47, f 48, f 49, f 50, f 51, f 52, f 53, f 54, f 55, f 56, f 57, f 58, f 59, f 60, f 61, f 62, f 63, f 64, f 65, f 66, f 67, f 68, f 69, f 70, f 71, f 72, f 73, f 74, f 75, f 76, f 77, f 78, f 79, f 80, f 81, f 82, f 83, f 84, f 85, f 86, f 87, f 88, f 89, f 90, f 91, f 92, f 93, f 94, f 95, f 96, f 97, f 98, f 99, f 100, f 101, f 102, f 103, f 104, f 105, f 106, f 107, f 108, f 109, f 110, f 111, f 112, f 113, f 114, f 115, f 116, f 117, f 118, f 119, f 120, f 121, f 122, f 123, f 124, f 125, f 126, f 127, f 128, f 129, f 130, f 131, f 132, f 133, f 134, f 135, f 136, f 137, f 138, f 139, f 140, f 141, f 142, f 143, f 144, f 145, f 146, f 147, f 148, f 149, f 150, f 151, f 152, f 153, f 154, f 155, f 156, f 157, f 158, f 159, f 160, f 161, f 162, f 163, f 164, f 165, f 166, f 167, f 168, f 169, f 170, f 171, f 172, f 173, f 174, f 175, f 176, f 177, f 178, f 179, f 180, f 181, f 182, f 183, f 184, f 185, f 186, f 187, f 188, f 189, f 190, f 191, f 192, f 193, f 194, f 195, f 196, f 197, f 198, f 199, f 200, f 201, f 202, f 203, f 204, f 205, f 206, f 207, f 208, f 209, f 210, f 211, f 212, f 213, f 214, f 215, f 216, f 217, f 218, f 219, f 220, f 221, f 222, f 223, f 224, f 225, f 226, f 227, f 228, f 229, f 230, f 231, f 232, f 233, f 234, f 235, f 236, f 237, f 238, f 239, f 240, f 241, f 242, f 243, f 244, f 245, f 246, f 247, f 248, f 249, f 250, f 251, f 252, f 253, f 254, f 255, f 256, f 257, f 258, f 259, f 260, f 261, f 262, f 263, f 264, f 265, f 266, f 267, f 268, f 269, f 270, f 271, f 272, f 273, f 274, f 275, f 276, f 277, f 278, f 279, f 280, f 281, f 282, f 283, f 284, f 285, f 286, f 287, f 288, f 289, f 290, f 291, f 292, f 293, f 294, f 295, f 296, f 297, f 298, f 299, f 300, f 301, f 302, f 303, f 304, f 305, f 306, f 307, f 308, f 309, f 310, f 311, f 312, f 313, f 314, f 315, f 316, f 317, f 318, f 319, f 320, f 321, f 322, f 323, f 324, f 325, f 326, f 327, f 328, f 329, f 330, f 331, f 332, f 333, f 334, f 335, f 336, f 337, f 338, f 339, f 340, f 341, f 342, f 343, f 344, f 345, f 346, f 347, f 348, f 349, f 350, f 351, f 352, f 353, f 354, f 355, f 356, f 357], []⟩ wr := by
  have HEX := Lib.hid hexit
  have hc10 : w.cell? ⟨D, 10, none⟩ = some v1 := (cell_row hrow).trans hin
  obtain ⟨m, hm⟩ : ∃ m, T.length = m := ⟨_, rfl⟩
  obtain ⟨bi, oi, ci, hif, hci, hmi⟩ := hbi.spot hne
  obtain ⟨b, c, hvf, hcc, hcm⟩ := hv.form
  obtain ⟨L, hL⟩ : ∃ L, X0.length = L := ⟨_, rfl⟩
  rw [hL] at hvf hcc hlen hX1
  rw [hm] at hX1
  subst hY
  rw [List.length_cons, hm] at hif hci
  subst hif
  subst hvf
  have HI := Lib.hid hbi
  have HO := Lib.hid hbo
  have HOR := Lib.hid hor
  have HMI := Lib.hid hmi
  have HV := Lib.hid hv
  have hTr : Tabs wr := hT.keeps hbo.keeps (fun _ _ => id)
  have cd := dec_bytes _ (34 :: T) wr hTr (hbi.keeps hbo.keeps (fun _ _ => id)) hne
  rw [dec_head 34 _ (by decide)] at cd
  obtain ⟨V2, hV2, hb2, _⟩ := HI.out.from 1 (by simp)
  have hb2' : BytesAt w V2 T := hb2
  obtain ⟨a2, c2, hf2, _, _⟩ := hb2'.form
  rw [hm] at hf2
  subst hf2
  have hV2' : ∀ w', (Instr.slice 31 (.slice (some ⟨bi, oi, none⟩) (m + 1) ci) (some (.int .i64 1)) none none).run Tryz.prog w' = .ok (.slice a2 m c2) w' := hV2
  clear hb2 hb2' hV2 hbi hbo hor hTr hne hmi
  obtain ⟨M, hM⟩ : ∃ M, L - m = M := ⟨_, rfl⟩
  have hMe : (L : Int) - (m : Int) = (M : Int) := by omega
  have hdrop : X0.drop M = T := by
    obtain ⟨A, hA⟩ := hXT
    have h1 : A.length = M := by
      have h2 := congrArg List.length hA
      rw [List.length_append, hm, hL] at h2
      omega
    rw [hA, ← h1, List.drop_left]
  have hMb : M ≤ 140737488200000 := by omega
  have HDR := Lib.hid hdrop
  have hMl : M ≤ X0.length := by omega
  clear hdrop hM hXT
  have fin : ∀ w1, Buf D w w1 ov o → Calls Tryz.prog 113 #[.pointer (some ⟨D, 0, none⟩), .int .i64 M] w1 fun e w' =>
      e = .returned (.tuple #[]) ∧ (∃ V, BytesAt w1 V (skip T) ∧ Within (.slice b L c) V ∧ w' = w1.setCell ⟨D, 10, none⟩ V) ∧ Buf D w w1 ov o ∧
        (convert 31 9 ov).run Tryz.prog w' = .ok (.string (mk o)) w' := fun w1 hbuf => by
    have h1 := dconsume D cur _ X0 M hMl w1 (hbuf.keeps.row hrow id) hin (HV.out.keeps hbuf.keeps (fun _ _ => id)) (by rw [HDR.out]; exact hs)
    rw [HDR.out] at h1
    refine h1.mono ?_
    rintro e w2 ⟨rfl, V, hV, hi, rfl⟩
    refine ⟨rfl, ⟨V, hV, hi, rfl⟩, hbuf, run_to_str ?_⟩
    exact hbuf.bytes.keeps (S := fun k => k = D) (Keeps.setCell (S := fun k => k = D) (Keeps.refl _ w1) ⟨D, 10, none⟩ (fun _ => rfl) V) (fun k hk => hbuf.ne (row_lt hrow) k hk)
  have HR := Lib.hid hrow
  clear hrow hin hMl hv hL hexit
  conv => arg 2; whnf
  --@C1
  go_wp2_with (first
    | (go_at_call 152; refine cd.mono ?_; rintro e w1 ⟨rfl, k1⟩; have H1 := Lib.hid (HO.out.below k1); have g1 : w1.cell? ⟨D, 10, none⟩ = some (.slice b L c) := H1.out.keeps.cell hc10 id; clear k1)
    | (go_at_call 113; refine (fin _ H1.out).mono ?_; rintro e w2 ⟨rfl, hV, hbuf, hcv⟩; have HVV := Lib.hid hV; have HBU := Lib.hid hbuf; clear hV hbuf))
  --@C2
  try simp only [Exit.then]
  show Qr _ _
  refine HEX.out _ _ _ (results_tmp2 rfl _ _ _) rfl ?_
  obtain ⟨V, hV, hi, he⟩ := HVV.out
  exact ⟨by have h := HOR.out; rw [← h]; rfl, V, _, he, HBU.out.keeps, hV, hi⟩
end Go.Proofs.YtmijjppjodpagaaGreatDoor
