/-
  What a parser gathers: a piece of its input without room, or a row of its own.
-/
import Derived.Test.YtdckklmhnhbpiaaGreatDoorAConv
namespace Go.Proofs.YtdckklmhnhbpiaaGreatDoor
open Go.RowKit

/-- append(v, s...): v a slice without room that is not owned; s a string, not empty. -/
theorem run_full_str (ty : TypeId) (w : World) {a : Option Addr} {l r : List UInt8} (h : BytesAt w (.slice a l.length l.length) l) (ha : a.isSome = true) (hr : r ≠ []) (hb : l.length + r.length ≤ 140737488355328) :
    ∃ v' w', (Builtin.append_ #[24, 9] ty #[.slice a l.length l.length, .string (mk r)]).run Tryz.prog w = .ok v' w' ∧ Own w' v' (l ++ r) ∧ Keeps (fun _ => False) w w' ∧ (∀ k, v'.ownBlock = some k → w.heap.size ≤ k) := by
  obtain ⟨i0, hi, hz0, hz1, hz2⟩ := info_parts info5
  have hr0 : 0 < r.length := List.length_pos_iff.2 hr
  obtain ⟨a0, c0, hv0, hc0, hm0, h0⟩ := h
  cases hv0
  obtain ⟨p, rfl⟩ := Option.isSome_iff_exists.1 ha
  have holds : ∀ j u, (bv l)[j]? = some u → w.cell? (p.add j) = some u := by
    intro j u hu
    have hj : j < l.length := by have := (List.getElem?_eq_some_iff.1 hu).1; simpa [bv_length] using this
    rw [bv_get hj] at hu
    rcases h0 with h0 | ⟨b0, off0, e0, h0⟩
    · subst h0; simp at hj
    · cases e0
      rw [Addr.add_lit, h0 j hj]; exact hu
  have hrun := Lib.run_append_grow_string (P := Tryz.prog) w 24 9 ty 5 i0 _ Tryz.underlying24 Tryz.underlying9 hi hz0 p l.length l.length (bv l) (by rw [bv_length, hz1, Nat.mul_one])
    holds (mk r) (by rw [mk_size]; omega) (by rw [mk_size]; omega) (by rw [hz2, mk_size]; exact growslice_fits (by omega) (by omega))
  rw [mk_size, strCells_mk] at hrun
  have hge := grownCap_ge w (l.length + r.length) l.length 5
  have hgm := grownCap_le_maxLen w (l.length + r.length) l.length 5 (by unfold maxLen; omega)
  refine ⟨_, _, hrun, .inr ⟨w.heap.size, _, _, by rw [List.length_append], heap_alloc_new w.drew _, by rw [List.length_append]; exact hge, hgm, ?_, ?_⟩, ⟨rfl, rfl, rfl, by simp, fun k hk _ => Below.heap_alloc w.drew _ k hk⟩, fun k hk => ?_⟩
  · simp only [Array.size_append, List.size_toArray, size_zeroCells, bv_length]
    rw [show (Value.int IntKind.u8 0).cells.size = 1 from rfl, Nat.mul_one]
    omega
  · simp only [Array.toList_append, List.append_assoc, List.length_append]
    rw [← List.append_assoc, ← bv_append, ← List.length_append, ← bv_length (l ++ r)]
    exact List.take_left
  · simp [Value.ownBlock] at hk
    omega

/-- v reads as l in w: a piece of a block that B has, without room, not of block D; or a row that is newer than B. w is B but for new blocks. -/
structure Buf (D : Nat) (B w : World) (v : Value) (l : List UInt8) : Prop where
  keeps : Keeps (fun _ => False) B w
  form : (∃ a, v = .slice (some a) l.length l.length ∧ a.block ≠ D ∧ BytesAt B v l) ∨ (Own w v l ∧ ∀ k, v.ownBlock = some k → B.heap.size ≤ k)

theorem Buf.bytes {D : Nat} {B w : World} {v : Value} {l : List UInt8} (h : Buf D B w v l) : BytesAt w v l := by
  rcases h.form with ⟨a, _, _, hb⟩ | ⟨ho, _⟩
  · exact hb.keeps h.keeps (fun _ _ => id)
  · exact ho.bytes
theorem Buf.below {D : Nat} {B w w' : World} {v : Value} {l : List UInt8} (h : Buf D B w v l) (hk : Keeps (fun _ => False) w w') : Buf D B w' v l := by
  refine ⟨h.keeps.trans hk (fun _ _ => id), ?_⟩
  rcases h.form with h1 | ⟨ho, h2⟩
  · exact .inl h1
  · exact .inr ⟨ho.below hk, h2⟩
theorem Buf.ne {D : Nat} {B w : World} {v : Value} {l : List UInt8} (h : Buf D B w v l) (hD : D < B.heap.size) : ∀ k, v.ownBlock = some k → k ≠ D := by
  intro k hk
  rcases h.form with ⟨a, rfl, ha, _⟩ | ⟨_, h2⟩
  · simp only [Value.ownBlock, Option.some.injEq] at hk
    subst hk; exact ha
  · have := h2 k hk; omega
theorem Buf.alloc {D : Nat} {B w : World} {v : Value} {l : List UInt8} (h : Buf D B w v l) (o : Obj) : Buf D B (w.alloc o) v l := h.below ((Keeps.refl _ w).alloc o)
theorem Buf.drew {D : Nat} {B w : World} {v : Value} {l : List UInt8} (h : Buf D B w v l) : Buf D B w.drew v l := h.below (Keeps.refl _ w).drew

theorem Buf.app (ty : TypeId) {D : Nat} {B w : World} {v x : Value} {l r : List UInt8} (h : Buf D B w v l) (hx : BytesAt w x r) (hr : r ≠ []) (hb : l.length + r.length ≤ 140737488355328) :
    ∃ v' w', (Builtin.append_ #[24, 24] ty #[v, x]).run Tryz.prog w = .ok v' w' ∧ Buf D B w' v' (l ++ r) := by
  rcases h.form with ⟨a, rfl, _, hb1⟩ | ⟨ho, h2⟩
  · obtain ⟨v', w', hrun, h1, h3, h4⟩ := run_full_app ty w (hb1.keeps h.keeps (fun _ _ => id)) rfl hx hr hb
    exact ⟨v', w', hrun, h.keeps.trans h3 (fun _ _ => id), .inr ⟨h1, fun k hk => Nat.le_trans h.keeps.size (h4 k hk)⟩⟩
  · obtain ⟨v', w', hrun, h1, h3, h4⟩ := run_own_app ty w ho hx hb
    refine ⟨v', w', hrun, h.keeps.trans h3 (fun i hi hi2 => absurd (h2 i hi2) (by omega)), .inr ⟨h1, fun k hk => ?_⟩⟩
    rcases h4 k hk with h5 | h5
    · exact h2 k h5
    · exact Nat.le_trans h.keeps.size h5
theorem buf_str (ty : TypeId) {D : Nat} {B w : World} {v : Value} {l r : List UInt8} (h : Buf D B w v l) (hr : r ≠ []) (hb : l.length + r.length ≤ 140737488355328) :
    ∃ v' w', (Builtin.append_ #[24, 9] ty #[v, .string (mk r)]).run Tryz.prog w = .ok v' w' ∧ Buf D B w' v' (l ++ r) := by
  rcases h.form with ⟨a, rfl, _, hb1⟩ | ⟨ho, h2⟩
  · obtain ⟨v', w', hrun, h1, h3, h4⟩ := run_full_str ty w (hb1.keeps h.keeps (fun _ _ => id)) rfl hr hb
    exact ⟨v', w', hrun, h.keeps.trans h3 (fun _ _ => id), .inr ⟨h1, fun k hk => Nat.le_trans h.keeps.size (h4 k hk)⟩⟩
  · obtain ⟨v', w', hrun, h1, h3, h4⟩ := run_own_str ty w ho hb
    refine ⟨v', w', hrun, h.keeps.trans h3 (fun i hi hi2 => absurd (h2 i hi2) (by omega)), .inr ⟨h1, fun k hk => ?_⟩⟩
    rcases h4 k hk with h5 | h5
    · exact h2 k h5
    · exact Nat.le_trans h.keeps.size h5

section
variable {ops : Array Oper} {rest : List Oper} {o : Oper} {a : Act} {Q : Exit → Act → World → Prop} {w : World} {D : Nat} {B : World} {K : Act → World → Prop} {E : Prop}
theorem at_buf_str {v : Value} {l : List UInt8} (h : Buf D B w v l) (s x : Operand) (r : List UInt8) (hr : r ≠ []) (hb : l.length + r.length ≤ 140737488355328)
    (hgd : o.guard = none) (ho : o.op = .call { callee := .builtin .append, args := #[s, x], argTypes := #[24, 9] }) (hs : a.eval s = v) (hx : a.eval x = .string (mk r))
    (hk : ∀ v' w', Buf D B w' v' (l ++ r) → wpList Tryz.prog ops Q rest (a.put o.dst v') w') : wpList Tryz.prog ops Q (o :: rest) a w := by
  refine wpList_plain hgd fun K hK => ?_
  obtain ⟨v', w', hr, h2⟩ := buf_str o.type h hr hb
  unfold Oper.wp execOp
  simp only [ho, resolve, invoke, builtin, Sem.run_bind, Sem.run_pure, Result.andThen_ok, List.map_toArray, List.map_cons, List.map_nil, hs, hx, hr]
  exact hK _ _ (hk v' w' h2)
theorem step_buf_app {v : Value} {l : List UInt8} (h : Buf D B w v l) (s x : Operand) {xv : Value} {r : List UInt8} (hxb : BytesAt w xv r) (hr : r ≠ []) (hb : l.length + r.length ≤ 140737488355328)
    (hgd : o.guard = none) (ho : o.op = .call { callee := .builtin .append, args := #[s, x], argTypes := #[24, 24] }) (hs : a.eval s = v) (hx : a.eval x = xv)
    (hk : ∀ v' w', Buf D B w' v' (l ++ r) → K (a.put o.dst v') w') : if Region.wanted o (yielded ops a.tmps) = true then Oper.wp Tryz.prog o a w K Q else E := by
  rw [if_pos (by simp [Region.wanted, hgd])]
  obtain ⟨v', w', hr, h2⟩ := h.app o.type hxb hr hb
  unfold Oper.wp execOp
  simp only [ho, resolve, invoke, builtin, Sem.run_bind, Sem.run_pure, Result.andThen_ok, List.map_toArray, List.map_cons, List.map_nil, hs, hx, hr]
  exact hk v' w' h2
/-- A byte that the region has laid. -/
theorem step_buf_lit {v : Value} {l : List UInt8} (h : Buf D B w v l) (s x : Operand) (c : UInt8) (hb : l.length + 1 ≤ 140737488355328)
    (hgd : o.guard = none) (ho : o.op = .call { callee := .builtin .append, args := #[s, x], argTypes := #[24, 24] }) (hs : a.eval s = v) (hx : a.eval x = .slice (some ⟨w.heap.size, 0, none⟩) 1 1)
    (hk : ∀ v' w', Buf D B w' v' (l ++ [c]) → K (a.put o.dst v') w') :
    if Region.wanted o (yielded ops a.tmps) = true then Oper.wp Tryz.prog o a (w.alloc (.cells #[.int .u8 (c.toNat : Int)] 5)) K Q else E :=
  step_buf_app (h.alloc _) s x (bytesAt_new w [c] (by simp [maxLen])) (by simp) hb hgd ho hs hx hk
end
end Go.Proofs.YtdckklmhnhbpiaaGreatDoor
