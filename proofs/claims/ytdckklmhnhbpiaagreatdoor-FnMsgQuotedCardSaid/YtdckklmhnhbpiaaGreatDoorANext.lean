/-
  parseNext: what holds ahead of its tests, and what it leaves.
-/
import Derived.Test.YtdckklmhnhbpiaaGreatDoorAField
import Derived.Test.YtdckklmhnhbpiaaGreatDoorADec
import Derived.Test.YtdckklmhnhbpiaaGreatDoorAReads
import Derived.Deep.MidRow
set_option linter.unusedSimpArgs false
set_option linter.unusedVariables false
namespace Go.Proofs.YtdckklmhnhbpiaaGreatDoor
open Go.RowKit

/-- What a call of parseNext leaves: a token, and the Decoder's rest. -/
def NextPost (D : Nat) (cur : Array Value) (vi : Value) (w : World) (k a na : Nat) (s : ByteArray) (rw rest : List UInt8) (e : Ending) (w' : World) : Prop :=
  ∃ raw V pos, e = .returned (.tuple #[.agg #[.int .u8 k, .int .u8 a, .int .u8 na, .int .i64 pos, raw, .string s], .nilIface]) ∧ BytesAt w' raw rw ∧ Within vi raw ∧ BytesAt w' V rest ∧ Within vi V ∧
    Keeps (fun k => k = D) w w' ∧ w'.heap[D]? = some (.cells (cur.setIfInBounds 10 V) 68 (0, 0))

theorem infoTok : (Tryz.prog.info? 53).map (·.size) = some 6 := by kernel_rfl
theorem tok_one (k a na pos : Int) (ar : Option Addr) (n c : Nat) (s : ByteArray) : (#[.int .u8 k, .int .u8 a, .int .u8 na, .int .i64 pos, .slice ar n c, .string s] : Array Value).all (·.oneCell') = true := by
  simp [Value.oneCell']
/-- A token stored into six cells of a row. -/
theorem run_store6 {w : World} {K : Nat} {cur : Array Value} {T : TypeId} (hrow : w.heap[K]? = some (.cells cur T (0, 0))) (j : Nat) (hj : j + 6 ≤ cur.size) (cs : Array Value) (h6 : cs.size = 6) (h1 : cs.all (·.oneCell') = true) :
    (Instr.storeAt 53 (.pointer (some ⟨K, j, none⟩)) (.agg cs)).run Tryz.prog w = .ok () (w.setCells K j cs.toList) :=
  run_storeAt_mid w K j 53 cs (fun i hi => ⟨by rw [cell_row hrow]; simp; omega, frozen_row hrow⟩) (by rw [infoTok, h6]) h1
theorem setCells_keeps (K : Nat) : ∀ (vs : List Value) (j : Nat) (w : World), Keeps (fun k => k = K) w (w.setCells K j vs)
  | [], _, w => Keeps.refl _ w
  | v :: r, j, w => (Keeps.setCell (S := fun k => k = K) (Keeps.refl _ w) ⟨K, j, none⟩ (fun _ => rfl) v).trans (setCells_keeps K r (j + 1) (w.setCell ⟨K, j, none⟩ v)) (fun _ _ h => h)
theorem setCells6_row {w : World} {K : Nat} {cur : Array Value} {T : TypeId} {fr : Nat × Nat} (h : w.heap[K]? = some (.cells cur T fr)) (j : Nat) (a b c d e f : Value) :
    (w.setCells K j [a, b, c, d, e, f]).heap[K]? = some (.cells ((((((cur.setIfInBounds j a).setIfInBounds (j + 1) b).setIfInBounds (j + 1 + 1) c).setIfInBounds (j + 1 + 1 + 1) d).setIfInBounds (j + 1 + 1 + 1 + 1) e).setIfInBounds (j + 1 + 1 + 1 + 1 + 1) f) T fr) := by
  simp only [World.setCells]
  exact setCell_row (setCell_row (setCell_row (setCell_row (setCell_row (setCell_row h a) b) c) d) e) f

theorem setIn_same {cur : Array Value} {V : Value} (h : cur.size = 11) : (cur.setIfInBounds 10 V)[10]? = some V := by simp [h]
theorem setIn_other {cur : Array Value} {V v : Value} (h : cur[8]? = some v) : (cur.setIfInBounds 10 V)[8]? = some v := by simpa using h
theorem setIn_other' {cur : Array Value} {V : Value} {j : Nat} (h : j ≠ 10) : (cur.setIfInBounds 10 V)[j]? = cur[j]? := by
  rw [Array.getElem?_setIfInBounds, if_neg (Ne.symm h)]

theorem next_start (D : Nat) (cur : Array Value) (vi V0 : Value) (l : List UInt8) (w w1 : World) (o : Obj) (hrow : w.heap[D]? = some (.cells cur 68 (0, 0))) (hv : BytesAt w vi l) (hvD : vi.ownBlock ≠ some D) (hi : Within vi V0)
    {l' : List UInt8} (hb : BytesAt (w.alloc o) V0 l') (hw : w1 = (w.alloc o).setCell ⟨D, 10, none⟩ V0) :
    w1.heap[D]? = some (.cells (cur.setIfInBounds 10 V0) 68 (0, 0)) ∧ w1.heap[w.heap.size]? = some o ∧ Keeps (fun k => k = D) w w1 ∧ BytesAt w1 V0 l' := by
  have hDl := row_lt hrow
  have hk : Keeps (fun k => k = D) (w.alloc o) w1 := by rw [hw]; exact Keeps.setCell (S := fun k => k = D) (Keeps.refl _ _) ⟨D, 10, none⟩ (fun _ => rfl) V0
  have h1 : (w.alloc o).heap[D]? = some (.cells cur 68 (0, 0)) := ((Keeps.refl (fun _ => False) w).alloc o).row hrow id
  refine ⟨by rw [hw]; exact setCell_row h1 V0, hk.row (heap_alloc_new w o) (by omega), ((Keeps.refl _ w).alloc o).trans hk (fun _ _ h => h), hb.keeps hk ?_⟩
  intro k hk1 hk2
  subst hk2
  exact hvD (hi k hk1)

/-- The end of a call that hands on a callee's token: it is stored into the result's row. -/
theorem next_end (D : Nat) (cur : Array Value) (vi : Value) (w w1 w2 : World) (K : Nat) (hK : w.heap.size ≤ K) (hDl : D < w.heap.size) (h1k : Keeps (fun k => k = D) w w1) (h2 : Keeps (fun k => k = D) w1 w2) {k a na : Nat} {pos : Int} {raw V : Value} {s : ByteArray} {rw rest : List UInt8}
    (hraw : BytesAt w1 raw rw) (hri : Within vi raw) (hV : BytesAt w1 V rest) (hVi : Within vi V) (hvD : vi.ownBlock ≠ some D) (hvl : ∀ j, vi.ownBlock = some j → j < w.heap.size)
    (hrD : w2.heap[D]? = some (.cells (cur.setIfInBounds 10 V) 68 (0, 0))) :
    NextPost D cur vi w k a na s rw rest (.returned (.tuple #[.agg #[.int .u8 k, .int .u8 a, .int .u8 na, .int .i64 pos, raw, .string s], .nilIface])) (store6 w2 K (.int .u8 k) (.int .u8 a) (.int .u8 na) (.int .i64 pos) raw (.string s)) := by
  have hs := store6_keeps w2 K (.int .u8 k) (.int .u8 a) (.int .u8 na) (.int .i64 pos) raw (.string s)
  have ne : ∀ U, Within vi U → ∀ j, U.ownBlock = some j → ¬ j = K := fun U hU j hj e => by have := hvl j (hU j hj); omega
  have nd : ∀ U, Within vi U → ∀ j, U.ownBlock = some j → ¬ j = D := fun U hU j hj e => by subst e; exact hvD (hU j hj)
  exact ⟨raw, V, pos, rfl, (hraw.keeps h2 (nd raw hri)).keeps hs (ne raw hri), hri, (hV.keeps h2 (nd V hVi)).keeps hs (ne V hVi), hVi, (h1k.trans h2 (fun _ _ h => h)).trans hs (fun i hi h => by omega), hs.row hrD (by omega)⟩
/-- The same, over a callee that has said where its token lies behind the call. -/
theorem next_end2 (D : Nat) (cur : Array Value) (vi : Value) (w w1 w2 : World) (K : Nat) (hK : w.heap.size ≤ K) (hDl : D < w.heap.size) (h1k : Keeps (fun k => k = D) w w1) (h2 : Keeps (fun k => k = D) w1 w2) {k a na : Nat} {pos : Int} {raw V : Value} {s : ByteArray} {rw rest : List UInt8}
    (hraw : BytesAt w2 raw rw) (hri : Within vi raw) (hV : BytesAt w2 V rest) (hVi : Within vi V) (_ : vi.ownBlock ≠ some D) (hvl : ∀ j, vi.ownBlock = some j → j < w.heap.size)
    (hrD : w2.heap[D]? = some (.cells (cur.setIfInBounds 10 V) 68 (0, 0))) :
    NextPost D cur vi w k a na s rw rest (.returned (.tuple #[.agg #[.int .u8 k, .int .u8 a, .int .u8 na, .int .i64 pos, raw, .string s], .nilIface])) (store6 w2 K (.int .u8 k) (.int .u8 a) (.int .u8 na) (.int .i64 pos) raw (.string s)) := by
  have hs := store6_keeps w2 K (.int .u8 k) (.int .u8 a) (.int .u8 na) (.int .i64 pos) raw (.string s)
  have ne : ∀ U, Within vi U → ∀ j, U.ownBlock = some j → ¬ j = K := fun U hU j hj e => by have := hvl j (hU j hj); omega
  exact ⟨raw, V, pos, rfl, hraw.keeps hs (ne raw hri), hri, hV.keeps hs (ne V hVi), hVi, (h1k.trans h2 (fun _ _ h => h)).trans hs (fun i hi h => by omega), hs.row hrD (by omega)⟩
theorem bytes_lt {w : World} {v : Value} {l : List UInt8} (h : BytesAt w v l) (hl : l ≠ []) : ∀ j, v.ownBlock = some j → j < w.heap.size := by
  intro j hj
  obtain ⟨b, off, c, rfl, _, _⟩ := h.form' hl
  simp only [Value.ownBlock, Option.some.injEq] at hj
  subst hj
  exact World.block_lt_of_cell? w _ (h.cell.2 0 (List.length_pos_iff.2 hl))
end Go.Proofs.YtdckklmhnhbpiaaGreatDoor
