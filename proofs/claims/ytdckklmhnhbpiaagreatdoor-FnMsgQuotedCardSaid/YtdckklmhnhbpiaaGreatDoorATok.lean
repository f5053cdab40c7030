/-
  (*Decoder).consumeToken of the text form.
-/
import Derived.Test.YtdckklmhnhbpiaaGreatDoorAConsume
import Derived.BigRegion
import Derived.Deep.RegionLaw
namespace Go.Proofs.YtdckklmhnhbpiaaGreatDoor
open Go.RowKit

theorem BytesAt.form' {w : World} {v : Value} {l : List UInt8} (h : BytesAt w v l) (hl : l ≠ []) : ∃ b off c, v = .slice (some ⟨b, off, none⟩) l.length c ∧ l.length ≤ c ∧ c ≤ maxLen := by
  obtain ⟨a, c, rfl, h1, h2, h⟩ := h
  obtain ⟨b, off, rfl, _⟩ := h.resolve_left hl
  exact ⟨b, off, c, rfl, h1, h2⟩

/-- What is read in old blocks was there. -/
theorem BytesAt.back {w w1 : World} {v V : Value} {l l0 : List UInt8} (h : BytesAt w1 V l) (hk : Keeps (fun _ => False) w w1) (hv : BytesAt w v l0) (hi : Within v V) (hl : l ≠ [] → l0 ≠ []) : BytesAt w V l := by
  obtain ⟨a, c, rfl, hc, hm, hx0⟩ := h
  refine ⟨a, c, rfl, hc, hm, ?_⟩
  by_cases h0 : l = []
  · exact .inl h0
  · obtain ⟨b, off, rfl, hx⟩ := hx0.resolve_left h0
    refine .inr ⟨b, off, rfl, fun j hj => ?_⟩
    have hb := hi b rfl
    obtain ⟨b', off', c', rfl, _, _⟩ := hv.form'  (hl h0)
    simp only [Value.ownBlock, Option.some.injEq] at hb
    subst hb
    have hpos : 0 < l0.length := List.length_pos_iff.2 (hl h0)
    have hlt := World.block_lt_of_cell? w _ (hv.cell.2 0 hpos)
    exact (World.cell?_of_block (hk.block b' hlt id)).symm.trans (hx j hj)

set_option maxRecDepth 1000000 in
set_option maxHeartbeats 4000000 in
theorem consumeToken_any (D : Nat) (cur : Array Value) (vo vi : Value) (orig l : List UInt8) (k n : Nat) (at' : Nat) (hn : n ≤ l.length) (w : World) (hrow : w.heap[D]? = some (.cells cur 68 (0, 0)))
    (ho : cur[9]? = some vo) (hin : cur[10]? = some vi) (hvo : BytesAt w vo orig) (hv : BytesAt w vi l) (hs : ∀ r, skip (l.drop n) ≠ 35 :: r) :
    Calls Tryz.prog 57 #[.pointer (some ⟨D, 0, none⟩), .int .u8 k, .int .i64 n, .int .u8 at'] w fun e w' =>
      ∃ raw V pos, e = .returned (.agg #[.int .u8 k, .int .u8 at', .int .u8 0, .int .i64 pos, raw, .string ⟨#[]⟩]) ∧ BytesAt w raw (l.take n) ∧ Within vi raw ∧ BytesAt w V (skip (l.drop n)) ∧ Within vi V ∧ Keeps (fun k => k = D) w w' ∧ w'.heap[D]? = some (.cells (cur.setIfInBounds 10 V) 68 (0, 0)) := by
  have hc9 : w.cell? ⟨D, 9, none⟩ = some vo := (cell_row hrow).trans ho
  have hc10 : w.cell? ⟨D, 10, none⟩ = some vi := (cell_row hrow).trans hin
  obtain ⟨ao, co, rfl, _, _⟩ := hvo.form
  obtain ⟨ai, ci, rfl, hci, hmi⟩ := hv.form
  have h1 := fun w' => run_sto ai l.length ci n (by omega) w'
  have hlt := row_lt hrow
  go_enter Tryz.func57, Tryz.ntmps57
  go_wp2
  go_region
  go_simp
  have hK : ∀ A B, Keeps (fun _ => False) w ((w.alloc A).alloc B).drew := fun A B => (((Keeps.refl _ w).alloc A).alloc B).drew
  go_wp2_with (go_at_call 46; refine (dconsume D cur _ l n hn _ ((hK _ _).row hrow id) hin (hv.keeps (hK _ _) (fun _ _ => id)) hs).mono ?_; rintro e w2 ⟨rfl, V, hb, hi, rfl⟩; obtain ⟨aV, cV, rfl, _, _⟩ := hb.form)
  have hWs : ∀ A, (w.setCell ⟨D, 10, none⟩ A).heap.size = w.heap.size := fun A => by simp
  refine bodyPost_ret (results_cell_row rfl _ _ w.heap.size _ _ (0, 0) _ rfl (by have h := heap_alloc2_old (w.setCell ⟨D, 10, none⟩ (.slice aV (skip (l.drop n)).length cV)); rw [hWs] at h; exact h _ _) Tryz.underlying53 rfl (by kernel_rfl)) rfl ?_
  have hKD : Keeps (fun k => k = D) w (w.setCell ⟨D, 10, none⟩ (.slice aV (skip (l.drop n)).length cV)) := Keeps.setCell (S := fun k => k = D) (Keeps.refl _ w) ⟨D, 10, none⟩ (fun _ => rfl) _
  refine ⟨_, _, _, rfl, hv.take n ci hn (by omega) (Nat.le_refl _), within_len _ _ _ _ _, hb.back (hK _ _) hv hi (fun h1 h2 => h1 (by rw [h2]; simp [skip])), hi, ((hKD.alloc _).alloc _).drew, ?_⟩
  exact (Keeps.row (((Keeps.refl (fun _ => False) _).alloc _).alloc _).drew (setCell_row hrow _) id)
end Go.Proofs.YtdckklmhnhbpiaaGreatDoor
