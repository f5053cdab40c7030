/-
  Strings from bytes and back; slices that are either a piece of something older without room, or owned.
-/
import Derived.Test.YtdckklmhnhbpiaaGreatDoorABase
import Derived.Lib.ConvBytes
import Derived.Lib.SlBytesRow
import Derived.Shelf.Bytes.SlSmallAll
namespace Go.Proofs.YtdckklmhnhbpiaaGreatDoor
open Go.RowKit

theorem mk_nil : mk [] = ⟨#[]⟩ := rfl

/-- '[]byte(s)'. -/
theorem run_to_bytes (l : List UInt8) (hl : l.length ≤ maxLen) (w : World) : ∃ c w', (convert 9 24 (.string (mk l))).run Tryz.prog w = .ok (.slice (some ⟨w.heap.size, 0, none⟩) l.length c) w' ∧
    BytesAt w' (.slice (some ⟨w.heap.size, 0, none⟩) l.length c) l ∧ Keeps (fun _ => False) w w' := by
  refine ⟨_, _, Lib.run_convert_string_bytes w 9 24 5 (mk l) Tryz.underlying9 Tryz.underlying24 Tryz.underlying5, ⟨_, _, rfl, grownCap_ge w l.length 0 5, grownCap_le_maxLen w l.length 0 5 hl, .inr ⟨_, 0, rfl, fun j hj => ?_⟩⟩, ⟨rfl, rfl, rfl, ?_, fun k hk _ => Lib.bytesWorld_at_old w _ _ k hk⟩⟩
  · rw [Nat.zero_add, Lib.bytesWorld_cell w _ _ j (by rw [mk_size]; exact hj), mk_data, List.getD, List.getElem?_eq_getElem hj]
    rfl
  · rw [Lib.bytesWorld_size]; omega

/-- 'string(b)'. -/
theorem run_to_str {w : World} {v : Value} {l : List UInt8} (h : BytesAt w v l) : (convert 24 9 v).run Tryz.prog w = .ok (.string (mk l)) w := by
  obtain ⟨a, c, rfl, hc, hm, h⟩ := h
  by_cases hl : l = []
  · subst hl
    exact run_convert_bytes_zero w 24 5 Tryz.underlying24 Tryz.underlying5 a c 9 Tryz.underlying9
  · obtain ⟨b, off, rfl, hx⟩ := h.resolve_left hl
    exact Lib.run_convert_whole w 24 5 9 Tryz.underlying24 Tryz.underlying5 Tryz.underlying9 b off (mk l) (fun i hi => hx i hi) c

theorem BytesAt.cell {w : World} {b off n c : Nat} {l : List UInt8} (h : BytesAt w (.slice (some ⟨b, off, none⟩) n c) l) : n = l.length ∧ ∀ j (hj : j < l.length), w.cell? ⟨b, off + j, none⟩ = some (.int .u8 (l[j].toNat : Int)) := by
  obtain ⟨a, c', hv, _, _, h⟩ := h
  simp only [Value.slice.injEq] at hv
  obtain ⟨rfl, rfl, rfl⟩ := hv
  refine ⟨rfl, fun j hj => ?_⟩
  rcases h with rfl | ⟨b', off', ha, h⟩
  · simp at hj
  · cases ha
    exact h j hj

end Go.Proofs.YtdckklmhnhbpiaaGreatDoor
