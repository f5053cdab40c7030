/-
  bytes.TrimLeft at the hexadecimal digits, in these texts' own words.
-/
import Derived.Test.YtdckklmhnhbpiaaGreatDoorAStep
import Derived.Test.YtdckklmhnhbpiaaGreatDoorALaysT
namespace Go.Proofs.YtdckklmhnhbpiaaGreatDoor
open Go.RowKit

/-- The hexadecimal digits, as parseString names them. -/
def hexSet : List UInt8 := [48, 49, 50, 51, 52, 53, 54, 55, 56, 57, 97, 98, 99, 100, 101, 102, 65, 66, 67, 68, 69, 70]

theorem info_bool256 : (Tryz.prog.info? 144).map (fun i => (i.zero, i.size)) = some (some (.agg (Array.replicate 256 (.bool false))), 256) := by kernel_rfl

set_option maxRecDepth 100000 in
theorem trimHex (v : Value) (l : List UInt8) (w : World) (hv : BytesAt w v l) :
    Calls Tryz.prog 47 #[v, .string (mk hexSet)] w fun e w' => (∃ a c, e = .returned (.slice a (l.dropWhile (hexSet.contains ·)).length c)) ∧ Keeps (fun _ => False) w w' := by
  obtain ⟨a, c, rfl, hc, hm, hx⟩ := hv
  unfold maxLen at hm
  have hat : Lib.BytesAt w a l.length l := fun h0 => by
    rcases hx with rfl | ⟨b, off, rfl, hx⟩
    · simp at h0
    · refine ⟨b, off, rfl, fun i hi => ?_⟩
      rw [List.getD, List.getElem?_eq_getElem hi]
      exact hx i hi
  have h := Any.bytes_TrimLeft_ascii Tryz.laysv8 (zero_of_info info_bool256).1 (zero_of_info info_bool256).2 a l.length c l (mk hexSet) w rfl hc (by omega) hat (by rw [mk_size]; show 22 < 4294967281; omega) (fun j b hb => by
    rw [mk_data] at hb
    have : ∀ b ∈ hexSet, b.toNat < 128 := by decide
    exact this b (List.mem_of_getElem? hb))
  refine h.mono fun e w' ⟨he, hb⟩ => ⟨?_, Keeps.of_below hb⟩
  rw [he, mk_data]
  unfold Lib.leftV Lib.trimLeftS
  have hle : (l.dropWhile (hexSet.contains ·)).length ≤ l.length := (List.dropWhile_sublist _).length_le
  split
  · exact ⟨none, 0, by rw [show (l.dropWhile (hexSet.contains ·)).length = 0 by omega]⟩
  · unfold Lib.fromV
    exact ⟨_, _, by rw [show l.length - (l.length - (l.dropWhile (hexSet.contains ·)).length) = (l.dropWhile (hexSet.contains ·)).length by omega]⟩

theorem hexc_in (d : Nat) (h : d < 16) : hexSet.contains (hexc d) = true := by
  have : d = 0 ∨ d = 1 ∨ d = 2 ∨ d = 3 ∨ d = 4 ∨ d = 5 ∨ d = 6 ∨ d = 7 ∨ d = 8 ∨ d = 9 ∨ d = 10 ∨ d = 11 ∨ d = 12 ∨ d = 13 ∨ d = 14 ∨ d = 15 := by omega
  rcases this with rfl | rfl | rfl | rfl | rfl | rfl | rfl | rfl | rfl | rfl | rfl | rfl | rfl | rfl | rfl | rfl <;> decide
/-- Two digits at the head are trimmed. -/
theorem trim_two (a b : Nat) (ha : a < 16) (hb : b < 16) (X : List UInt8) : ((hexB [a, b] ++ X).dropWhile (hexSet.contains ·)).length ≤ X.length := by
  show ((hexc a :: hexc b :: X).dropWhile (hexSet.contains ·)).length ≤ X.length
  rw [List.dropWhile_cons, if_pos (hexc_in a ha), List.dropWhile_cons, if_pos (hexc_in b hb)]
  exact (List.dropWhile_sublist _).length_le
end Go.Proofs.YtdckklmhnhbpiaaGreatDoor
