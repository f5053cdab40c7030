/-
  Small parts of the text form's Decoder: NewDecoder, currentOpenKind at the top, UnmarshalString.
-/
import Derived.Test.YtdckklmhnhbpiaaGreatDoorATok
namespace Go.Proofs.YtdckklmhnhbpiaaGreatDoor
open Go.RowKit

/-- The cells of a new Decoder over v. -/
def dec0 (v : Value) : Array Value := #[.int .u8 0, .int .u8 0, .int .u8 0, .int .u8 0, .int .i64 0, .slice none 0 0, .string ⟨#[]⟩, .nilIface, .slice none 0 0, v, v]

set_option maxRecDepth 1000000 in
theorem newDecoder_any (a : Option Addr) (n c : Nat) (w : World) :
    Calls Tryz.prog 14 #[.slice a n c] w fun e w' => e = .returned (.pointer (some ⟨w.heap.size, 0, none⟩)) ∧ w' = w.alloc (.cells (dec0 (.slice a n c)) 68) := by
  go_enter Tryz.func14, Tryz.ntmps14
  go_wp2
  go_ret
  exact ⟨rfl, rfl⟩

set_option maxRecDepth 1000000 in
theorem openKind_top (D : Nat) (w : World) (h : w.cell? ⟨D, 8, none⟩ = some (.slice none 0 0)) :
    Calls Tryz.prog 61 #[.pointer (some ⟨D, 0, none⟩)] w fun e w' => e = .returned (.tuple #[.int .u8 0, .int .u8 0]) ∧ w = w' := by
  go_enter Tryz.func61, Tryz.ntmps61
  go_wp2
  go_ret2
  exact ⟨rfl, rfl⟩
end Go.Proofs.YtdckklmhnhbpiaaGreatDoor
