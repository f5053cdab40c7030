/-
  The functions that parseString calls, in these texts' own words.
-/
import Derived.Test.YtdckklmhnhbpiaaGreatDoorABuf
import Derived.Test.YtdckklmhnhbpiaaGreatDoorAConsume
import Derived.Test.YtdckklmhnhbpiaaGreatDoorAShelf
import Derived.Test.YtdckklmhnhbpiaaGreatDoorAPre
import Derived.Test.YtdckklmhnhbpiaaGreatDoorAParse
import Derived.Test.YtdckklmhnhbpiaaGreatDoorAUnq
namespace Go.Proofs.YtdckklmhnhbpiaaGreatDoor
open Go.RowKit

set_option maxRecDepth 100000 in
theorem indexNeed_bytes (v : Value) (l : List UInt8) (w : World) (hv : BytesAt w v l) :
    Calls Tryz.prog 43 #[v] w fun e w' => e = .returned (.int .i64 (pre l : Nat)) ∧ w = w' := by
  obtain ⟨a, c, rfl, hc, hm⟩ := hv.form
  have hrun := run_to_str hv
  have hsz := mk_size l
  obtain ⟨s, hs⟩ : ∃ s, mk l = s := ⟨_, rfl⟩
  have HS := Lib.hid hs
  rw [hs] at hrun hsz
  clear hs
  unfold maxLen at hm
  go_enter Tryz.func43, Tryz.ntmps43
  go_wp2_with (first | (go_at_call 75; go_in) | (go_at_call 39; (rw [← HS.out]); refine (indexNeed_any l (by omega) w).mono ?_; rintro e w' ⟨rfl, rfl⟩))
  go_ret
  exact ⟨rfl, rfl⟩

end Go.Proofs.YtdckklmhnhbpiaaGreatDoor
