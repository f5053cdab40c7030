/-
  What the thin package asks of a token of the JSON form, and jsonToken at kinds that bear no name, text or bool.
-/
import Derived.Test.YtdckklmhnhbpiaaGreatDoorAJRead
import Derived.Test.YtdckklmhnhbpiaaGreatDoorAField
import Derived.Test.YtdckklmhnhbpiaaGreatDoorATTok
import Derived.Deep.RegionHeld3
import Derived.Deep.DeepCutAuto
namespace Go.Proofs.YtdckklmhnhbpiaaGreatDoor
open Go.RowKit

section
variable (k pos : Int) (ar : Option Addr) (n c : Nat) (b : Bool) (s : ByteArray) (w : World)
set_option maxRecDepth 100000 in
theorem jtok_kind : Calls Tryz.prog 71 #[.agg #[.int .u16 k, .int .i64 pos, .slice ar n c, .bool b, .string s]] w fun e w' => e = .returned (.int .u16 k) ∧ w' = w.alloc (.cells #[.int .u16 k, .int .i64 pos, .slice ar n c, .bool b, .string s] 128) := by
  go_enter Tryz.func71, Tryz.ntmps71
  go_wp2
  go_ret
  exact ⟨rfl, rfl⟩
set_option maxRecDepth 100000 in
theorem jtok_pos : Calls Tryz.prog 107 #[.agg #[.int .u16 k, .int .i64 pos, .slice ar n c, .bool b, .string s]] w fun e w' => e = .returned (.int .i64 pos) ∧ w' = w.alloc (.cells #[.int .u16 k, .int .i64 pos, .slice ar n c, .bool b, .string s] 128) := by
  go_enter Tryz.func107, Tryz.ntmps107
  go_wp2
  go_ret
  exact ⟨rfl, rfl⟩
set_option maxRecDepth 100000 in
theorem jtok_raw (rw : List UInt8) (hraw : BytesAt w (.slice ar n c) rw) : Calls Tryz.prog 104 #[.agg #[.int .u16 k, .int .i64 pos, .slice ar n c, .bool b, .string s]] w fun e w' => e = .returned (.string (mk rw)) ∧ w' = w.alloc (.cells #[.int .u16 k, .int .i64 pos, .slice ar n c, .bool b, .string s] 128) := by
  have hcv := run_to_str (hraw.keeps ((Keeps.refl (fun _ => False) w).alloc (.cells #[.int .u16 k, .int .i64 pos, .slice ar n c, .bool b, .string s] 128)) (fun _ _ => id))
  go_enter Tryz.func104, Tryz.ntmps104
  go_wp2
  go_ret
  exact ⟨rfl, rfl⟩
end

theorem jtok_kindK (k pos : Int) (ar : Option Addr) (n c : Nat) (b : Bool) (s : ByteArray) (w : World) : Calls Tryz.prog 71 #[.agg #[.int .u16 k, .int .i64 pos, .slice ar n c, .bool b, .string s]] w fun e w' => e = .returned (.int .u16 k) ∧ Keeps (fun _ => False) w w' :=
  (jtok_kind k pos ar n c b s w).mono fun _ _ h => ⟨h.1, by rw [h.2]; exact (Keeps.refl _ w).alloc _⟩

set_option maxRecDepth 1000000 in
set_option maxHeartbeats 20000000 in
theorem jsonToken_other (k : Nat) (pos : Int) (ar : Option Addr) (n c : Nat) (b : Bool) (s : ByteArray) (rw : List UInt8) (w : World) (hk4 : ((k : Int) == 4) = false) (hk16 : ((k : Int) == 16) = false) (hk32 : ((k : Int) == 32) = false) (hkb : k < 65536) (hraw : BytesAt w (.slice ar n c) rw) :
    Calls Tryz.prog 72 #[.agg #[.int .u16 k, .int .i64 pos, .slice ar n c, .bool b, .string s]] w fun e w' => e = .returned (.agg #[.int .i64 k, .int .i64 pos, .bool false, .string (mk rw), .string ⟨#[]⟩]) ∧ Keeps (fun _ => False) w w' := by
  have hA0 : ∀ j, ((w.alloc (.cells #[.int .u16 k, .int .i64 pos, .slice ar n c, .bool b, .string s] 128)).alloc (.cells #[.int .i64 0, .int .i64 0, .bool false, .string ⟨#[]⟩, .string ⟨#[]⟩] 133)).cell? ⟨w.heap.size, j, none⟩ = (#[.int .u16 k, .int .i64 pos, .slice ar n c, .bool b, .string s] : Array Value)[j]? := fun j => cell_row (heap_alloc2_old w _ _)
  have hS : ∀ w', Keeps (fun _ => False) ((w.alloc (.cells #[.int .u16 k, .int .i64 pos, .slice ar n c, .bool b, .string s] 128)).alloc (.cells #[.int .i64 0, .int .i64 0, .bool false, .string ⟨#[]⟩, .string ⟨#[]⟩] 133)) w' → w'.cell? ⟨w.heap.size, 0, none⟩ = some (.int .u16 k) ∧ w'.cell? ⟨w.heap.size, 1, none⟩ = some (.int .i64 pos) ∧ w'.cell? ⟨w.heap.size, 2, none⟩ = some (.slice ar n c) ∧ w'.cell? ⟨w.heap.size, 3, none⟩ = some (.bool b) ∧ w'.cell? ⟨w.heap.size, 4, none⟩ = some (.string s) :=
    fun w' hk => ⟨hk.cell (hA0 0) id, hk.cell (hA0 1) id, hk.cell (hA0 2) id, hk.cell (hA0 3) id, hk.cell (hA0 4) id⟩
  have HS := Lib.hid hS
  have hwk : IntKind.i64.wrap (k : Int) = (k : Int) := by rw [IntWalk.i64_in _ (by omega)]
  clear hS hA0
  go_enter Tryz.func72, Tryz.ntmps72
  go_upto_region 1 with fail
  go_cut [3] (fun s3 wx => ∃ K : Nat, s3 = .pointer (some ⟨K, 0, none⟩) ∧ w.heap.size + 2 ≤ K ∧ wx.heap[K]? = some (.cells #[.int .i64 k, .int .i64 pos, .bool false, .string (mk rw), .string ⟨#[]⟩] 133 (0, 0)) ∧ Keeps (fun _ => False) ((w.alloc (.cells #[.int .u16 k, .int .i64 pos, .slice ar n c, .bool b, .string s] 128)).alloc (.cells #[.int .i64 0, .int .i64 0, .bool false, .string ⟨#[]⟩, .string ⟨#[]⟩] 133)) wx)
  case first =>
    go_region_held3 (fun w' => w'.cell? ⟨w.heap.size, 0, none⟩ = some (.int .u16 k) ∧ w'.cell? ⟨w.heap.size, 1, none⟩ = some (.int .i64 pos) ∧ w'.cell? ⟨w.heap.size, 2, none⟩ = some (.slice ar n c) ∧ w'.cell? ⟨w.heap.size, 3, none⟩ = some (.bool b) ∧ w'.cell? ⟨w.heap.size, 4, none⟩ = some (.string s)) ((exact HS.out _ (by repeat (first | exact Keeps.refl _ _ | apply Keeps.alloc | apply Keeps.drew))))
      (first
        | (go_at_call 71; refine (jtok_kind _ _ _ _ _ _ _ _).mono ?_; rintro e w' ⟨rfl, rfl⟩)
        | (go_at_call 107; refine (jtok_pos _ _ _ _ _ _ _ _).mono ?_; rintro e w' ⟨rfl, rfl⟩)
        | (go_at_call 104; refine (jtok_raw _ _ _ _ _ _ _ _ rw (hraw.keeps (by repeat (first | exact Keeps.refl _ _ | apply Keeps.alloc | apply Keeps.drew)) (fun _ _ => id))).mono ?_; rintro e w' ⟨rfl, rfl⟩))
    all_goals go_wp2_with fail
    all_goals go_meet
    all_goals
      apply cut_row
      · repeat (first | exact Keeps.refl _ _ | apply Keeps.alloc | apply Keeps.drew)
      · simp; try omega
      · repeat (first | exact Keeps.refl _ _ | apply Keeps.alloc | apply Keeps.drew)
      · simp
  case rest =>
    obtain ⟨K, rfl, hKs, rK, hkc⟩ := hcut
    have hS2 := HS.out wc hkc
    obtain ⟨b0, b1, b2, b3, b4⟩ := hS2
    have RK := Lib.hid rK
    have HKC := Lib.hid hkc
    clear rK hkc
    go_wp2_with (go_at_call 71; refine (jtok_kindK _ _ _ _ _ _ _ _).mono ?_; rintro e w9 ⟨rfl, hk9⟩; have rK := hk9.row RK.out id; have rR := hk9.row (HKC.out.row (heap_alloc2_new w _ _) id) id; have hfR := fun j => frozen_row (j := j) rR; have e0 := cell_row (j := 0) rK; have e1 := cell_row (j := 1) rK; have e2 := cell_row (j := 2) rK; have e3 := cell_row (j := 3) rK; have e4 := cell_row (j := 4) rK; have g0 := cell_row (j := 0) rR; have g1 := cell_row (j := 1) rR; have g2 := cell_row (j := 2) rR; have g3 := cell_row (j := 3) rR; have g4 := cell_row (j := 4) rR; simp at e0 e1 e2 e3 e4 g0 g1 g2 g3 g4)
    refine bodyPost_ret (results_cell_row rfl _ _ (w.heap.size + 1) _ _ (0, 0) _ rfl (store5_row rR _ _ _ _ _) Tryz.underlying133 rfl (by kernel_rfl)) rfl ?_
    refine ⟨rfl, ?_⟩
    exact ((((((Keeps.refl (fun _ => False) w).alloc _).alloc _).trans HKC.out (fun _ _ => id)).trans hk9 (fun _ _ => id)).trans (store5_keeps w9 (w.heap.size + 1) _ _ _ _ _) (fun i hi h => by omega))
end Go.Proofs.YtdckklmhnhbpiaaGreatDoor
