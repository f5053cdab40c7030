/-
  What the thin package asks of a token of the text form, and textToken.
  What the thin package asks of a token of the JSON form, and jsonToken at kinds that bear no name, text or bool.
-/
import Derived.Test.YtmijjppjodpagaaGreatDoorM31
import Derived.Test.YtmijjppjodpagaaGreatDoorM29
import Derived.Deep.RegionHeld3
import Derived.Deep.DeepCutAuto
import Derived.Test.YtmijjppjodpagaaGreatDoorM34
set_option linter.unusedVariables false
set_option linter.unusedSimpArgs false
namespace Go.Proofs.YtmijjppjodpagaaGreatDoor
open Go.RowKit

section
variable (k a na pos : Int) (ar : Option Addr) (n c : Nat) (s : ByteArray) (w : World)
set_option maxRecDepth 100000 in
theorem tok_kind : Calls Tryz.prog 63 #[.agg #[.int .u8 k, .int .u8 a, .int .u8 na, .int .i64 pos, .slice ar n c, .string s]] w fun e w' => e = .returned (.int .u8 k) ∧ w' = w.alloc (.cells #[.int .u8 k, .int .u8 a, .int .u8 na, .int .i64 pos, .slice ar n c, .string s] 120) := by
  go_enter Tryz.func63, Tryz.ntmps63
  go_wp2
  go_ret
  exact ⟨rfl, rfl⟩
set_option maxRecDepth 100000 in
theorem tok_pos : Calls Tryz.prog 86 #[.agg #[.int .u8 k, .int .u8 a, .int .u8 na, .int .i64 pos, .slice ar n c, .string s]] w fun e w' => e = .returned (.int .i64 pos) ∧ w' = w.alloc (.cells #[.int .u8 k, .int .u8 a, .int .u8 na, .int .i64 pos, .slice ar n c, .string s] 120) := by
  go_enter Tryz.func86, Tryz.ntmps86
  go_wp2
  go_ret
  exact ⟨rfl, rfl⟩
set_option maxRecDepth 100000 in
theorem tok_raw (rw : List UInt8) (hraw : BytesAt w (.slice ar n c) rw) : Calls Tryz.prog 87 #[.agg #[.int .u8 k, .int .u8 a, .int .u8 na, .int .i64 pos, .slice ar n c, .string s]] w fun e w' => e = .returned (.string (mk rw)) ∧ w' = w.alloc (.cells #[.int .u8 k, .int .u8 a, .int .u8 na, .int .i64 pos, .slice ar n c, .string s] 120) := by
  have hcv := run_to_str (hraw.keeps ((Keeps.refl (fun _ => False) w).alloc (.cells #[.int .u8 k, .int .u8 a, .int .u8 na, .int .i64 pos, .slice ar n c, .string s] 120)) (fun _ _ => id))
  go_enter Tryz.func87, Tryz.ntmps87
  go_wp2
  go_ret
  exact ⟨rfl, rfl⟩
set_option maxRecDepth 100000 in
theorem tok_nk : Calls Tryz.prog 88 #[.agg #[.int .u8 2, .int .u8 129, .int .u8 na, .int .i64 pos, .slice ar n c, .string s]] w fun e w' => e = .returned (.int .u8 1) ∧ w' = w.alloc (.cells #[.int .u8 2, .int .u8 129, .int .u8 na, .int .i64 pos, .slice ar n c, .string s] 120) := by
  go_enter Tryz.func88, Tryz.ntmps88
  go_wp2
  go_ret
  exact ⟨rfl, rfl⟩
set_option maxRecDepth 100000 in
theorem tok_sep : Calls Tryz.prog 89 #[.agg #[.int .u8 2, .int .u8 129, .int .u8 na, .int .i64 pos, .slice ar n c, .string s]] w fun e w' => e = .returned (.bool true) ∧ w' = w.alloc (.cells #[.int .u8 2, .int .u8 129, .int .u8 na, .int .i64 pos, .slice ar n c, .string s] 120) := by
  go_enter Tryz.func89, Tryz.ntmps89
  go_wp2
  go_ret
  exact ⟨rfl, rfl⟩
set_option maxRecDepth 100000 in
theorem tok_ident (rw : List UInt8) (hraw : BytesAt w (.slice ar n c) rw) : Calls Tryz.prog 90 #[.agg #[.int .u8 2, .int .u8 129, .int .u8 na, .int .i64 pos, .slice ar n c, .string s]] w fun e w' => e = .returned (.string (mk rw)) ∧ w' = w.alloc (.cells #[.int .u8 2, .int .u8 129, .int .u8 na, .int .i64 pos, .slice ar n c, .string s] 120) := by
  have hcv := run_to_str (hraw.keeps ((Keeps.refl (fun _ => False) w).alloc (.cells #[.int .u8 2, .int .u8 129, .int .u8 na, .int .i64 pos, .slice ar n c, .string s] 120)) (fun _ _ => id))
  go_enter Tryz.func90, Tryz.ntmps90
  go_wp2
  go_ret
  exact ⟨rfl, rfl⟩
end

theorem cut_row {W0 W X : World} {o : Obj} {N : Nat} {v : Value} (hk : Keeps (fun _ => False) (X.alloc o) W) (hN : N ≤ X.heap.size) (hk0 : Keeps (fun _ => False) W0 W) (hv : v = .pointer (some ⟨X.heap.size, 0, none⟩)) :
    ∃ K, v = .pointer (some ⟨K, 0, none⟩) ∧ N ≤ K ∧ W.heap[K]? = some o ∧ Keeps (fun _ => False) W0 W := ⟨_, hv, hN, hk.row (heap_alloc_new X o) id, hk0⟩
theorem tok_kindK (k a na pos : Int) (ar : Option Addr) (n c : Nat) (s : ByteArray) (w : World) : Calls Tryz.prog 63 #[.agg #[.int .u8 k, .int .u8 a, .int .u8 na, .int .i64 pos, .slice ar n c, .string s]] w fun e w' => e = .returned (.int .u8 k) ∧ Keeps (fun _ => False) w w' :=
  (tok_kind k a na pos ar n c s w).mono fun _ _ h => ⟨h.1, by rw [h.2]; exact (Keeps.refl _ w).alloc _⟩

set_option maxRecDepth 1000000 in
set_option maxHeartbeats 20000000 in
theorem textToken_other (k a na : Nat) (pos : Int) (ar : Option Addr) (n c : Nat) (s : ByteArray) (rw : List UInt8) (w : World) (hk : ((k : Int) == 2) = false) (hk256 : k < 256) (hraw : BytesAt w (.slice ar n c) rw) :
    Calls Tryz.prog 64 #[.agg #[.int .u8 k, .int .u8 a, .int .u8 na, .int .i64 pos, .slice ar n c, .string s]] w fun e w' => e = .returned (.agg #[.int .i64 k, .int .i64 0, .int .i64 pos, .bool false, .string (mk rw), .string ⟨#[]⟩]) ∧ Keeps (fun _ => False) w w' := by
  have hA0 : ∀ j, ((w.alloc (.cells #[.int .u8 k, .int .u8 a, .int .u8 na, .int .i64 pos, .slice ar n c, .string s] 120)).alloc (.cells #[.int .i64 0, .int .i64 0, .int .i64 0, .bool false, .string ⟨#[]⟩, .string ⟨#[]⟩] 125)).cell? ⟨w.heap.size, j, none⟩ = (#[.int .u8 k, .int .u8 a, .int .u8 na, .int .i64 pos, .slice ar n c, .string s] : Array Value)[j]? := fun j => cell_row (heap_alloc2_old w _ _)
  have hS : ∀ w', Keeps (fun _ => False) ((w.alloc (.cells #[.int .u8 k, .int .u8 a, .int .u8 na, .int .i64 pos, .slice ar n c, .string s] 120)).alloc (.cells #[.int .i64 0, .int .i64 0, .int .i64 0, .bool false, .string ⟨#[]⟩, .string ⟨#[]⟩] 125)) w' → w'.cell? ⟨w.heap.size, 0, none⟩ = some (.int .u8 k) ∧ w'.cell? ⟨w.heap.size, 1, none⟩ = some (.int .u8 a) ∧ w'.cell? ⟨w.heap.size, 2, none⟩ = some (.int .u8 na) ∧ w'.cell? ⟨w.heap.size, 3, none⟩ = some (.int .i64 pos) ∧ w'.cell? ⟨w.heap.size, 4, none⟩ = some (.slice ar n c) ∧ w'.cell? ⟨w.heap.size, 5, none⟩ = some (.string s) :=
    fun w' hk => ⟨hk.cell (hA0 0) id, hk.cell (hA0 1) id, hk.cell (hA0 2) id, hk.cell (hA0 3) id, hk.cell (hA0 4) id, hk.cell (hA0 5) id⟩
  have HS := Lib.hid hS
  have hwk : IntKind.i64.wrap (k : Int) = (k : Int) := by rw [IntWalk.i64_in _ (by omega)]
  clear hS hA0
  go_enter Tryz.func64, Tryz.ntmps64
  go_upto_region 1 with fail
  go_cut [3] (fun s3 wx => ∃ K : Nat, s3 = .pointer (some ⟨K, 0, none⟩) ∧ w.heap.size + 2 ≤ K ∧ wx.heap[K]? = some (.cells #[.int .i64 k, .int .i64 0, .int .i64 pos, .bool false, .string (mk rw), .string ⟨#[]⟩] 125 (0, 0)) ∧ Keeps (fun _ => False) ((w.alloc (.cells #[.int .u8 k, .int .u8 a, .int .u8 na, .int .i64 pos, .slice ar n c, .string s] 120)).alloc (.cells #[.int .i64 0, .int .i64 0, .int .i64 0, .bool false, .string ⟨#[]⟩, .string ⟨#[]⟩] 125)) wx)
  case first =>
    go_region_held3 (fun w' => w'.cell? ⟨w.heap.size, 0, none⟩ = some (.int .u8 k) ∧ w'.cell? ⟨w.heap.size, 1, none⟩ = some (.int .u8 a) ∧ w'.cell? ⟨w.heap.size, 2, none⟩ = some (.int .u8 na) ∧ w'.cell? ⟨w.heap.size, 3, none⟩ = some (.int .i64 pos) ∧ w'.cell? ⟨w.heap.size, 4, none⟩ = some (.slice ar n c) ∧ w'.cell? ⟨w.heap.size, 5, none⟩ = some (.string s)) ((exact HS.out _ (by repeat (first | exact Keeps.refl _ _ | apply Keeps.alloc | apply Keeps.drew))))
      (first
        | (go_at_call 63; refine (tok_kind _ _ _ _ _ _ _ _ _).mono ?_; rintro e w' ⟨rfl, rfl⟩)
        | (go_at_call 86; refine (tok_pos _ _ _ _ _ _ _ _ _).mono ?_; rintro e w' ⟨rfl, rfl⟩)
        | (go_at_call 87; refine (tok_raw _ _ _ _ _ _ _ _ _ rw (hraw.keeps (by repeat (first | exact Keeps.refl _ _ | apply Keeps.alloc | apply Keeps.drew)) (fun _ _ => id))).mono ?_; rintro e w' ⟨rfl, rfl⟩))
    all_goals go_wp2_with fail
    all_goals go_meet
    all_goals
      apply cut_row
      · repeat (first | exact Keeps.refl _ _ | apply Keeps.alloc | apply Keeps.drew)
      · simp; try omega
      · repeat (first | exact Keeps.refl _ _ | apply Keeps.alloc | apply Keeps.drew)
      · simp
  case rest =>
    obtain ⟨K, rfl, hKs, rK, hkc⟩ := hcut
    have hS2 := HS.out wc hkc
    obtain ⟨b0, b1, b2, b3, b4, b5⟩ := hS2
    have RK := Lib.hid rK
    have HKC := Lib.hid hkc
    clear rK hkc
    go_wp2_with (go_at_call 63; refine (tok_kindK _ _ _ _ _ _ _ _ _).mono ?_; rintro e w9 ⟨rfl, hk9⟩; have rK := hk9.row RK.out id; have rR := hk9.row (HKC.out.row (heap_alloc2_new w _ _) id) id; have hfR := fun j => frozen_row (j := j) rR; have e0 := cell_row (j := 0) rK; have e1 := cell_row (j := 1) rK; have e2 := cell_row (j := 2) rK; have e3 := cell_row (j := 3) rK; have e4 := cell_row (j := 4) rK; have e5 := cell_row (j := 5) rK; have g0 := cell_row (j := 0) rR; have g1 := cell_row (j := 1) rR; have g2 := cell_row (j := 2) rR; have g3 := cell_row (j := 3) rR; have g4 := cell_row (j := 4) rR; have g5 := cell_row (j := 5) rR; simp at e0 e1 e2 e3 e4 e5 g0 g1 g2 g3 g4 g5)
    refine bodyPost_ret (results_cell_row rfl _ _ (w.heap.size + 1) _ _ (0, 0) _ rfl (store6_row rR _ _ _ _ _ _) Tryz.underlying125 rfl (by kernel_rfl)) rfl ?_
    refine ⟨rfl, ?_⟩
    exact ((((((Keeps.refl (fun _ => False) w).alloc _).alloc _).trans HKC.out (fun _ _ => id)).trans hk9 (fun _ _ => id)).trans (store6_keeps w9 (w.heap.size + 1) _ _ _ _ _ _) (fun i hi h => by omega))

theorem tok_nkK (na pos : Int) (ar : Option Addr) (n c : Nat) (s : ByteArray) (w : World) : Calls Tryz.prog 88 #[.agg #[.int .u8 2, .int .u8 129, .int .u8 na, .int .i64 pos, .slice ar n c, .string s]] w fun e w' => e = .returned (.int .u8 1) ∧ Keeps (fun _ => False) w w' :=
  (tok_nk na pos ar n c s w).mono fun _ _ h => ⟨h.1, by rw [h.2]; exact (Keeps.refl _ w).alloc _⟩
theorem tok_sepK (na pos : Int) (ar : Option Addr) (n c : Nat) (s : ByteArray) (w : World) : Calls Tryz.prog 89 #[.agg #[.int .u8 2, .int .u8 129, .int .u8 na, .int .i64 pos, .slice ar n c, .string s]] w fun e w' => e = .returned (.bool true) ∧ Keeps (fun _ => False) w w' :=
  (tok_sep na pos ar n c s w).mono fun _ _ h => ⟨h.1, by rw [h.2]; exact (Keeps.refl _ w).alloc _⟩
theorem tok_identK (na pos : Int) (ar : Option Addr) (n c : Nat) (s : ByteArray) (w : World) (rw : List UInt8) (hraw : BytesAt w (.slice ar n c) rw) : Calls Tryz.prog 90 #[.agg #[.int .u8 2, .int .u8 129, .int .u8 na, .int .i64 pos, .slice ar n c, .string s]] w fun e w' => e = .returned (.string (mk rw)) ∧ Keeps (fun _ => False) w w' :=
  (tok_ident na pos ar n c s w rw hraw).mono fun _ _ h => ⟨h.1, by rw [h.2]; exact (Keeps.refl _ w).alloc _⟩

set_option maxRecDepth 1000000 in
set_option maxHeartbeats 20000000 in
theorem textToken_name (na : Nat) (pos : Int) (ar : Option Addr) (n c : Nat) (s : ByteArray) (rw : List UInt8) (w : World) (hrw : rw ≠ []) (hraw : BytesAt w (.slice ar n c) rw) :
    Calls Tryz.prog 64 #[.agg #[.int .u8 2, .int .u8 129, .int .u8 na, .int .i64 pos, .slice ar n c, .string s]] w fun e w' => e = .returned (.agg #[.int .i64 2, .int .i64 1, .int .i64 pos, .bool true, .string (mk rw), .string (mk rw)]) ∧ Keeps (fun _ => False) w w' := by
  have hA0 : ∀ j, ((w.alloc (.cells #[.int .u8 2, .int .u8 129, .int .u8 na, .int .i64 pos, .slice ar n c, .string s] 120)).alloc (.cells #[.int .i64 0, .int .i64 0, .int .i64 0, .bool false, .string ⟨#[]⟩, .string ⟨#[]⟩] 125)).cell? ⟨w.heap.size, j, none⟩ = (#[.int .u8 2, .int .u8 129, .int .u8 na, .int .i64 pos, .slice ar n c, .string s] : Array Value)[j]? := fun j => cell_row (heap_alloc2_old w _ _)
  have hS : ∀ w', Keeps (fun _ => False) ((w.alloc (.cells #[.int .u8 2, .int .u8 129, .int .u8 na, .int .i64 pos, .slice ar n c, .string s] 120)).alloc (.cells #[.int .i64 0, .int .i64 0, .int .i64 0, .bool false, .string ⟨#[]⟩, .string ⟨#[]⟩] 125)) w' → w'.cell? ⟨w.heap.size, 0, none⟩ = some (.int .u8 2) ∧ w'.cell? ⟨w.heap.size, 1, none⟩ = some (.int .u8 129) ∧ w'.cell? ⟨w.heap.size, 2, none⟩ = some (.int .u8 na) ∧ w'.cell? ⟨w.heap.size, 3, none⟩ = some (.int .i64 pos) ∧ w'.cell? ⟨w.heap.size, 4, none⟩ = some (.slice ar n c) ∧ w'.cell? ⟨w.heap.size, 5, none⟩ = some (.string s) :=
    fun w' hk => ⟨hk.cell (hA0 0) id, hk.cell (hA0 1) id, hk.cell (hA0 2) id, hk.cell (hA0 3) id, hk.cell (hA0 4) id, hk.cell (hA0 5) id⟩
  have HS := Lib.hid hS
  clear hS hA0
  have hnr : ∀ j, (Value.slice ar n c).ownBlock = some j → j < w.heap.size := bytes_lt hraw hrw
  go_enter Tryz.func64, Tryz.ntmps64
  go_upto_region 1 with fail
  go_cut [3] (fun s3 wx => ∃ K : Nat, s3 = .pointer (some ⟨K, 0, none⟩) ∧ w.heap.size + 2 ≤ K ∧ wx.heap[K]? = some (.cells #[.int .i64 2, .int .i64 0, .int .i64 pos, .bool false, .string (mk rw), .string ⟨#[]⟩] 125 (0, 0)) ∧ Keeps (fun _ => False) ((w.alloc (.cells #[.int .u8 2, .int .u8 129, .int .u8 na, .int .i64 pos, .slice ar n c, .string s] 120)).alloc (.cells #[.int .i64 0, .int .i64 0, .int .i64 0, .bool false, .string ⟨#[]⟩, .string ⟨#[]⟩] 125)) wx)
  case first =>
    go_region_held3 (fun w' => w'.cell? ⟨w.heap.size, 0, none⟩ = some (.int .u8 2) ∧ w'.cell? ⟨w.heap.size, 1, none⟩ = some (.int .u8 129) ∧ w'.cell? ⟨w.heap.size, 2, none⟩ = some (.int .u8 na) ∧ w'.cell? ⟨w.heap.size, 3, none⟩ = some (.int .i64 pos) ∧ w'.cell? ⟨w.heap.size, 4, none⟩ = some (.slice ar n c) ∧ w'.cell? ⟨w.heap.size, 5, none⟩ = some (.string s)) ((exact HS.out _ (by repeat (first | exact Keeps.refl _ _ | apply Keeps.alloc | apply Keeps.drew))))
      (first
        | (go_at_call 63; refine (tok_kind _ _ _ _ _ _ _ _ _).mono ?_; rintro e w' ⟨rfl, rfl⟩)
        | (go_at_call 86; refine (tok_pos _ _ _ _ _ _ _ _ _).mono ?_; rintro e w' ⟨rfl, rfl⟩)
        | (go_at_call 87; refine (tok_raw _ _ _ _ _ _ _ _ _ rw (hraw.keeps (by repeat (first | exact Keeps.refl _ _ | apply Keeps.alloc | apply Keeps.drew)) (fun _ _ => id))).mono ?_; rintro e w' ⟨rfl, rfl⟩))
    all_goals go_wp2_with fail
    all_goals go_meet
    all_goals
      apply cut_row
      · repeat (first | exact Keeps.refl _ _ | apply Keeps.alloc | apply Keeps.drew)
      · simp; try omega
      · repeat (first | exact Keeps.refl _ _ | apply Keeps.alloc | apply Keeps.drew)
      · simp
  case rest =>
    obtain ⟨K, rfl, hKs, rK, hkc⟩ := hcut
    have hS2 := HS.out wc hkc
    obtain ⟨b0, b1, b2, b3, b4, b5⟩ := hS2
    have RK := Lib.hid rK
    have HKC := Lib.hid hkc
    clear rK hkc
    go_wp2_with (go_at_call 63; refine (tok_kindK _ _ _ _ _ _ _ _ _).mono ?_; rintro e w9 ⟨rfl, hk9⟩)
    obtain ⟨p0, p1, p2, p3, p4, p5⟩ := HS.out w9 (HKC.out.trans hk9 (fun _ _ => id))
    have hKA : w.heap.size ≠ K := by omega
    have hKR : w.heap.size + 1 ≠ K := by omega
    have HS9 : Hid (∀ w', Keeps (fun j => j = K) w9 w' → w'.cell? ⟨w.heap.size, 0, none⟩ = some (.int .u8 2) ∧ w'.cell? ⟨w.heap.size, 1, none⟩ = some (.int .u8 129) ∧ w'.cell? ⟨w.heap.size, 2, none⟩ = some (.int .u8 na) ∧ w'.cell? ⟨w.heap.size, 3, none⟩ = some (.int .i64 pos) ∧ w'.cell? ⟨w.heap.size, 4, none⟩ = some (.slice ar n c) ∧ w'.cell? ⟨w.heap.size, 5, none⟩ = some (.string s)) := fun w' hk => ⟨hk.cell (p0) hKA, hk.cell (p1) hKA, hk.cell (p2) hKA, hk.cell (p3) hKA, hk.cell (p4) hKA, hk.cell (p5) hKA⟩
    have HK9 := Lib.hid hk9
    have hr9 := hraw.keeps ((((Keeps.refl (fun _ => False) w).alloc (.cells #[.int .u8 2, .int .u8 129, .int .u8 na, .int .i64 pos, .slice ar n c, .string s] 120)).alloc (.cells #[.int .i64 0, .int .i64 0, .int .i64 0, .bool false, .string ⟨#[]⟩, .string ⟨#[]⟩] 125)).trans (HKC.out.trans hk9 (fun _ _ => id)) (fun _ _ => id)) (fun _ _ => id)
    have HR9 := Lib.hid hr9
    clear hk9 hr9
    have hw1 : IntKind.i64.wrap (1 : Int) = 1 := by rw [IntWalk.i64_in _ (by omega)]
    go_region_held3 (fun w' => w'.cell? ⟨w.heap.size, 0, none⟩ = some (.int .u8 2) ∧ w'.cell? ⟨w.heap.size, 1, none⟩ = some (.int .u8 129) ∧ w'.cell? ⟨w.heap.size, 2, none⟩ = some (.int .u8 na) ∧ w'.cell? ⟨w.heap.size, 3, none⟩ = some (.int .i64 pos) ∧ w'.cell? ⟨w.heap.size, 4, none⟩ = some (.slice ar n c) ∧ w'.cell? ⟨w.heap.size, 5, none⟩ = some (.string s)) ((first | (exact HS9.out _ ((Keeps.refl _ w9).drew)) | (exact HS9.out _ hkn) | (exact HS9.out _ hks) | (exact HS9.out _ (hks1 _)) | (exact HS9.out _ (hks3 _ _))))
      (first
        | (go_at_call 88; refine (tok_nkK _ _ _ _ _ _ _).mono ?_; rintro e wn ⟨rfl, hk'⟩; have hkn : Keeps (fun j => j = K) w9 wn := (Keeps.refl (fun j => j = K) w9).drew.trans hk' (fun _ _ => False.elim); have hknF : Keeps (fun _ => False) w9 wn := (Keeps.refl (fun _ => False) w9).drew.trans hk' (fun _ _ => id); clear hk')
        | (go_at_call 89; refine (tok_sepK _ _ _ _ _ _ _).mono ?_; rintro e ws ⟨rfl, hk'⟩; have hks : Keeps (fun j => j = K) w9 ws := hkn.trans hk' (fun _ _ => False.elim); have rK := (hknF.trans hk' (fun _ _ => id)).row (HK9.out.row RK.out id) id; have rR := (hknF.trans hk' (fun _ _ => id)).row (HK9.out.row (HKC.out.row (heap_alloc2_new w _ _) id) id) id; clear hk'; have hks1 : ∀ u, Keeps (fun j => j = K) w9 (ws.setCell ⟨K, 1, none⟩ u) := fun u => Keeps.setCell hks ⟨K, 1, none⟩ (fun _ => rfl) u; have hks3 : ∀ u v, Keeps (fun j => j = K) w9 ((ws.setCell ⟨K, 1, none⟩ u).setCell ⟨K, 3, none⟩ v) := fun u v => Keeps.setCell (hks1 u) ⟨K, 3, none⟩ (fun _ => rfl) v; have hfK := fun j => frozen_row (j := j) rK; have e0 := cell_row (j := 0) rK; have e1 := cell_row (j := 1) rK; have e2 := cell_row (j := 2) rK; have e3 := cell_row (j := 3) rK; have e4 := cell_row (j := 4) rK; have e5 := cell_row (j := 5) rK; simp at e0 e1 e2 e3 e4 e5))
    have zk := hks3 (.int .i64 1) (.bool true)
    have zK := setCell_row (j := 3) (setCell_row (j := 1) rK (.int .i64 1)) (.bool true)
    have zR := (Keeps.setCell (S := fun j => j = K) (Keeps.setCell (S := fun j => j = K) (Keeps.refl _ ws) ⟨K, 1, none⟩ (fun _ => rfl) (.int .i64 1)) ⟨K, 3, none⟩ (fun _ => rfl) (.bool true)).row rR hKR
    obtain ⟨Wz, hWz⟩ : ∃ W, (ws.setCell ⟨K, 1, none⟩ (.int .i64 1)).setCell ⟨K, 3, none⟩ (.bool true) = W := ⟨_, rfl⟩
    rw [hWz] at zk zK zR ⊢
    simp at zK
    clear hWz e0 e1 e2 e3 e4 e5 hfK rK rR hks1 hks3 hks hkn hknF
    obtain ⟨z0, z1, z2, z3, z4, z5⟩ := HS9.out Wz zk
    have zr := HR9.out.keeps zk (fun j hj e => by
      have h1 := hnr j hj
      omega)
    have ZK := Lib.hid zK
    have ZR := Lib.hid zR
    have ZKK := Lib.hid zk
    have ZRR := Lib.hid zr
    clear zK zR zk zr
    go_simp
    go_wp2_with (first
      | (go_at_call 88; refine (tok_nkK _ _ _ _ _ _ _).mono ?_; rintro e wp ⟨rfl, hp⟩; have y0 := hp.cell z0 id; have y1 := hp.cell z1 id; have y2 := hp.cell z2 id; have y3 := hp.cell z3 id; have y4 := hp.cell z4 id; have y5 := hp.cell z5 id)
      | (go_at_call 90; refine (tok_identK _ _ _ _ _ _ _ rw (ZRR.out.keeps hp (fun _ _ => id))).mono ?_; rintro e wq ⟨rfl, hq⟩; have xK := (hp.trans hq (fun _ _ => id)).row ZK.out id; have xR := (hp.trans hq (fun _ _ => id)).row ZR.out id; have hfK := fun j => frozen_row (j := j) xK; have hfR := fun j => frozen_row (j := j) xR; have f0 := cell_row (j := 0) xK; have f1 := cell_row (j := 1) xK; have f2 := cell_row (j := 2) xK; have f3 := cell_row (j := 3) xK; have f4 := cell_row (j := 4) xK; have f5 := cell_row (j := 5) xK; simp at f0 f1 f2 f3 f4 f5; have g0 := cell_row (j := 0) xR; have g1 := cell_row (j := 1) xR; have g2 := cell_row (j := 2) xR; have g3 := cell_row (j := 3) xR; have g4 := cell_row (j := 4) xR; have g5 := cell_row (j := 5) xR; simp at g0 g1 g2 g3 g4 g5))
    have xk : Keeps (fun j => j = K) wq (wq.setCell ⟨K, 5, none⟩ (.string (mk rw))) := Keeps.setCell (S := fun j => j = K) (Keeps.refl _ wq) ⟨K, 5, none⟩ (fun _ => rfl) _
    refine bodyPost_ret (results_cell_row rfl _ _ (w.heap.size + 1) _ _ (0, 0) _ rfl (store6_row (xk.row xR hKR) _ _ _ _ _ _) Tryz.underlying125 rfl (by kernel_rfl)) rfl ?_
    refine ⟨rfl, ?_⟩
    have c1 : Keeps (fun _ => False) w w9 := (((Keeps.refl (fun _ => False) w).alloc _).alloc _).trans (HKC.out.trans HK9.out (fun _ _ => id)) (fun _ _ => id)
    have c2 : Keeps (fun _ => False) w wq := (c1.trans ZKK.out (fun i hi h => by omega)).trans (hp.trans hq (fun _ _ => id)) (fun _ _ => id)
    exact (c2.trans xk (fun i hi h => by omega)).trans (store6_keeps _ (w.heap.size + 1) _ _ _ _ _ _) (fun i hi h => by omega)
end Go.Proofs.YtmijjppjodpagaaGreatDoor

namespace Go.Proofs.YtmijjppjodpagaaGreatDoor
open Go.RowKit

section
variable (k pos : Int) (ar : Option Addr) (n c : Nat) (b : Bool) (s : ByteArray) (w : World)
set_option maxRecDepth 100000 in
theorem jtok_kind : Calls Tryz.prog 67 #[.agg #[.int .u16 k, .int .i64 pos, .slice ar n c, .bool b, .string s]] w fun e w' => e = .returned (.int .u16 k) ∧ w' = w.alloc (.cells #[.int .u16 k, .int .i64 pos, .slice ar n c, .bool b, .string s] 133) := by
  go_enter Tryz.func67, Tryz.ntmps67
  go_wp2
  go_ret
  exact ⟨rfl, rfl⟩
set_option maxRecDepth 100000 in
theorem jtok_pos : Calls Tryz.prog 100 #[.agg #[.int .u16 k, .int .i64 pos, .slice ar n c, .bool b, .string s]] w fun e w' => e = .returned (.int .i64 pos) ∧ w' = w.alloc (.cells #[.int .u16 k, .int .i64 pos, .slice ar n c, .bool b, .string s] 133) := by
  go_enter Tryz.func100, Tryz.ntmps100
  go_wp2
  go_ret
  exact ⟨rfl, rfl⟩
set_option maxRecDepth 100000 in
theorem jtok_raw (rw : List UInt8) (hraw : BytesAt w (.slice ar n c) rw) : Calls Tryz.prog 97 #[.agg #[.int .u16 k, .int .i64 pos, .slice ar n c, .bool b, .string s]] w fun e w' => e = .returned (.string (mk rw)) ∧ w' = w.alloc (.cells #[.int .u16 k, .int .i64 pos, .slice ar n c, .bool b, .string s] 133) := by
  have hcv := run_to_str (hraw.keeps ((Keeps.refl (fun _ => False) w).alloc (.cells #[.int .u16 k, .int .i64 pos, .slice ar n c, .bool b, .string s] 133)) (fun _ _ => id))
  go_enter Tryz.func97, Tryz.ntmps97
  go_wp2
  go_ret
  exact ⟨rfl, rfl⟩
end

theorem jtok_kindK (k pos : Int) (ar : Option Addr) (n c : Nat) (b : Bool) (s : ByteArray) (w : World) : Calls Tryz.prog 67 #[.agg #[.int .u16 k, .int .i64 pos, .slice ar n c, .bool b, .string s]] w fun e w' => e = .returned (.int .u16 k) ∧ Keeps (fun _ => False) w w' :=
  (jtok_kind k pos ar n c b s w).mono fun _ _ h => ⟨h.1, by rw [h.2]; exact (Keeps.refl _ w).alloc _⟩

set_option maxRecDepth 1000000 in
set_option maxHeartbeats 20000000 in
theorem jsonToken_other (k : Nat) (pos : Int) (ar : Option Addr) (n c : Nat) (b : Bool) (s : ByteArray) (rw : List UInt8) (w : World) (hk4 : ((k : Int) == 4) = false) (hk16 : ((k : Int) == 16) = false) (hk32 : ((k : Int) == 32) = false) (hkb : k < 65536) (hraw : BytesAt w (.slice ar n c) rw) :
    Calls Tryz.prog 68 #[.agg #[.int .u16 k, .int .i64 pos, .slice ar n c, .bool b, .string s]] w fun e w' => e = .returned (.agg #[.int .i64 k, .int .i64 pos, .bool false, .string (mk rw), .string ⟨#[]⟩]) ∧ Keeps (fun _ => False) w w' := by
  have hA0 : ∀ j, ((w.alloc (.cells #[.int .u16 k, .int .i64 pos, .slice ar n c, .bool b, .string s] 133)).alloc (.cells #[.int .i64 0, .int .i64 0, .bool false, .string ⟨#[]⟩, .string ⟨#[]⟩] 138)).cell? ⟨w.heap.size, j, none⟩ = (#[.int .u16 k, .int .i64 pos, .slice ar n c, .bool b, .string s] : Array Value)[j]? := fun j => cell_row (heap_alloc2_old w _ _)
  have hS : ∀ w', Keeps (fun _ => False) ((w.alloc (.cells #[.int .u16 k, .int .i64 pos, .slice ar n c, .bool b, .string s] 133)).alloc (.cells #[.int .i64 0, .int .i64 0, .bool false, .string ⟨#[]⟩, .string ⟨#[]⟩] 138)) w' → w'.cell? ⟨w.heap.size, 0, none⟩ = some (.int .u16 k) ∧ w'.cell? ⟨w.heap.size, 1, none⟩ = some (.int .i64 pos) ∧ w'.cell? ⟨w.heap.size, 2, none⟩ = some (.slice ar n c) ∧ w'.cell? ⟨w.heap.size, 3, none⟩ = some (.bool b) ∧ w'.cell? ⟨w.heap.size, 4, none⟩ = some (.string s) :=
    fun w' hk => ⟨hk.cell (hA0 0) id, hk.cell (hA0 1) id, hk.cell (hA0 2) id, hk.cell (hA0 3) id, hk.cell (hA0 4) id⟩
  have HS := Lib.hid hS
  have hwk : IntKind.i64.wrap (k : Int) = (k : Int) := by rw [IntWalk.i64_in _ (by omega)]
  clear hS hA0
  go_enter Tryz.func68, Tryz.ntmps68
  go_upto_region 1 with fail
  go_cut [3] (fun s3 wx => ∃ K : Nat, s3 = .pointer (some ⟨K, 0, none⟩) ∧ w.heap.size + 2 ≤ K ∧ wx.heap[K]? = some (.cells #[.int .i64 k, .int .i64 pos, .bool false, .string (mk rw), .string ⟨#[]⟩] 138 (0, 0)) ∧ Keeps (fun _ => False) ((w.alloc (.cells #[.int .u16 k, .int .i64 pos, .slice ar n c, .bool b, .string s] 133)).alloc (.cells #[.int .i64 0, .int .i64 0, .bool false, .string ⟨#[]⟩, .string ⟨#[]⟩] 138)) wx)
  case first =>
    go_region_held3 (fun w' => w'.cell? ⟨w.heap.size, 0, none⟩ = some (.int .u16 k) ∧ w'.cell? ⟨w.heap.size, 1, none⟩ = some (.int .i64 pos) ∧ w'.cell? ⟨w.heap.size, 2, none⟩ = some (.slice ar n c) ∧ w'.cell? ⟨w.heap.size, 3, none⟩ = some (.bool b) ∧ w'.cell? ⟨w.heap.size, 4, none⟩ = some (.string s)) ((exact HS.out _ (by repeat (first | exact Keeps.refl _ _ | apply Keeps.alloc | apply Keeps.drew))))
      (first
        | (go_at_call 67; refine (jtok_kind _ _ _ _ _ _ _ _).mono ?_; rintro e w' ⟨rfl, rfl⟩)
        | (go_at_call 100; refine (jtok_pos _ _ _ _ _ _ _ _).mono ?_; rintro e w' ⟨rfl, rfl⟩)
        | (go_at_call 97; refine (jtok_raw _ _ _ _ _ _ _ _ rw (hraw.keeps (by repeat (first | exact Keeps.refl _ _ | apply Keeps.alloc | apply Keeps.drew)) (fun _ _ => id))).mono ?_; rintro e w' ⟨rfl, rfl⟩))
    all_goals go_wp2_with fail
    all_goals go_meet
    all_goals
      apply cut_row
      · repeat (first | exact Keeps.refl _ _ | apply Keeps.alloc | apply Keeps.drew)
      · simp; try omega
      · repeat (first | exact Keeps.refl _ _ | apply Keeps.alloc | apply Keeps.drew)
      · simp
  case rest =>
    obtain ⟨K, rfl, hKs, rK, hkc⟩ := hcut
    have hS2 := HS.out wc hkc
    obtain ⟨b0, b1, b2, b3, b4⟩ := hS2
    have RK := Lib.hid rK
    have HKC := Lib.hid hkc
    clear rK hkc
    go_wp2_with (go_at_call 67; refine (jtok_kindK _ _ _ _ _ _ _ _).mono ?_; rintro e w9 ⟨rfl, hk9⟩; have rK := hk9.row RK.out id; have rR := hk9.row (HKC.out.row (heap_alloc2_new w _ _) id) id; have hfR := fun j => frozen_row (j := j) rR; have e0 := cell_row (j := 0) rK; have e1 := cell_row (j := 1) rK; have e2 := cell_row (j := 2) rK; have e3 := cell_row (j := 3) rK; have e4 := cell_row (j := 4) rK; have g0 := cell_row (j := 0) rR; have g1 := cell_row (j := 1) rR; have g2 := cell_row (j := 2) rR; have g3 := cell_row (j := 3) rR; have g4 := cell_row (j := 4) rR; simp at e0 e1 e2 e3 e4 g0 g1 g2 g3 g4)
    refine bodyPost_ret (results_cell_row rfl _ _ (w.heap.size + 1) _ _ (0, 0) _ rfl (store5_row rR _ _ _ _ _) Tryz.underlying138 rfl (by kernel_rfl)) rfl ?_
    refine ⟨rfl, ?_⟩
    exact ((((((Keeps.refl (fun _ => False) w).alloc _).alloc _).trans HKC.out (fun _ _ => id)).trans hk9 (fun _ _ => id)).trans (store5_keeps w9 (w.heap.size + 1) _ _ _ _ _) (fun i hi h => by omega))
end Go.Proofs.YtmijjppjodpagaaGreatDoor
