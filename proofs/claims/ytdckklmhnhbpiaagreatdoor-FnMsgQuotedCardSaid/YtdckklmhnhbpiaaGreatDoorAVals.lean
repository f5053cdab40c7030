/-
  What a quoted string's token stands for.
-/
import Derived.Test.YtdckklmhnhbpiaaGreatDoorATTok
import Derived.Laws.Externs
set_option linter.unusedSimpArgs false
set_option linter.unusedVariables false
namespace Go.Proofs.YtdckklmhnhbpiaaGreatDoor
open Go.RowKit

section
variable (pos : Int) (ar : Option Addr) (n c : Nat) (s : ByteArray) (w : World)
set_option maxRecDepth 1000000 in
theorem str_bool : Calls Tryz.prog 27 #[.agg #[.int .u8 3, .int .u8 2, .int .u8 0, .int .i64 pos, .slice ar n c, .string s]] w fun e w' => e = .returned (.tuple #[.bool false, .bool false]) ∧ w' = w.alloc (.cells #[.int .u8 3, .int .u8 2, .int .u8 0, .int .i64 pos, .slice ar n c, .string s] 53) := by
  go_enter Tryz.func27, Tryz.ntmps27
  go_wp2
  go_ret2
  exact ⟨rfl, rfl⟩
set_option maxRecDepth 1000000 in
theorem str_int64 : Calls Tryz.prog 28 #[.agg #[.int .u8 3, .int .u8 2, .int .u8 0, .int .i64 pos, .slice ar n c, .string s]] w fun e w' => e = .returned (.tuple #[.int .i64 0, .bool false]) ∧ w' = w.alloc (.cells #[.int .u8 3, .int .u8 2, .int .u8 0, .int .i64 pos, .slice ar n c, .string s] 53) := by
  go_enter Tryz.func28, Tryz.ntmps28
  go_wp2
  go_ret2
  exact ⟨rfl, rfl⟩
set_option maxRecDepth 1000000 in
theorem str_int32 : Calls Tryz.prog 29 #[.agg #[.int .u8 3, .int .u8 2, .int .u8 0, .int .i64 pos, .slice ar n c, .string s]] w fun e w' => e = .returned (.tuple #[.int .i32 0, .bool false]) ∧ w' = w.alloc (.cells #[.int .u8 3, .int .u8 2, .int .u8 0, .int .i64 pos, .slice ar n c, .string s] 53) := by
  go_enter Tryz.func29, Tryz.ntmps29
  go_wp2
  go_ret2
  exact ⟨rfl, rfl⟩
set_option maxRecDepth 1000000 in
theorem str_uint64 : Calls Tryz.prog 30 #[.agg #[.int .u8 3, .int .u8 2, .int .u8 0, .int .i64 pos, .slice ar n c, .string s]] w fun e w' => e = .returned (.tuple #[.int .u64 0, .bool false]) ∧ w' = w.alloc (.cells #[.int .u8 3, .int .u8 2, .int .u8 0, .int .i64 pos, .slice ar n c, .string s] 53) := by
  go_enter Tryz.func30, Tryz.ntmps30
  go_wp2
  go_ret2
  exact ⟨rfl, rfl⟩
set_option maxRecDepth 1000000 in
theorem str_uint32 : Calls Tryz.prog 31 #[.agg #[.int .u8 3, .int .u8 2, .int .u8 0, .int .i64 pos, .slice ar n c, .string s]] w fun e w' => e = .returned (.tuple #[.int .u32 0, .bool false]) ∧ w' = w.alloc (.cells #[.int .u8 3, .int .u8 2, .int .u8 0, .int .i64 pos, .slice ar n c, .string s] 53) := by
  go_enter Tryz.func31, Tryz.ntmps31
  go_wp2
  go_ret2
  exact ⟨rfl, rfl⟩
set_option maxRecDepth 1000000 in
theorem str_float64 : Calls Tryz.prog 32 #[.agg #[.int .u8 3, .int .u8 2, .int .u8 0, .int .i64 pos, .slice ar n c, .string s]] w fun e w' => e = .returned (.tuple #[.float .f64 0, .bool false]) ∧ w' = w.alloc (.cells #[.int .u8 3, .int .u8 2, .int .u8 0, .int .i64 pos, .slice ar n c, .string s] 53) := by
  go_enter Tryz.func32, Tryz.ntmps32
  go_wp2
  go_ret2
  exact ⟨rfl, rfl⟩
set_option maxRecDepth 1000000 in
theorem str_float32 : Calls Tryz.prog 34 #[.agg #[.int .u8 3, .int .u8 2, .int .u8 0, .int .i64 pos, .slice ar n c, .string s]] w fun e w' => e = .returned (.tuple #[.float .f32 0, .bool false]) ∧ w' = w.alloc (.cells #[.int .u8 3, .int .u8 2, .int .u8 0, .int .i64 pos, .slice ar n c, .string s] 53) := by
  go_enter Tryz.func34, Tryz.ntmps34
  go_wp2
  go_ret2
  exact ⟨rfl, rfl⟩
set_option maxRecDepth 1000000 in
theorem str_enum : Calls Tryz.prog 35 #[.agg #[.int .u8 3, .int .u8 2, .int .u8 0, .int .i64 pos, .slice ar n c, .string s]] w fun e w' => e = .returned (.tuple #[.string ⟨#[]⟩, .bool false]) ∧ w' = w.alloc (.cells #[.int .u8 3, .int .u8 2, .int .u8 0, .int .i64 pos, .slice ar n c, .string s] 53) := by
  go_enter Tryz.func35, Tryz.ntmps35
  go_wp2
  go_ret2
  exact ⟨rfl, rfl⟩
set_option maxRecDepth 1000000 in
theorem str_string : Calls Tryz.prog 36 #[.agg #[.int .u8 3, .int .u8 2, .int .u8 0, .int .i64 pos, .slice ar n c, .string s]] w fun e w' => e = .returned (.tuple #[.string s, .bool true]) ∧ w' = w.alloc (.cells #[.int .u8 3, .int .u8 2, .int .u8 0, .int .i64 pos, .slice ar n c, .string s] 53) := by
  go_enter Tryz.func36, Tryz.ntmps36
  go_wp2
  go_ret2
  exact ⟨rfl, rfl⟩
end

theorem step2 {w1 w3 : World} {K A j : Nat} {cur : Array Value} {T : TypeId} {oA : Obj} {u v : Value} (hKA : A ≠ K) (rV : w1.heap[K]? = some (.cells cur T (0, 0))) (rA : w1.heap[A]? = some oA) (hk : Keeps (fun _ => False) ((w1.setCell ⟨K, j, none⟩ u).setCell ⟨K, j + 1, none⟩ v) w3) :
    w3.heap[K]? = some (.cells ((cur.setIfInBounds j u).setIfInBounds (j + 1) v) T (0, 0)) ∧ w3.heap[A]? = some oA ∧ Keeps (fun i => i = K) w1 w3 := by
  have h1 : Keeps (fun i => i = K) w1 (w1.setCell ⟨K, j, none⟩ u) := Keeps.setCell (S := fun i => i = K) (Keeps.refl _ w1) ⟨K, j, none⟩ (fun _ => rfl) u
  have h2 : Keeps (fun i => i = K) w1 ((w1.setCell ⟨K, j, none⟩ u).setCell ⟨K, j + 1, none⟩ v) := Keeps.setCell (S := fun i => i = K) h1 ⟨K, j + 1, none⟩ (fun _ => rfl) v
  have h3 := h2.trans hk (fun _ _ => False.elim)
  exact ⟨hk.row (setCell_row (setCell_row rV u) v) id, h3.row rA hKA, h3⟩
/-- What is stored over a whole row. -/
theorem setCells_from {T : TypeId} {fr : Nat × Nat} (K : Nat) : ∀ (vs : List Value) (j : Nat) (w : World) (cur : Array Value), w.heap[K]? = some (.cells cur T fr) → j + vs.length = cur.size →
    (w.setCells K j vs).heap[K]? = some (.cells (cur.toList.take j ++ vs).toArray T fr)
  | [], j, w, cur, h, hs => by
    simp only [World.setCells, List.append_nil]
    rw [h]
    congr 2
    rw [List.take_of_length_le (by simp at hs ⊢; omega)]
  | v :: r, j, w, cur, h, hs => by
    have hj : j < cur.size := by simp only [List.length_cons] at hs; omega
    have h1 := setCells_from K r (j + 1) (w.setCell ⟨K, j, none⟩ v) _ (setCell_row h v) (by simp at hs ⊢; omega)
    simp only [World.setCells]
    rw [h1]
    congr 2
    rw [Array.toList_setIfInBounds, List.take_add_one, List.take_set_of_le (Nat.le_refl _)]
    simp [List.getElem?_set, hj]

theorem strK_bool (pos : Int) (ar : Option Addr) (n c : Nat) (s : ByteArray) (w : World) : Calls Tryz.prog 27 #[.agg #[.int .u8 3, .int .u8 2, .int .u8 0, .int .i64 pos, .slice ar n c, .string s]] w fun e w' => e = .returned (.tuple #[.bool false, .bool false]) ∧ Keeps (fun _ => False) w w' :=
  (str_bool pos ar n c s w).mono fun _ _ h => ⟨h.1, by rw [h.2]; exact (Keeps.refl _ w).alloc _⟩
theorem strK_int64 (pos : Int) (ar : Option Addr) (n c : Nat) (s : ByteArray) (w : World) : Calls Tryz.prog 28 #[.agg #[.int .u8 3, .int .u8 2, .int .u8 0, .int .i64 pos, .slice ar n c, .string s]] w fun e w' => e = .returned (.tuple #[.int .i64 0, .bool false]) ∧ Keeps (fun _ => False) w w' :=
  (str_int64 pos ar n c s w).mono fun _ _ h => ⟨h.1, by rw [h.2]; exact (Keeps.refl _ w).alloc _⟩
theorem strK_int32 (pos : Int) (ar : Option Addr) (n c : Nat) (s : ByteArray) (w : World) : Calls Tryz.prog 29 #[.agg #[.int .u8 3, .int .u8 2, .int .u8 0, .int .i64 pos, .slice ar n c, .string s]] w fun e w' => e = .returned (.tuple #[.int .i32 0, .bool false]) ∧ Keeps (fun _ => False) w w' :=
  (str_int32 pos ar n c s w).mono fun _ _ h => ⟨h.1, by rw [h.2]; exact (Keeps.refl _ w).alloc _⟩
theorem strK_uint64 (pos : Int) (ar : Option Addr) (n c : Nat) (s : ByteArray) (w : World) : Calls Tryz.prog 30 #[.agg #[.int .u8 3, .int .u8 2, .int .u8 0, .int .i64 pos, .slice ar n c, .string s]] w fun e w' => e = .returned (.tuple #[.int .u64 0, .bool false]) ∧ Keeps (fun _ => False) w w' :=
  (str_uint64 pos ar n c s w).mono fun _ _ h => ⟨h.1, by rw [h.2]; exact (Keeps.refl _ w).alloc _⟩
theorem strK_uint32 (pos : Int) (ar : Option Addr) (n c : Nat) (s : ByteArray) (w : World) : Calls Tryz.prog 31 #[.agg #[.int .u8 3, .int .u8 2, .int .u8 0, .int .i64 pos, .slice ar n c, .string s]] w fun e w' => e = .returned (.tuple #[.int .u32 0, .bool false]) ∧ Keeps (fun _ => False) w w' :=
  (str_uint32 pos ar n c s w).mono fun _ _ h => ⟨h.1, by rw [h.2]; exact (Keeps.refl _ w).alloc _⟩
theorem strK_float64 (pos : Int) (ar : Option Addr) (n c : Nat) (s : ByteArray) (w : World) : Calls Tryz.prog 32 #[.agg #[.int .u8 3, .int .u8 2, .int .u8 0, .int .i64 pos, .slice ar n c, .string s]] w fun e w' => e = .returned (.tuple #[.float .f64 0, .bool false]) ∧ Keeps (fun _ => False) w w' :=
  (str_float64 pos ar n c s w).mono fun _ _ h => ⟨h.1, by rw [h.2]; exact (Keeps.refl _ w).alloc _⟩
theorem strK_float32 (pos : Int) (ar : Option Addr) (n c : Nat) (s : ByteArray) (w : World) : Calls Tryz.prog 34 #[.agg #[.int .u8 3, .int .u8 2, .int .u8 0, .int .i64 pos, .slice ar n c, .string s]] w fun e w' => e = .returned (.tuple #[.float .f32 0, .bool false]) ∧ Keeps (fun _ => False) w w' :=
  (str_float32 pos ar n c s w).mono fun _ _ h => ⟨h.1, by rw [h.2]; exact (Keeps.refl _ w).alloc _⟩
theorem strK_enum (pos : Int) (ar : Option Addr) (n c : Nat) (s : ByteArray) (w : World) : Calls Tryz.prog 35 #[.agg #[.int .u8 3, .int .u8 2, .int .u8 0, .int .i64 pos, .slice ar n c, .string s]] w fun e w' => e = .returned (.tuple #[.string ⟨#[]⟩, .bool false]) ∧ Keeps (fun _ => False) w w' :=
  (str_enum pos ar n c s w).mono fun _ _ h => ⟨h.1, by rw [h.2]; exact (Keeps.refl _ w).alloc _⟩
theorem strK_string (pos : Int) (ar : Option Addr) (n c : Nat) (s : ByteArray) (w : World) : Calls Tryz.prog 36 #[.agg #[.int .u8 3, .int .u8 2, .int .u8 0, .int .i64 pos, .slice ar n c, .string s]] w fun e w' => e = .returned (.tuple #[.string s, .bool true]) ∧ Keeps (fun _ => False) w w' :=
  (str_string pos ar n c s w).mono fun _ _ h => ⟨h.1, by rw [h.2]; exact (Keeps.refl _ w).alloc _⟩
theorem heap_alloc3_firstrow (w : World) (A B C : Obj) : (((w.alloc A).alloc B).alloc C).heap[w.heap.size]? = some A := by
  rw [heap_alloc_old _ _ (by simp; omega)]
  exact heap_alloc2_old w A B

theorem f64bits0 (w' : World) : (callFunc 33 #[.float .f64 0]).run Tryz.prog w' = .ok (.value (.int .u64 0)) w' := by
  rw [run_callFunc_extern Tryz.func33 (by kernel_rfl) (by kernel_rfl) (by kernel_rfl) (e := Extern.MathFloatBits.float64bits) (by kernel_rfl)]
  rfl
theorem conv32 (w' : World) : (convert 84 80 (.float .f32 0)).run Tryz.prog w' = .ok (.float .f64 0) w' := by kernel_rfl

set_option maxRecDepth 1000000 in
set_option maxHeartbeats 20000000 in
theorem values_str (pos : Int) (ar : Option Addr) (n c : Nat) (s : ByteArray) (w : World) : Calls Tryz.prog 18 #[.agg #[.int .u8 3, .int .u8 2, .int .u8 0, .int .i64 pos, .slice ar n c, .string s]] w fun e w' =>
    e = .returned (.agg #[.bool false, .bool false, .int .i64 0, .bool false, .int .i32 0, .bool false, .int .u64 0, .bool false, .int .u32 0, .bool false, .int .u64 0, .bool false, .int .u64 0, .bool false, .string ⟨#[]⟩, .bool false, .string s, .bool true]) ∧ Keeps (fun _ => False) w w' := by
  have hfb := f64bits0
  have hcf := conv32
  go_enter Tryz.func18, Tryz.ntmps18
  go_upto_region 13 with (first
    | (go_at_call 27; refine (strK_bool _ _ _ _ _ _).mono ?_; rintro e w10 ⟨rfl, hk0⟩; have rV0 := hk0.row (heap_alloc3_lastrow w _ _ _) id; have rA0 := hk0.row (heap_alloc3_firstrow w _ _ _) id; have rR0 := hk0.row (heap_alloc3_mid w _ _ _) id; have hfV := fun j => frozen_row (j := j) rV0; have v0 := cell_row (j := 0) rV0; have v1 := cell_row (j := 1) rV0; simp at v0 v1; have a0 := cell_row (j := 0) rA0; have a1 := cell_row (j := 1) rA0; have a2 := cell_row (j := 2) rA0; have a3 := cell_row (j := 3) rA0; have a4 := cell_row (j := 4) rA0; have a5 := cell_row (j := 5) rA0; simp at a0 a1 a2 a3 a4 a5)
    | (go_at_call 28; refine (strK_int64 _ _ _ _ _ _).mono ?_; rintro e w11 ⟨rfl, hk1⟩; obtain ⟨rV1, rA1, kk1⟩ := step2 (j := 0) (by omega) rV0 rA0 hk1; have rR1 := kk1.row rR0 (by omega); simp at rV1; have hfV := fun j => frozen_row (j := j) rV1; have v2 := cell_row (j := 2) rV1; have v3 := cell_row (j := 3) rV1; simp at v2 v3; have a0 := cell_row (j := 0) rA1; have a1 := cell_row (j := 1) rA1; have a2 := cell_row (j := 2) rA1; have a3 := cell_row (j := 3) rA1; have a4 := cell_row (j := 4) rA1; have a5 := cell_row (j := 5) rA1; simp at a0 a1 a2 a3 a4 a5)
    | (go_at_call 29; refine (strK_int32 _ _ _ _ _ _).mono ?_; rintro e w12 ⟨rfl, hk2⟩; obtain ⟨rV2, rA2, kk2⟩ := step2 (j := 2) (by omega) rV1 rA1 hk2; have rR2 := kk2.row rR1 (by omega); simp at rV2; have hfV := fun j => frozen_row (j := j) rV2; have v4 := cell_row (j := 4) rV2; have v5 := cell_row (j := 5) rV2; simp at v4 v5; have a0 := cell_row (j := 0) rA2; have a1 := cell_row (j := 1) rA2; have a2 := cell_row (j := 2) rA2; have a3 := cell_row (j := 3) rA2; have a4 := cell_row (j := 4) rA2; have a5 := cell_row (j := 5) rA2; simp at a0 a1 a2 a3 a4 a5)
    | (go_at_call 30; refine (strK_uint64 _ _ _ _ _ _).mono ?_; rintro e w13 ⟨rfl, hk3⟩; obtain ⟨rV3, rA3, kk3⟩ := step2 (j := 4) (by omega) rV2 rA2 hk3; have rR3 := kk3.row rR2 (by omega); simp at rV3; have hfV := fun j => frozen_row (j := j) rV3; have v6 := cell_row (j := 6) rV3; have v7 := cell_row (j := 7) rV3; simp at v6 v7; have a0 := cell_row (j := 0) rA3; have a1 := cell_row (j := 1) rA3; have a2 := cell_row (j := 2) rA3; have a3 := cell_row (j := 3) rA3; have a4 := cell_row (j := 4) rA3; have a5 := cell_row (j := 5) rA3; simp at a0 a1 a2 a3 a4 a5)
    | (go_at_call 31; refine (strK_uint32 _ _ _ _ _ _).mono ?_; rintro e w14 ⟨rfl, hk4⟩; obtain ⟨rV4, rA4, kk4⟩ := step2 (j := 6) (by omega) rV3 rA3 hk4; have rR4 := kk4.row rR3 (by omega); simp at rV4; have hfV := fun j => frozen_row (j := j) rV4; have v8 := cell_row (j := 8) rV4; have v9 := cell_row (j := 9) rV4; simp at v8 v9; have a0 := cell_row (j := 0) rA4; have a1 := cell_row (j := 1) rA4; have a2 := cell_row (j := 2) rA4; have a3 := cell_row (j := 3) rA4; have a4 := cell_row (j := 4) rA4; have a5 := cell_row (j := 5) rA4; simp at a0 a1 a2 a3 a4 a5)
    | (go_at_call 32; refine (strK_float64 _ _ _ _ _ _).mono ?_; rintro e w15 ⟨rfl, hk5⟩; obtain ⟨rV5, rA5, kk5⟩ := step2 (j := 8) (by omega) rV4 rA4 hk5; have rR5 := kk5.row rR4 (by omega); simp at rV5; have hfV := fun j => frozen_row (j := j) rV5; have v10 := cell_row (j := 10) rV5; have v11 := cell_row (j := 11) rV5; simp at v10 v11; have a0 := cell_row (j := 0) rA5; have a1 := cell_row (j := 1) rA5; have a2 := cell_row (j := 2) rA5; have a3 := cell_row (j := 3) rA5; have a4 := cell_row (j := 4) rA5; have a5 := cell_row (j := 5) rA5; simp at a0 a1 a2 a3 a4 a5)
    | (go_at_call 34; refine (strK_float32 _ _ _ _ _ _).mono ?_; rintro e w16 ⟨rfl, hk6⟩; obtain ⟨rV6, rA6, kk6⟩ := step2 (j := 10) (by omega) rV5 rA5 hk6; have rR6 := kk6.row rR5 (by omega); simp at rV6; have hfV := fun j => frozen_row (j := j) rV6; have v12 := cell_row (j := 12) rV6; have v13 := cell_row (j := 13) rV6; simp at v12 v13; have a0 := cell_row (j := 0) rA6; have a1 := cell_row (j := 1) rA6; have a2 := cell_row (j := 2) rA6; have a3 := cell_row (j := 3) rA6; have a4 := cell_row (j := 4) rA6; have a5 := cell_row (j := 5) rA6; simp at a0 a1 a2 a3 a4 a5)
    | (go_at_call 35; refine (strK_enum _ _ _ _ _ _).mono ?_; rintro e w17 ⟨rfl, hk7⟩; obtain ⟨rV7, rA7, kk7⟩ := step2 (j := 12) (by omega) rV6 rA6 hk7; have rR7 := kk7.row rR6 (by omega); simp at rV7; have hfV := fun j => frozen_row (j := j) rV7; have v14 := cell_row (j := 14) rV7; have v15 := cell_row (j := 15) rV7; simp at v14 v15; have a0 := cell_row (j := 0) rA7; have a1 := cell_row (j := 1) rA7; have a2 := cell_row (j := 2) rA7; have a3 := cell_row (j := 3) rA7; have a4 := cell_row (j := 4) rA7; have a5 := cell_row (j := 5) rA7; simp at a0 a1 a2 a3 a4 a5)
    | (go_at_call 36; refine (strK_string _ _ _ _ _ _).mono ?_; rintro e w18 ⟨rfl, hk8⟩; obtain ⟨rV8, rA8, kk8⟩ := step2 (j := 14) (by omega) rV7 rA7 hk8; have rR8 := kk8.row rR7 (by omega); simp at rV8; have hfV := fun j => frozen_row (j := j) rV8; have v16 := cell_row (j := 16) rV8; have v17 := cell_row (j := 17) rV8; simp at v16 v17; have a0 := cell_row (j := 0) rA8; have a1 := cell_row (j := 1) rA8; have a2 := cell_row (j := 2) rA8; have a3 := cell_row (j := 3) rA8; have a4 := cell_row (j := 4) rA8; have a5 := cell_row (j := 5) rA8; simp at a0 a1 a2 a3 a4 a5))
  have zV := setCell_row (j := 17) (setCell_row (j := 16) rV8 (.string s)) (.bool true)
  have zk : Keeps (fun i => i = w.heap.size + 1 + 1) w18 ((w18.setCell ⟨w.heap.size + 1 + 1, 16, none⟩ (.string s)).setCell ⟨w.heap.size + 1 + 1, 17, none⟩ (.bool true)) :=
    Keeps.setCell (S := fun i => i = w.heap.size + 1 + 1) (Keeps.setCell (S := fun i => i = w.heap.size + 1 + 1) (Keeps.refl _ w18) ⟨w.heap.size + 1 + 1, 16, none⟩ (fun _ => rfl) _) ⟨w.heap.size + 1 + 1, 17, none⟩ (fun _ => rfl) _
  have zR := zk.row rR8 (by omega)
  simp at zV
  obtain ⟨Wz, hWz⟩ : ∃ W, (w18.setCell ⟨w.heap.size + 1 + 1, 16, none⟩ (.string s)).setCell ⟨w.heap.size + 1 + 1, 17, none⟩ (.bool true) = W := ⟨_, rfl⟩
  rw [hWz] at zV zk zR ⊢
  clear hWz
  refine wp_region_list ?_
  refine wpList_load_mid rfl 35 (.tmp 3) rfl (w.heap.size + 1 + 1) 0 rfl [.bool false, .bool false, .int .i64 0, .bool false, .int .i32 0, .bool false, .int .u64 0, .bool false, .int .u32 0, .bool false, .int .u64 0, .bool false, .int .u64 0, .bool false, .string ⟨#[]⟩, .bool false, .string s, .bool true] _ (fun j v hv => (cell_row zV).trans (by simpa using hv)) Tryz.underlying35 rfl (by kernel_rfl) ?_
  refine wpList_store_mid rfl 35 (.tmp 2) (.tmp 77) rfl (w.heap.size + 1) 0 #[.bool false, .bool false, .int .i64 0, .bool false, .int .i32 0, .bool false, .int .u64 0, .bool false, .int .u32 0, .bool false, .int .u64 0, .bool false, .int .u64 0, .bool false, .string ⟨#[]⟩, .bool false, .string s, .bool true] rfl rfl (fun j hj => ⟨by rw [cell_row zR]; simp at hj ⊢; omega, frozen_row zR⟩) (by kernel_rfl) (by simp [Value.oneCell']) ?_
  refine wpList_nil ?_
  obtain ⟨Wf, hWf⟩ : ∃ W, Wz.setCells (w.heap.size + 1) 0 (#[.bool false, .bool false, .int .i64 0, .bool false, .int .i32 0, .bool false, .int .u64 0, .bool false, .int .u32 0, .bool false, .int .u64 0, .bool false, .int .u64 0, .bool false, .string ⟨#[]⟩, .bool false, .string s, .bool true] : Array Value).toList = W := ⟨_, rfl⟩
  have zf : Keeps (fun i => i = w.heap.size + 1) Wz Wf := by rw [← hWf]; exact setCells_keeps _ _ _ _
  have zF : Wf.heap[w.heap.size + 1]? = some (.cells #[.bool false, .bool false, .int .i64 0, .bool false, .int .i32 0, .bool false, .int .u64 0, .bool false, .int .u32 0, .bool false, .int .u64 0, .bool false, .int .u64 0, .bool false, .string ⟨#[]⟩, .bool false, .string s, .bool true] 35 (0, 0)) := by rw [← hWf]; exact (setCells_from (w.heap.size + 1) _ 0 Wz _ zR rfl).trans (by simp)
  rw [hWf]
  clear hWf
  have c1 := ((((Keeps.refl (fun i => w.heap.size ≤ i) w).alloc _).alloc _).alloc _).trans hk0 (fun _ _ => False.elim)
  have c1 := c1.trans kk1 (fun i hi h => by omega)
  have c1 := c1.trans kk2 (fun i hi h => by omega)
  have c1 := c1.trans kk3 (fun i hi h => by omega)
  have c1 := c1.trans kk4 (fun i hi h => by omega)
  have c1 := c1.trans kk5 (fun i hi h => by omega)
  have c1 := c1.trans kk6 (fun i hi h => by omega)
  have c1 := c1.trans kk7 (fun i hi h => by omega)
  have c1 := c1.trans kk8 (fun i hi h => by omega)
  have c2 : Keeps (fun _ => False) w Wf := ((c1.trans zk (fun i hi h => by omega)).trans zf (fun i hi h => by omega)).mono (fun i hi h => by omega)
  clear zV zk zR zf c1
  go_simp
  go_wp2
  refine bodyPost_ret (results_cell_row rfl _ _ (w.heap.size + 1) _ _ (0, 0) _ rfl zF Tryz.underlying35 rfl (by kernel_rfl)) rfl ?_
  exact ⟨rfl, c2⟩
end Go.Proofs.YtdckklmhnhbpiaaGreatDoor
