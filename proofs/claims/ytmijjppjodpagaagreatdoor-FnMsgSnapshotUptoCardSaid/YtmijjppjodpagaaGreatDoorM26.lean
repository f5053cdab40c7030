/-
  textOp: what is written of a value, as operations.
-/
import Derived.Test.YtmijjppjodpagaaGreatDoorM25
import Derived.Deep.RegionHeld3
set_option linter.unusedVariables false
set_option linter.unusedSimpArgs false
namespace Go.Proofs.YtmijjppjodpagaaGreatDoor
open Go.RowKit
def nameOp (f : FT) : OpV := ⟨1, f.name, false, 0, 0, 0, 0⟩
def oBool (b : Bool) : OpV := ⟨2, ⟨#[]⟩, b, 0, 0, 0, 0⟩
def oText (s : ByteArray) : OpV := ⟨3, s, false, 0, 0, 0, 0⟩
def oFlo (g : Nat) (z : Int) : OpV := ⟨4, ⟨#[]⟩, false, 0, 0, g, z⟩
def oInt (i : Int) : OpV := ⟨5, ⟨#[]⟩, false, i, 0, 0, 0⟩
def oUint (u : Nat) : OpV := ⟨6, ⟨#[]⟩, false, 0, u, 0, 0⟩
def oLit (s : ByteArray) : OpV := ⟨7, s, false, 0, 0, 0, 0⟩
def oOpen : OpV := ⟨8, ⟨#[]⟩, false, 0, 0, 0, 0⟩
def oClose : OpV := ⟨9, ⟨#[]⟩, false, 0, 0, 0, 0⟩
/-- The enum's name of a number. -/
def enumOf (S : Sch) (t i : Int) : ByteArray := match S.enums[t.toNat]? with
  | some e => enumN e.numbers e.names i
  | none => ⟨#[]⟩
def valOps (inner : Int → List (Int × List PV) → List OpV) (S : Sch) (kind type : Int) (b : Bool) (i : Int) (u g : Nat) (s : ByteArray) (msg : List (Int × List PV)) : List OpV :=
  if kind = 8 then [oBool b] else if kind = 9 then [oText s] else if kind = 12 then [oText s] else if kind = 2 then [oFlo g 32] else if kind = 1 then [oFlo g 64]
  else if kind = 13 then [oUint u] else if kind = 4 then [oUint u] else if kind = 7 then [oUint u] else if kind = 6 then [oUint u]
  else if kind = 14 then (if (enumOf S type i).toList = [] then [oInt i] else [oLit (enumOf S type i)])
  else if kind = 11 then oOpen :: (inner type msg ++ [oClose]) else [oInt i]
/-- A call returns a slice of these operations; the world grows. -/
def OpsRes (w : World) (ops : List OpV) (e : Ending) (w' : World) : Prop := ∃ V, e = .returned V ∧ OpsAt w' V ops ∧ Keeps (fun _ => False) w w'
theorem opsAt_one (w : World) (o : OpV) : OpsAt (w.alloc (.cells (opc o).toArray 53)) (.slice (some ⟨w.heap.size, 0, none⟩) 1 1) [o] := by
  refine ⟨_, 1, rfl, Nat.le_refl _, by unfold maxLen; omega, .inr ⟨_, 0, rfl, fun j hj i u hi hu => ?_⟩⟩
  have hj0 : j = 0 := by simpa using hj
  subst hj0
  rw [show 0 + 0 * 7 + i = i by omega, cell_row (heap_alloc_new w _)]
  simpa using hu
set_option maxRecDepth 1000000 in
set_option maxHeartbeats 20000000 in
theorem textOp_8 (x y : Value) (S : Sch) (name : ByteArray) (number kind type : Int) (rep map : Bool) (b : Bool) (i : Int) (u g : Nat) (s : ByteArray) (am : Option Addr) (n cm : Nat) (msg : List (Int × List PV)) (inner : Int → List (Int × List PV) → List OpV) (w : World) (hk : kind = 8) : Calls Tryz.prog 16 #[.agg #[x, y], .agg #[.string name, .int .i64 number, .int .i64 kind, .bool rep, .bool map, .int .i64 type], .agg #[.bool b, .int .i64 i, .int .u64 (u : Int), .int .u64 (g : Int), .string s, .slice am n cm]] w (OpsRes w (valOps inner S kind type b i u g s msg)) := by
  subst hk
  have hv : valOps inner S 8 type b i u g s msg = [oBool b] := by simp [valOps]
  rw [hv]
  clear hv
  obtain ⟨W0, hW0⟩ : ∃ W, ((w.alloc (.cells #[x, y] 25)).alloc (.cells #[.string name, .int .i64 number, .int .i64 8, .bool rep, .bool map, .int .i64 type] 45)).alloc (.cells #[.bool b, .int .i64 i, .int .u64 (u : Int), .int .u64 (g : Int), .string s, .slice am n cm] 51) = W := ⟨_, rfl⟩
  have hk0 : Keeps (fun _ => False) w W0 := by rw [← hW0]; exact (((Keeps.refl _ w).alloc _).alloc _).alloc _
  have r0 : W0.heap[w.heap.size]? = some (.cells #[x, y] 25 (0, 0)) := by rw [← hW0]; exact ((Keeps.refl (fun _ => False) _).alloc _).row (heap_alloc2_old w _ _) id
  have r1 : W0.heap[w.heap.size + 1]? = some (.cells #[.string name, .int .i64 number, .int .i64 8, .bool rep, .bool map, .int .i64 type] 45 (0, 0)) := by rw [← hW0]; exact ((Keeps.refl (fun _ => False) _).alloc _).row (heap_alloc2_new w _ _) id
  have r2 : W0.heap[w.heap.size + 2]? = some (.cells #[.bool b, .int .i64 i, .int .u64 (u : Int), .int .u64 (g : Int), .string s, .slice am n cm] 51 (0, 0)) := by rw [← hW0]; have h := heap_alloc_new ((w.alloc (.cells #[x, y] 25)).alloc (.cells #[.string name, .int .i64 number, .int .i64 8, .bool rep, .bool map, .int .i64 type] 45)) (.cells #[.bool b, .int .i64 i, .int .u64 (u : Int), .int .u64 (g : Int), .string s, .slice am n cm] 51); simpa using h
  have a0 := cell_row (j := 0) r0
  have a1 := cell_row (j := 1) r0
  have b2 := cell_row (j := 2) r1
  have b5 := cell_row (j := 5) r1
  have c0 := cell_row (j := 0) r2
  have c1 := cell_row (j := 1) r2
  have c2 := cell_row (j := 2) r2
  have c3 := cell_row (j := 3) r2
  have c4 := cell_row (j := 4) r2
  have c5 := cell_row (j := 5) r2
  simp at a0 a1 b2 b5 c0 c1 c2 c3 c4 c5
  have HK0 := Lib.hid hk0
  have HW0 := Lib.hid hW0
  have HR0 := Lib.hid r0
  have HR1 := Lib.hid r1
  have HR2 := Lib.hid r2
  clear hk0 hW0 r0 r1 r2
  go_enter Tryz.func16, Tryz.ntmps16
  go_upto_region 1 with (fail)
  rw [HW0.out]
  clear HW0
  go_wp2_with (fail)
  go_ret
  exact ⟨_, rfl, opsAt_one W0 (oBool b), HK0.out.alloc _⟩
set_option maxRecDepth 1000000 in
set_option maxHeartbeats 20000000 in
theorem textOp_9 (x y : Value) (S : Sch) (name : ByteArray) (number kind type : Int) (rep map : Bool) (b : Bool) (i : Int) (u g : Nat) (s : ByteArray) (am : Option Addr) (n cm : Nat) (msg : List (Int × List PV)) (inner : Int → List (Int × List PV) → List OpV) (w : World) (hk : kind = 9) : Calls Tryz.prog 16 #[.agg #[x, y], .agg #[.string name, .int .i64 number, .int .i64 kind, .bool rep, .bool map, .int .i64 type], .agg #[.bool b, .int .i64 i, .int .u64 (u : Int), .int .u64 (g : Int), .string s, .slice am n cm]] w (OpsRes w (valOps inner S kind type b i u g s msg)) := by
  subst hk
  have hv : valOps inner S 9 type b i u g s msg = [oText s] := by simp [valOps]
  rw [hv]
  clear hv
  obtain ⟨W0, hW0⟩ : ∃ W, ((w.alloc (.cells #[x, y] 25)).alloc (.cells #[.string name, .int .i64 number, .int .i64 9, .bool rep, .bool map, .int .i64 type] 45)).alloc (.cells #[.bool b, .int .i64 i, .int .u64 (u : Int), .int .u64 (g : Int), .string s, .slice am n cm] 51) = W := ⟨_, rfl⟩
  have hk0 : Keeps (fun _ => False) w W0 := by rw [← hW0]; exact (((Keeps.refl _ w).alloc _).alloc _).alloc _
  have r0 : W0.heap[w.heap.size]? = some (.cells #[x, y] 25 (0, 0)) := by rw [← hW0]; exact ((Keeps.refl (fun _ => False) _).alloc _).row (heap_alloc2_old w _ _) id
  have r1 : W0.heap[w.heap.size + 1]? = some (.cells #[.string name, .int .i64 number, .int .i64 9, .bool rep, .bool map, .int .i64 type] 45 (0, 0)) := by rw [← hW0]; exact ((Keeps.refl (fun _ => False) _).alloc _).row (heap_alloc2_new w _ _) id
  have r2 : W0.heap[w.heap.size + 2]? = some (.cells #[.bool b, .int .i64 i, .int .u64 (u : Int), .int .u64 (g : Int), .string s, .slice am n cm] 51 (0, 0)) := by rw [← hW0]; have h := heap_alloc_new ((w.alloc (.cells #[x, y] 25)).alloc (.cells #[.string name, .int .i64 number, .int .i64 9, .bool rep, .bool map, .int .i64 type] 45)) (.cells #[.bool b, .int .i64 i, .int .u64 (u : Int), .int .u64 (g : Int), .string s, .slice am n cm] 51); simpa using h
  have a0 := cell_row (j := 0) r0
  have a1 := cell_row (j := 1) r0
  have b2 := cell_row (j := 2) r1
  have b5 := cell_row (j := 5) r1
  have c0 := cell_row (j := 0) r2
  have c1 := cell_row (j := 1) r2
  have c2 := cell_row (j := 2) r2
  have c3 := cell_row (j := 3) r2
  have c4 := cell_row (j := 4) r2
  have c5 := cell_row (j := 5) r2
  simp at a0 a1 b2 b5 c0 c1 c2 c3 c4 c5
  have HK0 := Lib.hid hk0
  have HW0 := Lib.hid hW0
  have HR0 := Lib.hid r0
  have HR1 := Lib.hid r1
  have HR2 := Lib.hid r2
  clear hk0 hW0 r0 r1 r2
  go_enter Tryz.func16, Tryz.ntmps16
  go_upto_region 1 with (fail)
  rw [HW0.out]
  clear HW0
  go_wp2_with (fail)
  go_ret
  exact ⟨_, rfl, opsAt_one W0 (oText s), HK0.out.alloc _⟩
set_option maxRecDepth 1000000 in
set_option maxHeartbeats 20000000 in
theorem textOp_12 (x y : Value) (S : Sch) (name : ByteArray) (number kind type : Int) (rep map : Bool) (b : Bool) (i : Int) (u g : Nat) (s : ByteArray) (am : Option Addr) (n cm : Nat) (msg : List (Int × List PV)) (inner : Int → List (Int × List PV) → List OpV) (w : World) (hk : kind = 12) : Calls Tryz.prog 16 #[.agg #[x, y], .agg #[.string name, .int .i64 number, .int .i64 kind, .bool rep, .bool map, .int .i64 type], .agg #[.bool b, .int .i64 i, .int .u64 (u : Int), .int .u64 (g : Int), .string s, .slice am n cm]] w (OpsRes w (valOps inner S kind type b i u g s msg)) := by
  subst hk
  have hv : valOps inner S 12 type b i u g s msg = [oText s] := by simp [valOps]
  rw [hv]
  clear hv
  obtain ⟨W0, hW0⟩ : ∃ W, ((w.alloc (.cells #[x, y] 25)).alloc (.cells #[.string name, .int .i64 number, .int .i64 12, .bool rep, .bool map, .int .i64 type] 45)).alloc (.cells #[.bool b, .int .i64 i, .int .u64 (u : Int), .int .u64 (g : Int), .string s, .slice am n cm] 51) = W := ⟨_, rfl⟩
  have hk0 : Keeps (fun _ => False) w W0 := by rw [← hW0]; exact (((Keeps.refl _ w).alloc _).alloc _).alloc _
  have r0 : W0.heap[w.heap.size]? = some (.cells #[x, y] 25 (0, 0)) := by rw [← hW0]; exact ((Keeps.refl (fun _ => False) _).alloc _).row (heap_alloc2_old w _ _) id
  have r1 : W0.heap[w.heap.size + 1]? = some (.cells #[.string name, .int .i64 number, .int .i64 12, .bool rep, .bool map, .int .i64 type] 45 (0, 0)) := by rw [← hW0]; exact ((Keeps.refl (fun _ => False) _).alloc _).row (heap_alloc2_new w _ _) id
  have r2 : W0.heap[w.heap.size + 2]? = some (.cells #[.bool b, .int .i64 i, .int .u64 (u : Int), .int .u64 (g : Int), .string s, .slice am n cm] 51 (0, 0)) := by rw [← hW0]; have h := heap_alloc_new ((w.alloc (.cells #[x, y] 25)).alloc (.cells #[.string name, .int .i64 number, .int .i64 12, .bool rep, .bool map, .int .i64 type] 45)) (.cells #[.bool b, .int .i64 i, .int .u64 (u : Int), .int .u64 (g : Int), .string s, .slice am n cm] 51); simpa using h
  have a0 := cell_row (j := 0) r0
  have a1 := cell_row (j := 1) r0
  have b2 := cell_row (j := 2) r1
  have b5 := cell_row (j := 5) r1
  have c0 := cell_row (j := 0) r2
  have c1 := cell_row (j := 1) r2
  have c2 := cell_row (j := 2) r2
  have c3 := cell_row (j := 3) r2
  have c4 := cell_row (j := 4) r2
  have c5 := cell_row (j := 5) r2
  simp at a0 a1 b2 b5 c0 c1 c2 c3 c4 c5
  have HK0 := Lib.hid hk0
  have HW0 := Lib.hid hW0
  have HR0 := Lib.hid r0
  have HR1 := Lib.hid r1
  have HR2 := Lib.hid r2
  clear hk0 hW0 r0 r1 r2
  go_enter Tryz.func16, Tryz.ntmps16
  go_upto_region 1 with (fail)
  rw [HW0.out]
  clear HW0
  go_wp2_with (fail)
  go_ret
  exact ⟨_, rfl, opsAt_one W0 (oText s), HK0.out.alloc _⟩
set_option maxRecDepth 1000000 in
set_option maxHeartbeats 20000000 in
theorem textOp_2 (x y : Value) (S : Sch) (name : ByteArray) (number kind type : Int) (rep map : Bool) (b : Bool) (i : Int) (u g : Nat) (s : ByteArray) (am : Option Addr) (n cm : Nat) (msg : List (Int × List PV)) (inner : Int → List (Int × List PV) → List OpV) (w : World) (hk : kind = 2) : Calls Tryz.prog 16 #[.agg #[x, y], .agg #[.string name, .int .i64 number, .int .i64 kind, .bool rep, .bool map, .int .i64 type], .agg #[.bool b, .int .i64 i, .int .u64 (u : Int), .int .u64 (g : Int), .string s, .slice am n cm]] w (OpsRes w (valOps inner S kind type b i u g s msg)) := by
  subst hk
  have hv : valOps inner S 2 type b i u g s msg = [oFlo g 32] := by simp [valOps]
  rw [hv]
  clear hv
  obtain ⟨W0, hW0⟩ : ∃ W, ((w.alloc (.cells #[x, y] 25)).alloc (.cells #[.string name, .int .i64 number, .int .i64 2, .bool rep, .bool map, .int .i64 type] 45)).alloc (.cells #[.bool b, .int .i64 i, .int .u64 (u : Int), .int .u64 (g : Int), .string s, .slice am n cm] 51) = W := ⟨_, rfl⟩
  have hk0 : Keeps (fun _ => False) w W0 := by rw [← hW0]; exact (((Keeps.refl _ w).alloc _).alloc _).alloc _
  have r0 : W0.heap[w.heap.size]? = some (.cells #[x, y] 25 (0, 0)) := by rw [← hW0]; exact ((Keeps.refl (fun _ => False) _).alloc _).row (heap_alloc2_old w _ _) id
  have r1 : W0.heap[w.heap.size + 1]? = some (.cells #[.string name, .int .i64 number, .int .i64 2, .bool rep, .bool map, .int .i64 type] 45 (0, 0)) := by rw [← hW0]; exact ((Keeps.refl (fun _ => False) _).alloc _).row (heap_alloc2_new w _ _) id
  have r2 : W0.heap[w.heap.size + 2]? = some (.cells #[.bool b, .int .i64 i, .int .u64 (u : Int), .int .u64 (g : Int), .string s, .slice am n cm] 51 (0, 0)) := by rw [← hW0]; have h := heap_alloc_new ((w.alloc (.cells #[x, y] 25)).alloc (.cells #[.string name, .int .i64 number, .int .i64 2, .bool rep, .bool map, .int .i64 type] 45)) (.cells #[.bool b, .int .i64 i, .int .u64 (u : Int), .int .u64 (g : Int), .string s, .slice am n cm] 51); simpa using h
  have a0 := cell_row (j := 0) r0
  have a1 := cell_row (j := 1) r0
  have b2 := cell_row (j := 2) r1
  have b5 := cell_row (j := 5) r1
  have c0 := cell_row (j := 0) r2
  have c1 := cell_row (j := 1) r2
  have c2 := cell_row (j := 2) r2
  have c3 := cell_row (j := 3) r2
  have c4 := cell_row (j := 4) r2
  have c5 := cell_row (j := 5) r2
  simp at a0 a1 b2 b5 c0 c1 c2 c3 c4 c5
  have HK0 := Lib.hid hk0
  have HW0 := Lib.hid hW0
  have HR0 := Lib.hid r0
  have HR1 := Lib.hid r1
  have HR2 := Lib.hid r2
  clear hk0 hW0 r0 r1 r2
  go_enter Tryz.func16, Tryz.ntmps16
  go_upto_region 1 with (fail)
  rw [HW0.out]
  clear HW0
  go_wp2_with (fail)
  go_ret
  exact ⟨_, rfl, opsAt_one W0 (oFlo g 32), HK0.out.alloc _⟩
set_option maxRecDepth 1000000 in
set_option maxHeartbeats 20000000 in
theorem textOp_1 (x y : Value) (S : Sch) (name : ByteArray) (number kind type : Int) (rep map : Bool) (b : Bool) (i : Int) (u g : Nat) (s : ByteArray) (am : Option Addr) (n cm : Nat) (msg : List (Int × List PV)) (inner : Int → List (Int × List PV) → List OpV) (w : World) (hk : kind = 1) : Calls Tryz.prog 16 #[.agg #[x, y], .agg #[.string name, .int .i64 number, .int .i64 kind, .bool rep, .bool map, .int .i64 type], .agg #[.bool b, .int .i64 i, .int .u64 (u : Int), .int .u64 (g : Int), .string s, .slice am n cm]] w (OpsRes w (valOps inner S kind type b i u g s msg)) := by
  subst hk
  have hv : valOps inner S 1 type b i u g s msg = [oFlo g 64] := by simp [valOps]
  rw [hv]
  clear hv
  obtain ⟨W0, hW0⟩ : ∃ W, ((w.alloc (.cells #[x, y] 25)).alloc (.cells #[.string name, .int .i64 number, .int .i64 1, .bool rep, .bool map, .int .i64 type] 45)).alloc (.cells #[.bool b, .int .i64 i, .int .u64 (u : Int), .int .u64 (g : Int), .string s, .slice am n cm] 51) = W := ⟨_, rfl⟩
  have hk0 : Keeps (fun _ => False) w W0 := by rw [← hW0]; exact (((Keeps.refl _ w).alloc _).alloc _).alloc _
  have r0 : W0.heap[w.heap.size]? = some (.cells #[x, y] 25 (0, 0)) := by rw [← hW0]; exact ((Keeps.refl (fun _ => False) _).alloc _).row (heap_alloc2_old w _ _) id
  have r1 : W0.heap[w.heap.size + 1]? = some (.cells #[.string name, .int .i64 number, .int .i64 1, .bool rep, .bool map, .int .i64 type] 45 (0, 0)) := by rw [← hW0]; exact ((Keeps.refl (fun _ => False) _).alloc _).row (heap_alloc2_new w _ _) id
  have r2 : W0.heap[w.heap.size + 2]? = some (.cells #[.bool b, .int .i64 i, .int .u64 (u : Int), .int .u64 (g : Int), .string s, .slice am n cm] 51 (0, 0)) := by rw [← hW0]; have h := heap_alloc_new ((w.alloc (.cells #[x, y] 25)).alloc (.cells #[.string name, .int .i64 number, .int .i64 1, .bool rep, .bool map, .int .i64 type] 45)) (.cells #[.bool b, .int .i64 i, .int .u64 (u : Int), .int .u64 (g : Int), .string s, .slice am n cm] 51); simpa using h
  have a0 := cell_row (j := 0) r0
  have a1 := cell_row (j := 1) r0
  have b2 := cell_row (j := 2) r1
  have b5 := cell_row (j := 5) r1
  have c0 := cell_row (j := 0) r2
  have c1 := cell_row (j := 1) r2
  have c2 := cell_row (j := 2) r2
  have c3 := cell_row (j := 3) r2
  have c4 := cell_row (j := 4) r2
  have c5 := cell_row (j := 5) r2
  simp at a0 a1 b2 b5 c0 c1 c2 c3 c4 c5
  have HK0 := Lib.hid hk0
  have HW0 := Lib.hid hW0
  have HR0 := Lib.hid r0
  have HR1 := Lib.hid r1
  have HR2 := Lib.hid r2
  clear hk0 hW0 r0 r1 r2
  go_enter Tryz.func16, Tryz.ntmps16
  go_upto_region 1 with (fail)
  rw [HW0.out]
  clear HW0
  go_wp2_with (fail)
  go_ret
  exact ⟨_, rfl, opsAt_one W0 (oFlo g 64), HK0.out.alloc _⟩
set_option maxRecDepth 1000000 in
set_option maxHeartbeats 20000000 in
theorem textOp_13 (x y : Value) (S : Sch) (name : ByteArray) (number kind type : Int) (rep map : Bool) (b : Bool) (i : Int) (u g : Nat) (s : ByteArray) (am : Option Addr) (n cm : Nat) (msg : List (Int × List PV)) (inner : Int → List (Int × List PV) → List OpV) (w : World) (hk : kind = 13) : Calls Tryz.prog 16 #[.agg #[x, y], .agg #[.string name, .int .i64 number, .int .i64 kind, .bool rep, .bool map, .int .i64 type], .agg #[.bool b, .int .i64 i, .int .u64 (u : Int), .int .u64 (g : Int), .string s, .slice am n cm]] w (OpsRes w (valOps inner S kind type b i u g s msg)) := by
  subst hk
  have hv : valOps inner S 13 type b i u g s msg = [oUint u] := by simp [valOps]
  rw [hv]
  clear hv
  obtain ⟨W0, hW0⟩ : ∃ W, ((w.alloc (.cells #[x, y] 25)).alloc (.cells #[.string name, .int .i64 number, .int .i64 13, .bool rep, .bool map, .int .i64 type] 45)).alloc (.cells #[.bool b, .int .i64 i, .int .u64 (u : Int), .int .u64 (g : Int), .string s, .slice am n cm] 51) = W := ⟨_, rfl⟩
  have hk0 : Keeps (fun _ => False) w W0 := by rw [← hW0]; exact (((Keeps.refl _ w).alloc _).alloc _).alloc _
  have r0 : W0.heap[w.heap.size]? = some (.cells #[x, y] 25 (0, 0)) := by rw [← hW0]; exact ((Keeps.refl (fun _ => False) _).alloc _).row (heap_alloc2_old w _ _) id
  have r1 : W0.heap[w.heap.size + 1]? = some (.cells #[.string name, .int .i64 number, .int .i64 13, .bool rep, .bool map, .int .i64 type] 45 (0, 0)) := by rw [← hW0]; exact ((Keeps.refl (fun _ => False) _).alloc _).row (heap_alloc2_new w _ _) id
  have r2 : W0.heap[w.heap.size + 2]? = some (.cells #[.bool b, .int .i64 i, .int .u64 (u : Int), .int .u64 (g : Int), .string s, .slice am n cm] 51 (0, 0)) := by rw [← hW0]; have h := heap_alloc_new ((w.alloc (.cells #[x, y] 25)).alloc (.cells #[.string name, .int .i64 number, .int .i64 13, .bool rep, .bool map, .int .i64 type] 45)) (.cells #[.bool b, .int .i64 i, .int .u64 (u : Int), .int .u64 (g : Int), .string s, .slice am n cm] 51); simpa using h
  have a0 := cell_row (j := 0) r0
  have a1 := cell_row (j := 1) r0
  have b2 := cell_row (j := 2) r1
  have b5 := cell_row (j := 5) r1
  have c0 := cell_row (j := 0) r2
  have c1 := cell_row (j := 1) r2
  have c2 := cell_row (j := 2) r2
  have c3 := cell_row (j := 3) r2
  have c4 := cell_row (j := 4) r2
  have c5 := cell_row (j := 5) r2
  simp at a0 a1 b2 b5 c0 c1 c2 c3 c4 c5
  have HK0 := Lib.hid hk0
  have HW0 := Lib.hid hW0
  have HR0 := Lib.hid r0
  have HR1 := Lib.hid r1
  have HR2 := Lib.hid r2
  clear hk0 hW0 r0 r1 r2
  go_enter Tryz.func16, Tryz.ntmps16
  go_upto_region 1 with (fail)
  rw [HW0.out]
  clear HW0
  go_wp2_with (fail)
  go_ret
  exact ⟨_, rfl, opsAt_one W0 (oUint u), HK0.out.alloc _⟩
set_option maxRecDepth 1000000 in
set_option maxHeartbeats 20000000 in
theorem textOp_4 (x y : Value) (S : Sch) (name : ByteArray) (number kind type : Int) (rep map : Bool) (b : Bool) (i : Int) (u g : Nat) (s : ByteArray) (am : Option Addr) (n cm : Nat) (msg : List (Int × List PV)) (inner : Int → List (Int × List PV) → List OpV) (w : World) (hk : kind = 4) : Calls Tryz.prog 16 #[.agg #[x, y], .agg #[.string name, .int .i64 number, .int .i64 kind, .bool rep, .bool map, .int .i64 type], .agg #[.bool b, .int .i64 i, .int .u64 (u : Int), .int .u64 (g : Int), .string s, .slice am n cm]] w (OpsRes w (valOps inner S kind type b i u g s msg)) := by
  subst hk
  have hv : valOps inner S 4 type b i u g s msg = [oUint u] := by simp [valOps]
  rw [hv]
  clear hv
  obtain ⟨W0, hW0⟩ : ∃ W, ((w.alloc (.cells #[x, y] 25)).alloc (.cells #[.string name, .int .i64 number, .int .i64 4, .bool rep, .bool map, .int .i64 type] 45)).alloc (.cells #[.bool b, .int .i64 i, .int .u64 (u : Int), .int .u64 (g : Int), .string s, .slice am n cm] 51) = W := ⟨_, rfl⟩
  have hk0 : Keeps (fun _ => False) w W0 := by rw [← hW0]; exact (((Keeps.refl _ w).alloc _).alloc _).alloc _
  have r0 : W0.heap[w.heap.size]? = some (.cells #[x, y] 25 (0, 0)) := by rw [← hW0]; exact ((Keeps.refl (fun _ => False) _).alloc _).row (heap_alloc2_old w _ _) id
  have r1 : W0.heap[w.heap.size + 1]? = some (.cells #[.string name, .int .i64 number, .int .i64 4, .bool rep, .bool map, .int .i64 type] 45 (0, 0)) := by rw [← hW0]; exact ((Keeps.refl (fun _ => False) _).alloc _).row (heap_alloc2_new w _ _) id
  have r2 : W0.heap[w.heap.size + 2]? = some (.cells #[.bool b, .int .i64 i, .int .u64 (u : Int), .int .u64 (g : Int), .string s, .slice am n cm] 51 (0, 0)) := by rw [← hW0]; have h := heap_alloc_new ((w.alloc (.cells #[x, y] 25)).alloc (.cells #[.string name, .int .i64 number, .int .i64 4, .bool rep, .bool map, .int .i64 type] 45)) (.cells #[.bool b, .int .i64 i, .int .u64 (u : Int), .int .u64 (g : Int), .string s, .slice am n cm] 51); simpa using h
  have a0 := cell_row (j := 0) r0
  have a1 := cell_row (j := 1) r0
  have b2 := cell_row (j := 2) r1
  have b5 := cell_row (j := 5) r1
  have c0 := cell_row (j := 0) r2
  have c1 := cell_row (j := 1) r2
  have c2 := cell_row (j := 2) r2
  have c3 := cell_row (j := 3) r2
  have c4 := cell_row (j := 4) r2
  have c5 := cell_row (j := 5) r2
  simp at a0 a1 b2 b5 c0 c1 c2 c3 c4 c5
  have HK0 := Lib.hid hk0
  have HW0 := Lib.hid hW0
  have HR0 := Lib.hid r0
  have HR1 := Lib.hid r1
  have HR2 := Lib.hid r2
  clear hk0 hW0 r0 r1 r2
  go_enter Tryz.func16, Tryz.ntmps16
  go_upto_region 1 with (fail)
  rw [HW0.out]
  clear HW0
  go_wp2_with (fail)
  go_ret
  exact ⟨_, rfl, opsAt_one W0 (oUint u), HK0.out.alloc _⟩
set_option maxRecDepth 1000000 in
set_option maxHeartbeats 20000000 in
theorem textOp_7 (x y : Value) (S : Sch) (name : ByteArray) (number kind type : Int) (rep map : Bool) (b : Bool) (i : Int) (u g : Nat) (s : ByteArray) (am : Option Addr) (n cm : Nat) (msg : List (Int × List PV)) (inner : Int → List (Int × List PV) → List OpV) (w : World) (hk : kind = 7) : Calls Tryz.prog 16 #[.agg #[x, y], .agg #[.string name, .int .i64 number, .int .i64 kind, .bool rep, .bool map, .int .i64 type], .agg #[.bool b, .int .i64 i, .int .u64 (u : Int), .int .u64 (g : Int), .string s, .slice am n cm]] w (OpsRes w (valOps inner S kind type b i u g s msg)) := by
  subst hk
  have hv : valOps inner S 7 type b i u g s msg = [oUint u] := by simp [valOps]
  rw [hv]
  clear hv
  obtain ⟨W0, hW0⟩ : ∃ W, ((w.alloc (.cells #[x, y] 25)).alloc (.cells #[.string name, .int .i64 number, .int .i64 7, .bool rep, .bool map, .int .i64 type] 45)).alloc (.cells #[.bool b, .int .i64 i, .int .u64 (u : Int), .int .u64 (g : Int), .string s, .slice am n cm] 51) = W := ⟨_, rfl⟩
  have hk0 : Keeps (fun _ => False) w W0 := by rw [← hW0]; exact (((Keeps.refl _ w).alloc _).alloc _).alloc _
  have r0 : W0.heap[w.heap.size]? = some (.cells #[x, y] 25 (0, 0)) := by rw [← hW0]; exact ((Keeps.refl (fun _ => False) _).alloc _).row (heap_alloc2_old w _ _) id
  have r1 : W0.heap[w.heap.size + 1]? = some (.cells #[.string name, .int .i64 number, .int .i64 7, .bool rep, .bool map, .int .i64 type] 45 (0, 0)) := by rw [← hW0]; exact ((Keeps.refl (fun _ => False) _).alloc _).row (heap_alloc2_new w _ _) id
  have r2 : W0.heap[w.heap.size + 2]? = some (.cells #[.bool b, .int .i64 i, .int .u64 (u : Int), .int .u64 (g : Int), .string s, .slice am n cm] 51 (0, 0)) := by rw [← hW0]; have h := heap_alloc_new ((w.alloc (.cells #[x, y] 25)).alloc (.cells #[.string name, .int .i64 number, .int .i64 7, .bool rep, .bool map, .int .i64 type] 45)) (.cells #[.bool b, .int .i64 i, .int .u64 (u : Int), .int .u64 (g : Int), .string s, .slice am n cm] 51); simpa using h
  have a0 := cell_row (j := 0) r0
  have a1 := cell_row (j := 1) r0
  have b2 := cell_row (j := 2) r1
  have b5 := cell_row (j := 5) r1
  have c0 := cell_row (j := 0) r2
  have c1 := cell_row (j := 1) r2
  have c2 := cell_row (j := 2) r2
  have c3 := cell_row (j := 3) r2
  have c4 := cell_row (j := 4) r2
  have c5 := cell_row (j := 5) r2
  simp at a0 a1 b2 b5 c0 c1 c2 c3 c4 c5
  have HK0 := Lib.hid hk0
  have HW0 := Lib.hid hW0
  have HR0 := Lib.hid r0
  have HR1 := Lib.hid r1
  have HR2 := Lib.hid r2
  clear hk0 hW0 r0 r1 r2
  go_enter Tryz.func16, Tryz.ntmps16
  go_upto_region 1 with (fail)
  rw [HW0.out]
  clear HW0
  go_wp2_with (fail)
  go_ret
  exact ⟨_, rfl, opsAt_one W0 (oUint u), HK0.out.alloc _⟩
set_option maxRecDepth 1000000 in
set_option maxHeartbeats 20000000 in
theorem textOp_6 (x y : Value) (S : Sch) (name : ByteArray) (number kind type : Int) (rep map : Bool) (b : Bool) (i : Int) (u g : Nat) (s : ByteArray) (am : Option Addr) (n cm : Nat) (msg : List (Int × List PV)) (inner : Int → List (Int × List PV) → List OpV) (w : World) (hk : kind = 6) : Calls Tryz.prog 16 #[.agg #[x, y], .agg #[.string name, .int .i64 number, .int .i64 kind, .bool rep, .bool map, .int .i64 type], .agg #[.bool b, .int .i64 i, .int .u64 (u : Int), .int .u64 (g : Int), .string s, .slice am n cm]] w (OpsRes w (valOps inner S kind type b i u g s msg)) := by
  subst hk
  have hv : valOps inner S 6 type b i u g s msg = [oUint u] := by simp [valOps]
  rw [hv]
  clear hv
  obtain ⟨W0, hW0⟩ : ∃ W, ((w.alloc (.cells #[x, y] 25)).alloc (.cells #[.string name, .int .i64 number, .int .i64 6, .bool rep, .bool map, .int .i64 type] 45)).alloc (.cells #[.bool b, .int .i64 i, .int .u64 (u : Int), .int .u64 (g : Int), .string s, .slice am n cm] 51) = W := ⟨_, rfl⟩
  have hk0 : Keeps (fun _ => False) w W0 := by rw [← hW0]; exact (((Keeps.refl _ w).alloc _).alloc _).alloc _
  have r0 : W0.heap[w.heap.size]? = some (.cells #[x, y] 25 (0, 0)) := by rw [← hW0]; exact ((Keeps.refl (fun _ => False) _).alloc _).row (heap_alloc2_old w _ _) id
  have r1 : W0.heap[w.heap.size + 1]? = some (.cells #[.string name, .int .i64 number, .int .i64 6, .bool rep, .bool map, .int .i64 type] 45 (0, 0)) := by rw [← hW0]; exact ((Keeps.refl (fun _ => False) _).alloc _).row (heap_alloc2_new w _ _) id
  have r2 : W0.heap[w.heap.size + 2]? = some (.cells #[.bool b, .int .i64 i, .int .u64 (u : Int), .int .u64 (g : Int), .string s, .slice am n cm] 51 (0, 0)) := by rw [← hW0]; have h := heap_alloc_new ((w.alloc (.cells #[x, y] 25)).alloc (.cells #[.string name, .int .i64 number, .int .i64 6, .bool rep, .bool map, .int .i64 type] 45)) (.cells #[.bool b, .int .i64 i, .int .u64 (u : Int), .int .u64 (g : Int), .string s, .slice am n cm] 51); simpa using h
  have a0 := cell_row (j := 0) r0
  have a1 := cell_row (j := 1) r0
  have b2 := cell_row (j := 2) r1
  have b5 := cell_row (j := 5) r1
  have c0 := cell_row (j := 0) r2
  have c1 := cell_row (j := 1) r2
  have c2 := cell_row (j := 2) r2
  have c3 := cell_row (j := 3) r2
  have c4 := cell_row (j := 4) r2
  have c5 := cell_row (j := 5) r2
  simp at a0 a1 b2 b5 c0 c1 c2 c3 c4 c5
  have HK0 := Lib.hid hk0
  have HW0 := Lib.hid hW0
  have HR0 := Lib.hid r0
  have HR1 := Lib.hid r1
  have HR2 := Lib.hid r2
  clear hk0 hW0 r0 r1 r2
  go_enter Tryz.func16, Tryz.ntmps16
  go_upto_region 1 with (fail)
  rw [HW0.out]
  clear HW0
  go_wp2_with (fail)
  go_ret
  exact ⟨_, rfl, opsAt_one W0 (oUint u), HK0.out.alloc _⟩
set_option maxRecDepth 1000000 in
set_option maxHeartbeats 20000000 in
theorem textOp_else (x y : Value) (S : Sch) (name : ByteArray) (number kind type : Int) (rep map : Bool) (b : Bool) (i : Int) (u g : Nat) (s : ByteArray) (am : Option Addr) (n cm : Nat) (msg : List (Int × List PV)) (inner : Int → List (Int × List PV) → List OpV) (w : World) (h8 : ¬ kind = 8) (h9 : ¬ kind = 9) (h12 : ¬ kind = 12) (h2 : ¬ kind = 2) (h1 : ¬ kind = 1) (h13 : ¬ kind = 13) (h4 : ¬ kind = 4) (h7 : ¬ kind = 7) (h6 : ¬ kind = 6) (h14 : ¬ kind = 14) (h11 : ¬ kind = 11) : Calls Tryz.prog 16 #[.agg #[x, y], .agg #[.string name, .int .i64 number, .int .i64 kind, .bool rep, .bool map, .int .i64 type], .agg #[.bool b, .int .i64 i, .int .u64 (u : Int), .int .u64 (g : Int), .string s, .slice am n cm]] w (OpsRes w (valOps inner S kind type b i u g s msg)) := by
  have hv : valOps inner S kind type b i u g s msg = [oInt i] := by simp [valOps, h8, h9, h12, h2, h1, h13, h4, h7, h6, h14, h11]
  rw [hv]
  clear hv
  have e8 : (kind == 8) = false := by simpa using h8
  have e9 : (kind == 9) = false := by simpa using h9
  have e12 : (kind == 12) = false := by simpa using h12
  have e2 : (kind == 2) = false := by simpa using h2
  have e1 : (kind == 1) = false := by simpa using h1
  have e13 : (kind == 13) = false := by simpa using h13
  have e4 : (kind == 4) = false := by simpa using h4
  have e7 : (kind == 7) = false := by simpa using h7
  have e6 : (kind == 6) = false := by simpa using h6
  have e14 : (kind == 14) = false := by simpa using h14
  have e11 : (kind == 11) = false := by simpa using h11
  obtain ⟨W0, hW0⟩ : ∃ W, ((w.alloc (.cells #[x, y] 25)).alloc (.cells #[.string name, .int .i64 number, .int .i64 kind, .bool rep, .bool map, .int .i64 type] 45)).alloc (.cells #[.bool b, .int .i64 i, .int .u64 (u : Int), .int .u64 (g : Int), .string s, .slice am n cm] 51) = W := ⟨_, rfl⟩
  have hk0 : Keeps (fun _ => False) w W0 := by rw [← hW0]; exact (((Keeps.refl _ w).alloc _).alloc _).alloc _
  have r0 : W0.heap[w.heap.size]? = some (.cells #[x, y] 25 (0, 0)) := by rw [← hW0]; exact ((Keeps.refl (fun _ => False) _).alloc _).row (heap_alloc2_old w _ _) id
  have r1 : W0.heap[w.heap.size + 1]? = some (.cells #[.string name, .int .i64 number, .int .i64 kind, .bool rep, .bool map, .int .i64 type] 45 (0, 0)) := by rw [← hW0]; exact ((Keeps.refl (fun _ => False) _).alloc _).row (heap_alloc2_new w _ _) id
  have r2 : W0.heap[w.heap.size + 2]? = some (.cells #[.bool b, .int .i64 i, .int .u64 (u : Int), .int .u64 (g : Int), .string s, .slice am n cm] 51 (0, 0)) := by rw [← hW0]; have h := heap_alloc_new ((w.alloc (.cells #[x, y] 25)).alloc (.cells #[.string name, .int .i64 number, .int .i64 kind, .bool rep, .bool map, .int .i64 type] 45)) (.cells #[.bool b, .int .i64 i, .int .u64 (u : Int), .int .u64 (g : Int), .string s, .slice am n cm] 51); simpa using h
  have a0 := cell_row (j := 0) r0
  have a1 := cell_row (j := 1) r0
  have b2 := cell_row (j := 2) r1
  have b5 := cell_row (j := 5) r1
  have c0 := cell_row (j := 0) r2
  have c1 := cell_row (j := 1) r2
  have c2 := cell_row (j := 2) r2
  have c3 := cell_row (j := 3) r2
  have c4 := cell_row (j := 4) r2
  have c5 := cell_row (j := 5) r2
  simp at a0 a1 b2 b5 c0 c1 c2 c3 c4 c5
  have HK0 := Lib.hid hk0
  have HW0 := Lib.hid hW0
  have HR0 := Lib.hid r0
  have HR1 := Lib.hid r1
  have HR2 := Lib.hid r2
  clear hk0 hW0 r0 r1 r2
  go_enter Tryz.func16, Tryz.ntmps16
  go_upto_region 1 with (fail)
  rw [HW0.out]
  clear HW0
  go_wp2_with (fail)
  go_ret
  exact ⟨_, rfl, opsAt_one W0 (oInt i), HK0.out.alloc _⟩
end Go.Proofs.YtmijjppjodpagaaGreatDoor
