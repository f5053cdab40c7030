/-
  textDo: one call of an Encoder without an indent appends what the operation says.
  NewEncoder without an indent, Bytes, Snapshot, Reset.
  TextEncode without an indent: what the operations append, one behind the other.
-/
import Derived.Test.YtmijjppjodpagaaGreatDoorM18
import Derived.KernelRfl
import Derived.Test.YtmijjppjodpagaaGreatDoorM04
set_option linter.unusedVariables false
set_option linter.unusedSimpArgs false
namespace Go.Proofs.YtmijjppjodpagaaGreatDoor
open Go.RowKit
/-- An operation as data. -/
structure OpV where
  op : Int
  s : ByteArray
  b : Bool
  i : Int
  u : Nat
  f : Nat
  size : Int
def opc (o : OpV) : List Value := [.int .i64 o.op, .string o.s, .bool o.b, .int .i64 o.i, .int .u64 (o.u : Int), .int .u64 (o.f : Int), .int .i64 o.size]
/-- The operation o leaves an Encoder at the kind nx, having appended T (a space ahead of it where one is due). -/
def OpSay (PT : Nat → Nat × Nat) (o : OpV) (nx : Nat) (T : List UInt8) : Prop := ∀ (B : World) (E : Nat) (v0 : Value) (w : World) (k : Nat) (v : Value) (l : List UInt8), ETab PT B E v0 → EOut B E v0 w k v l → 14 ≤ B.heap.size → l.length ≤ 130000000000000 →
  Calls Tryz.prog 18 #[.pointer (some ⟨E, 0, none⟩), .agg #[.int .i64 o.op, .string o.s, .bool o.b, .int .i64 o.i, .int .u64 (o.u : Int), .int .u64 (o.f : Int), .int .i64 o.size]] w (EPost B E v0 nx (l ++ (sp k nx ++ T)))
set_option maxRecDepth 1000000 in
set_option maxHeartbeats 20000000 in
theorem do_1 (PT : Nat → Nat × Nat) (s : List UInt8) (b : Bool) (i : Int) (u f : Nat) (size : Int) (hs : s.length ≤ 1048576) : OpSay PT ⟨1, mk s, b, i, u, f, size⟩ 1 (s ++ [58]) := by
  intro B E v0 w k v l hET h hTB hl
  obtain ⟨W1, hW1⟩ : ∃ W, w.alloc (.cells #[.int .i64 1, .string (mk s), .bool b, .int .i64 i, .int .u64 (u : Int), .int .u64 (f : Int), .int .i64 size] 53) = W := ⟨_, rfl⟩
  have hk1 : Keeps (fun _ => False) w W1 := by rw [← hW1]; exact (Keeps.refl _ w).alloc _
  have r1 : W1.heap[w.heap.size]? = some (.cells #[.int .i64 1, .string (mk s), .bool b, .int .i64 i, .int .u64 (u : Int), .int .u64 (f : Int), .int .i64 size] 53 (0, 0)) := by rw [← hW1]; exact heap_alloc_new w _
  have h1 := h.below hk1
  have HM := Lib.hid (writeName_any s (by omega) B E v0 W1 k v l h1 hTB hl)
  have c0 := cell_row (j := 0) r1
  have c1 := cell_row (j := 1) r1
  have c2 := cell_row (j := 2) r1
  have c3 := cell_row (j := 3) r1
  have c4 := cell_row (j := 4) r1
  have c5 := cell_row (j := 5) r1
  have c6 := cell_row (j := 6) r1
  simp at c0 c1 c2 c3 c4 c5 c6
  have HW1 := Lib.hid hW1
  clear hW1 hk1 r1 h h1 hET
  go_enter Tryz.func18, Tryz.ntmps18
  go_upto_region 1 with (fail)
  rw [HW1.out]
  obtain ⟨K, hK⟩ : ∃ K, w.heap.size = K := ⟨_, rfl⟩
  rw [hK] at c0 c1 c2 c3 c4 c5 c6 ⊢
  clear hK HW1
  go_wp2_with (go_at_call 33; refine HM.out.mono ?_; rintro e w2 ⟨rfl, v2, h2⟩; have H2 := Lib.hid h2; clear h2)
  go_end0
  have h := H2.out
  simp only [List.append_assoc] at h ⊢
  exact ⟨rfl, _, h⟩
set_option maxRecDepth 1000000 in
set_option maxHeartbeats 20000000 in
theorem do_2 (PT : Nat → Nat × Nat) (s : List UInt8) (b : Bool) (i : Int) (u f : Nat) (size : Int)  : OpSay PT ⟨2, mk s, b, i, u, f, size⟩ 2 (if b then [116, 114, 117, 101] else [102, 97, 108, 115, 101]) := by
  intro B E v0 w k v l hET h hTB hl
  obtain ⟨TT, hTT⟩ : ∃ T : List UInt8, (if b then [116, 114, 117, 101] else [102, 97, 108, 115, 101]) = T := ⟨_, rfl⟩
  have HB := writeBool_any b
  rw [hTT] at HB ⊢
  clear hTT
  obtain ⟨W1, hW1⟩ : ∃ W, w.alloc (.cells #[.int .i64 2, .string (mk s), .bool b, .int .i64 i, .int .u64 (u : Int), .int .u64 (f : Int), .int .i64 size] 53) = W := ⟨_, rfl⟩
  have hk1 : Keeps (fun _ => False) w W1 := by rw [← hW1]; exact (Keeps.refl _ w).alloc _
  have r1 : W1.heap[w.heap.size]? = some (.cells #[.int .i64 2, .string (mk s), .bool b, .int .i64 i, .int .u64 (u : Int), .int .u64 (f : Int), .int .i64 size] 53 (0, 0)) := by rw [← hW1]; exact heap_alloc_new w _
  have h1 := h.below hk1
  have HM := Lib.hid (HB B E v0 W1 k v l h1 hTB hl)
  have c0 := cell_row (j := 0) r1
  have c1 := cell_row (j := 1) r1
  have c2 := cell_row (j := 2) r1
  have c3 := cell_row (j := 3) r1
  have c4 := cell_row (j := 4) r1
  have c5 := cell_row (j := 5) r1
  have c6 := cell_row (j := 6) r1
  simp at c0 c1 c2 c3 c4 c5 c6
  have HW1 := Lib.hid hW1
  clear hW1 hk1 r1 h h1 hET HB
  go_enter Tryz.func18, Tryz.ntmps18
  go_upto_region 1 with (fail)
  rw [HW1.out]
  obtain ⟨K, hK⟩ : ∃ K, w.heap.size = K := ⟨_, rfl⟩
  rw [hK] at c0 c1 c2 c3 c4 c5 c6 ⊢
  clear hK HW1
  go_wp2_with (go_at_call 34; refine HM.out.mono ?_; rintro e w2 ⟨rfl, v2, h2⟩; have H2 := Lib.hid h2; clear h2)
  go_end0
  have h := H2.out
  simp only [List.append_assoc] at h ⊢
  exact ⟨rfl, _, h⟩
set_option maxRecDepth 1000000 in
set_option maxHeartbeats 20000000 in
theorem do_3 (PT : Nat → Nat × Nat) (s : List UInt8) (b : Bool) (i : Int) (u f : Nat) (size : Int) (hs : s.length ≤ 1048576) : OpSay PT ⟨3, mk s, b, i, u, f, size⟩ 2 (quote false s) := by
  intro B E v0 w k v l hET h hTB hl
  obtain ⟨W1, hW1⟩ : ∃ W, w.alloc (.cells #[.int .i64 3, .string (mk s), .bool b, .int .i64 i, .int .u64 (u : Int), .int .u64 (f : Int), .int .i64 size] 53) = W := ⟨_, rfl⟩
  have hk1 : Keeps (fun _ => False) w W1 := by rw [← hW1]; exact (Keeps.refl _ w).alloc _
  have r1 : W1.heap[w.heap.size]? = some (.cells #[.int .i64 3, .string (mk s), .bool b, .int .i64 i, .int .u64 (u : Int), .int .u64 (f : Int), .int .i64 size] 53 (0, 0)) := by rw [← hW1]; exact heap_alloc_new w _
  have h1 := h.below hk1
  have HM := Lib.hid (writeString_any PT s (by omega) B E v0 hET W1 k v l h1 hTB hl)
  have c0 := cell_row (j := 0) r1
  have c1 := cell_row (j := 1) r1
  have c2 := cell_row (j := 2) r1
  have c3 := cell_row (j := 3) r1
  have c4 := cell_row (j := 4) r1
  have c5 := cell_row (j := 5) r1
  have c6 := cell_row (j := 6) r1
  simp at c0 c1 c2 c3 c4 c5 c6
  have HW1 := Lib.hid hW1
  clear hW1 hk1 r1 h h1 hET
  go_enter Tryz.func18, Tryz.ntmps18
  go_upto_region 1 with (fail)
  rw [HW1.out]
  obtain ⟨K, hK⟩ : ∃ K, w.heap.size = K := ⟨_, rfl⟩
  rw [hK] at c0 c1 c2 c3 c4 c5 c6 ⊢
  clear hK HW1
  go_wp2_with (go_at_call 35; refine HM.out.mono ?_; rintro e w2 ⟨rfl, v2, h2⟩; have H2 := Lib.hid h2; clear h2)
  go_end0
  have h := H2.out
  simp only [List.append_assoc] at h ⊢
  exact ⟨rfl, _, h⟩
set_option maxRecDepth 1000000 in
set_option maxHeartbeats 20000000 in
theorem do_4 (PT : Nat → Nat × Nat) (s : List UInt8) (b : Bool) (i : Int) (u f : Nat) (size : Int) (T : List UInt8) (hT : T.length ≤ 2000) (hsay : AFSay PT f size T) : OpSay PT ⟨4, mk s, b, i, u, f, size⟩ 2 (T) := by
  intro B E v0 w k v l hET h hTB hl
  obtain ⟨W1, hW1⟩ : ∃ W, w.alloc (.cells #[.int .i64 4, .string (mk s), .bool b, .int .i64 i, .int .u64 (u : Int), .int .u64 (f : Int), .int .i64 size] 53) = W := ⟨_, rfl⟩
  have hk1 : Keeps (fun _ => False) w W1 := by rw [← hW1]; exact (Keeps.refl _ w).alloc _
  have r1 : W1.heap[w.heap.size]? = some (.cells #[.int .i64 4, .string (mk s), .bool b, .int .i64 i, .int .u64 (u : Int), .int .u64 (f : Int), .int .i64 size] 53 (0, 0)) := by rw [← hW1]; exact heap_alloc_new w _
  have h1 := h.below hk1
  have HM := Lib.hid (fun (wx : World) (hk : Keeps (fun _ => False) W1 wx) => writeFloat_any PT B E v0 f size T hT hsay hET wx k v l (h1.below hk) hTB hl)
  have c0 := cell_row (j := 0) r1
  have c1 := cell_row (j := 1) r1
  have c2 := cell_row (j := 2) r1
  have c3 := cell_row (j := 3) r1
  have c4 := cell_row (j := 4) r1
  have c5 := cell_row (j := 5) r1
  have c6 := cell_row (j := 6) r1
  simp at c0 c1 c2 c3 c4 c5 c6
  have HW1 := Lib.hid hW1
  clear hW1 hk1 r1 h h1 hET
  go_enter Tryz.func18, Tryz.ntmps18
  go_upto_region 1 with (fail)
  rw [HW1.out]
  obtain ⟨K, hK⟩ : ∃ K, w.heap.size = K := ⟨_, rfl⟩
  rw [hK] at c0 c1 c2 c3 c4 c5 c6 ⊢
  clear hK HW1
  have hfr := fun w => frombits_run f w
  have d5 : W1.drew.cell? ⟨K, 5, none⟩ = some (.int .u64 (f : Int)) := c5
  have d6 : W1.drew.cell? ⟨K, 6, none⟩ = some (.int .i64 size) := c6
  go_wp2_with (fail)
  go_region_with ((go_at_call 36; refine (HM.out _ (by repeat (first | exact Keeps.refl _ _ | apply Keeps.drew))).mono ?_; rintro e w2 ⟨rfl, v2, h2⟩; have H2 := Lib.hid h2; clear h2))
  all_goals go_wp2_with (fail)
  all_goals go_end0
  all_goals
   have h := H2.out
   simp only [List.append_assoc] at h ⊢
   exact ⟨rfl, _, h⟩
set_option maxRecDepth 1000000 in
set_option maxHeartbeats 20000000 in
theorem do_5 (PT : Nat → Nat × Nat) (s : List UInt8) (b : Bool) (i : Int) (u f : Nat) (size : Int) (T : List UInt8) (hT : T.length ≤ 2000) (hsay : AISay 59 (.int .i64 i) T) : OpSay PT ⟨5, mk s, b, i, u, f, size⟩ 2 (T) := by
  intro B E v0 w k v l hET h hTB hl
  obtain ⟨W1, hW1⟩ : ∃ W, w.alloc (.cells #[.int .i64 5, .string (mk s), .bool b, .int .i64 i, .int .u64 (u : Int), .int .u64 (f : Int), .int .i64 size] 53) = W := ⟨_, rfl⟩
  have hk1 : Keeps (fun _ => False) w W1 := by rw [← hW1]; exact (Keeps.refl _ w).alloc _
  have r1 : W1.heap[w.heap.size]? = some (.cells #[.int .i64 5, .string (mk s), .bool b, .int .i64 i, .int .u64 (u : Int), .int .u64 (f : Int), .int .i64 size] 53 (0, 0)) := by rw [← hW1]; exact heap_alloc_new w _
  have h1 := h.below hk1
  have HM := Lib.hid (writeInt_any PT B E v0 i T hT hsay hET W1 k v l h1 hTB hl)
  have c0 := cell_row (j := 0) r1
  have c1 := cell_row (j := 1) r1
  have c2 := cell_row (j := 2) r1
  have c3 := cell_row (j := 3) r1
  have c4 := cell_row (j := 4) r1
  have c5 := cell_row (j := 5) r1
  have c6 := cell_row (j := 6) r1
  simp at c0 c1 c2 c3 c4 c5 c6
  have HW1 := Lib.hid hW1
  clear hW1 hk1 r1 h h1 hET
  go_enter Tryz.func18, Tryz.ntmps18
  go_upto_region 1 with (fail)
  rw [HW1.out]
  obtain ⟨K, hK⟩ : ∃ K, w.heap.size = K := ⟨_, rfl⟩
  rw [hK] at c0 c1 c2 c3 c4 c5 c6 ⊢
  clear hK HW1
  go_wp2_with (go_at_call 38; refine HM.out.mono ?_; rintro e w2 ⟨rfl, v2, h2⟩; have H2 := Lib.hid h2; clear h2)
  go_end0
  have h := H2.out
  simp only [List.append_assoc] at h ⊢
  exact ⟨rfl, _, h⟩
set_option maxRecDepth 1000000 in
set_option maxHeartbeats 20000000 in
theorem do_6 (PT : Nat → Nat × Nat) (s : List UInt8) (b : Bool) (i : Int) (u f : Nat) (size : Int) (T : List UInt8) (hT : T.length ≤ 2000) (hsay : AUSay 60 (.int .u64 (u : Int)) T) : OpSay PT ⟨6, mk s, b, i, u, f, size⟩ 2 (T) := by
  intro B E v0 w k v l hET h hTB hl
  obtain ⟨W1, hW1⟩ : ∃ W, w.alloc (.cells #[.int .i64 6, .string (mk s), .bool b, .int .i64 i, .int .u64 (u : Int), .int .u64 (f : Int), .int .i64 size] 53) = W := ⟨_, rfl⟩
  have hk1 : Keeps (fun _ => False) w W1 := by rw [← hW1]; exact (Keeps.refl _ w).alloc _
  have r1 : W1.heap[w.heap.size]? = some (.cells #[.int .i64 6, .string (mk s), .bool b, .int .i64 i, .int .u64 (u : Int), .int .u64 (f : Int), .int .i64 size] 53 (0, 0)) := by rw [← hW1]; exact heap_alloc_new w _
  have h1 := h.below hk1
  have HM := Lib.hid (writeUint_any PT B E v0 u T hT hsay hET W1 k v l h1 hTB hl)
  have c0 := cell_row (j := 0) r1
  have c1 := cell_row (j := 1) r1
  have c2 := cell_row (j := 2) r1
  have c3 := cell_row (j := 3) r1
  have c4 := cell_row (j := 4) r1
  have c5 := cell_row (j := 5) r1
  have c6 := cell_row (j := 6) r1
  simp at c0 c1 c2 c3 c4 c5 c6
  have HW1 := Lib.hid hW1
  clear hW1 hk1 r1 h h1 hET
  go_enter Tryz.func18, Tryz.ntmps18
  go_upto_region 1 with (fail)
  rw [HW1.out]
  obtain ⟨K, hK⟩ : ∃ K, w.heap.size = K := ⟨_, rfl⟩
  rw [hK] at c0 c1 c2 c3 c4 c5 c6 ⊢
  clear hK HW1
  go_wp2_with (go_at_call 39; refine HM.out.mono ?_; rintro e w2 ⟨rfl, v2, h2⟩; have H2 := Lib.hid h2; clear h2)
  go_end0
  have h := H2.out
  simp only [List.append_assoc] at h ⊢
  exact ⟨rfl, _, h⟩
set_option maxRecDepth 1000000 in
set_option maxHeartbeats 20000000 in
theorem do_7 (PT : Nat → Nat × Nat) (s : List UInt8) (b : Bool) (i : Int) (u f : Nat) (size : Int) (hs : s.length ≤ 1048576) : OpSay PT ⟨7, mk s, b, i, u, f, size⟩ 2 (s) := by
  intro B E v0 w k v l hET h hTB hl
  obtain ⟨W1, hW1⟩ : ∃ W, w.alloc (.cells #[.int .i64 7, .string (mk s), .bool b, .int .i64 i, .int .u64 (u : Int), .int .u64 (f : Int), .int .i64 size] 53) = W := ⟨_, rfl⟩
  have hk1 : Keeps (fun _ => False) w W1 := by rw [← hW1]; exact (Keeps.refl _ w).alloc _
  have r1 : W1.heap[w.heap.size]? = some (.cells #[.int .i64 7, .string (mk s), .bool b, .int .i64 i, .int .u64 (u : Int), .int .u64 (f : Int), .int .i64 size] 53 (0, 0)) := by rw [← hW1]; exact heap_alloc_new w _
  have h1 := h.below hk1
  have HM := Lib.hid (writeLiteral_any s (by omega) B E v0 W1 k v l h1 hTB hl)
  have c0 := cell_row (j := 0) r1
  have c1 := cell_row (j := 1) r1
  have c2 := cell_row (j := 2) r1
  have c3 := cell_row (j := 3) r1
  have c4 := cell_row (j := 4) r1
  have c5 := cell_row (j := 5) r1
  have c6 := cell_row (j := 6) r1
  simp at c0 c1 c2 c3 c4 c5 c6
  have HW1 := Lib.hid hW1
  clear hW1 hk1 r1 h h1 hET
  go_enter Tryz.func18, Tryz.ntmps18
  go_upto_region 1 with (fail)
  rw [HW1.out]
  obtain ⟨K, hK⟩ : ∃ K, w.heap.size = K := ⟨_, rfl⟩
  rw [hK] at c0 c1 c2 c3 c4 c5 c6 ⊢
  clear hK HW1
  go_wp2_with (go_at_call 40; refine HM.out.mono ?_; rintro e w2 ⟨rfl, v2, h2⟩; have H2 := Lib.hid h2; clear h2)
  go_end0
  have h := H2.out
  simp only [List.append_assoc] at h ⊢
  exact ⟨rfl, _, h⟩
set_option maxRecDepth 1000000 in
set_option maxHeartbeats 20000000 in
theorem do_8 (PT : Nat → Nat × Nat) (s : List UInt8) (b : Bool) (i : Int) (u f : Nat) (size : Int)  : OpSay PT ⟨8, mk s, b, i, u, f, size⟩ 4 ([123]) := by
  intro B E v0 w k v l hET h hTB hl
  obtain ⟨W1, hW1⟩ : ∃ W, w.alloc (.cells #[.int .i64 8, .string (mk s), .bool b, .int .i64 i, .int .u64 (u : Int), .int .u64 (f : Int), .int .i64 size] 53) = W := ⟨_, rfl⟩
  have hk1 : Keeps (fun _ => False) w W1 := by rw [← hW1]; exact (Keeps.refl _ w).alloc _
  have r1 : W1.heap[w.heap.size]? = some (.cells #[.int .i64 8, .string (mk s), .bool b, .int .i64 i, .int .u64 (u : Int), .int .u64 (f : Int), .int .i64 size] 53 (0, 0)) := by rw [← hW1]; exact heap_alloc_new w _
  have h1 := h.below hk1
  have HM := Lib.hid (startMessage_any B E v0 W1 k v l h1 hTB hl)
  have c0 := cell_row (j := 0) r1
  have c1 := cell_row (j := 1) r1
  have c2 := cell_row (j := 2) r1
  have c3 := cell_row (j := 3) r1
  have c4 := cell_row (j := 4) r1
  have c5 := cell_row (j := 5) r1
  have c6 := cell_row (j := 6) r1
  simp at c0 c1 c2 c3 c4 c5 c6
  have HW1 := Lib.hid hW1
  clear hW1 hk1 r1 h h1 hET
  go_enter Tryz.func18, Tryz.ntmps18
  go_upto_region 1 with (fail)
  rw [HW1.out]
  obtain ⟨K, hK⟩ : ∃ K, w.heap.size = K := ⟨_, rfl⟩
  rw [hK] at c0 c1 c2 c3 c4 c5 c6 ⊢
  clear hK HW1
  go_wp2_with (go_at_call 41; refine HM.out.mono ?_; rintro e w2 ⟨rfl, v2, h2⟩; have H2 := Lib.hid h2; clear h2)
  go_end0
  have h := H2.out
  simp only [List.append_assoc] at h ⊢
  exact ⟨rfl, _, h⟩
set_option maxRecDepth 1000000 in
set_option maxHeartbeats 20000000 in
theorem do_9 (PT : Nat → Nat × Nat) (s : List UInt8) (b : Bool) (i : Int) (u f : Nat) (size : Int)  : OpSay PT ⟨9, mk s, b, i, u, f, size⟩ 8 ([125]) := by
  intro B E v0 w k v l hET h hTB hl
  obtain ⟨W1, hW1⟩ : ∃ W, w.alloc (.cells #[.int .i64 9, .string (mk s), .bool b, .int .i64 i, .int .u64 (u : Int), .int .u64 (f : Int), .int .i64 size] 53) = W := ⟨_, rfl⟩
  have hk1 : Keeps (fun _ => False) w W1 := by rw [← hW1]; exact (Keeps.refl _ w).alloc _
  have r1 : W1.heap[w.heap.size]? = some (.cells #[.int .i64 9, .string (mk s), .bool b, .int .i64 i, .int .u64 (u : Int), .int .u64 (f : Int), .int .i64 size] 53 (0, 0)) := by rw [← hW1]; exact heap_alloc_new w _
  have h1 := h.below hk1
  have HM := Lib.hid (endMessage_any B E v0 W1 k v l h1 hTB hl)
  have c0 := cell_row (j := 0) r1
  have c1 := cell_row (j := 1) r1
  have c2 := cell_row (j := 2) r1
  have c3 := cell_row (j := 3) r1
  have c4 := cell_row (j := 4) r1
  have c5 := cell_row (j := 5) r1
  have c6 := cell_row (j := 6) r1
  simp at c0 c1 c2 c3 c4 c5 c6
  have HW1 := Lib.hid hW1
  clear hW1 hk1 r1 h h1 hET
  go_enter Tryz.func18, Tryz.ntmps18
  go_upto_region 1 with (fail)
  rw [HW1.out]
  obtain ⟨K, hK⟩ : ∃ K, w.heap.size = K := ⟨_, rfl⟩
  rw [hK] at c0 c1 c2 c3 c4 c5 c6 ⊢
  clear hK HW1
  go_wp2_with (go_at_call 42; refine HM.out.mono ?_; rintro e w2 ⟨rfl, v2, h2⟩; have H2 := Lib.hid h2; clear h2)
  go_end0
  have h := H2.out
  simp only [List.append_assoc] at h ⊢
  exact ⟨rfl, _, h⟩
end Go.Proofs.YtmijjppjodpagaaGreatDoor

namespace Go.Proofs.YtmijjppjodpagaaGreatDoor
open Go.RowKit
theorem delims_eq (w : World) : (Op.equalIn 10000 55 (.agg #[.int .u8 0, .int .u8 0]) (.agg #[.int .u8 0, .int .u8 0])).run Tryz.prog w = .ok true w := by
  kernel_rfl
set_option maxRecDepth 1000000 in
set_option maxHeartbeats 20000000 in
theorem newEncoder_any (w : World) (hTB : 14 ≤ w.heap.size) : Calls Tryz.prog 17 #[.slice none 0 0, .string ⟨#[]⟩, .agg #[.int .u8 0, .int .u8 0], .bool false] w fun e w' =>
    ∃ E, e = .returned (.tuple #[.pointer (some ⟨E, 0, none⟩), .nilIface]) ∧ w.heap.size ≤ E ∧ EOut w' E (.slice none 0 0) w' 0 (.slice none 0 0) [] ∧ Keeps (fun _ => False) w w' := by
  have heq := fun w => delims_eq w
  go_enter Tryz.func17, Tryz.ntmps17
  go_wp2_with (fail)
  go_ret2
  exact ⟨w.heap.size + 1, rfl, Nat.le_succ _, ⟨heap_alloc2_new w _ _, Own.nil _, Keeps.refl _ _, Moved.refl _ _, fun l0 h0 => ⟨h0, fun b e => by simp [Value.ownBlock] at e⟩, by simp [Value.ownBlock], by simp [Value.ownBlock], fun k hk => by simp [Value.ownBlock] at hk⟩, ((Keeps.refl _ w).alloc _).alloc _⟩
set_option maxRecDepth 1000000 in
theorem bytes_any (B : World) (E : Nat) (v0 : Value) (w : World) (k : Nat) (v : Value) (l : List UInt8) (h : EOut B E v0 w k v l) : Calls Tryz.prog 20 #[.pointer (some ⟨E, 0, none⟩)] w fun e w' => e = .returned v ∧ w' = w := by
  have c2 := cell_row (j := 2) h.row
  simp [erow] at c2
  clear h
  go_enter Tryz.func20, Tryz.ntmps20
  go_wp2_with (fail)
  go_ret
  exact ⟨rfl, rfl⟩
set_option maxRecDepth 1000000 in
theorem snapshot_any (B : World) (E : Nat) (v0 : Value) (w : World) (k : Nat) (v : Value) (l : List UInt8) (h : EOut B E v0 w k v l) : Calls Tryz.prog 21 #[.pointer (some ⟨E, 0, none⟩)] w fun e w' => e = .returned (.agg #[.int .u8 (k : Int), .slice none 0 0, v]) ∧ Keeps (fun _ => False) w w' := by
  obtain ⟨a, n, c, rfl⟩ := h.own.sform
  have c0 := cell_row (j := 0) h.row
  have c1 := cell_row (j := 1) h.row
  have c2 := cell_row (j := 2) h.row
  simp [erow] at c0 c1 c2
  have hE := h.elt
  clear h
  go_enter Tryz.func21, Tryz.ntmps21
  go_wp2_with (fail)
  refine bodyPost_ret (results_cell_row rfl _ _ w.heap.size _ _ (0, 0) _ rfl (heap_alloc_new w _) Tryz.underlying66 rfl (by kernel_rfl)) rfl ?_
  exact ⟨rfl, (Keeps.refl _ w).alloc _⟩
set_option maxRecDepth 1000000 in
theorem reset_any (E : Nat) (w : World) (x0 x1 x2 x3 x4 x5 x6 : Value) (hr : w.heap[E]? = some (.cells #[x0, x1, x2, x3, x4, x5, x6] 87 (0, 0))) (k : Nat) (a : Option Addr) (n c : Nat) : Calls Tryz.prog 22 #[.pointer (some ⟨E, 0, none⟩), .agg #[.int .u8 (k : Int), .slice none 0 0, .slice a n c]] w fun e w' => e = .returned (.tuple #[]) ∧ Keeps (fun j => j = E) w w' ∧ w'.heap[E]? = some (.cells #[.int .u8 (k : Int), .slice none 0 0, .slice a n c, x3, x4, x5, x6] 87 (0, 0)) := by
  have hE := row_lt hr
  have f0 := frozen_row (j := 0) hr
  have f1 := frozen_row (j := 1) hr
  have f2 := frozen_row (j := 2) hr
  have c0 := cell_row (j := 0) hr
  have c1 := cell_row (j := 1) hr
  have c2 := cell_row (j := 2) hr
  simp at c0 c1 c2
  have HR := Lib.hid hr
  clear hr
  go_enter Tryz.func22, Tryz.ntmps22
  go_wp2_with (fail)
  go_end0
  have HH := setCell_row (j := 2) (setCell_row (j := 1) (setCell_row (j := 0) HR.out (.int .u8 (k : Int))) (.slice none 0 0)) (.slice a n c)
  have hk : Keeps (fun j => j = E) w (((w.setCell ⟨E, 0, none⟩ (.int .u8 (k : Int))).setCell ⟨E, 1, none⟩ (.slice none 0 0)).setCell ⟨E, 2, none⟩ (.slice a n c)) := (((Keeps.refl (fun j => j = E) w).setCell ⟨E, 0, none⟩ (fun _ => rfl) _).setCell ⟨E, 1, none⟩ (fun _ => rfl) _).setCell ⟨E, 2, none⟩ (fun _ => rfl) _
  refine ⟨rfl, hk.alloc _, ?_⟩
  rw [((Keeps.refl (fun _ => False) _).alloc _).row HH id]
  rfl
end Go.Proofs.YtmijjppjodpagaaGreatDoor

namespace Go.Proofs.YtmijjppjodpagaaGreatDoor
open Go.RowKit
set_option maxRecDepth 1000000 in
theorem copied2_any (v : Value) (l : List UInt8) (w : World) (hv : BytesAt w v l) (hl : l.length ≤ 130000000000000) :
    Calls Tryz.prog 19 #[v] w fun e w' => ∃ V, e = .returned V ∧ BytesAt w' V l ∧ Keeps (fun _ => False) w w' := by
  have hown : Own (w.alloc (.cells #[] 5)) (.slice (some ⟨w.heap.size, 0, none⟩) 0 0) [] := .inr ⟨w.heap.size, 0, #[], rfl, heap_alloc_new w _, by simp, by simp, rfl, rfl⟩
  have hv' := hv.keeps ((Keeps.refl (fun _ => False) w).alloc (.cells #[] 5)) (fun _ _ => id)
  go_enter Tryz.func19, Tryz.ntmps19
  go_wp2_with (at_builtin; refine at_own_app rfl (.tmp 3) (.tmp 4) rfl hown rfl rfl hv' (by simp; omega) ?_; intro V w2 ho hk hm _)
  go_ret
  rw [List.nil_append] at ho
  refine ⟨V, rfl, ho.bytes, ((Keeps.refl (fun _ => False) w).alloc _).trans hk (fun i hi h => ?_)⟩
  simp [blk, Value.ownBlock] at h; omega
/-- v is a slice of operations. -/
def OpsAt (w : World) (v : Value) (ops : List OpV) : Prop := RowsAt w v 7 (ops.map opc)
theorem OpsAt.len {w : World} {v : Value} {ops : List OpV} (h : OpsAt w v ops) : ∃ a c, v = .slice a ops.length c ∧ ops.length ≤ c ∧ c ≤ maxLen := by
  obtain ⟨a, c, h0, h1, h2⟩ := RowsAt.form h
  rw [List.length_map] at h0 h1
  exact ⟨a, c, h0, h1, h2⟩
theorem OpsAt.cells {w : World} {a : Option Addr} {n c : Nat} {ops : List OpV} (h : OpsAt w (.slice a n c) ops) (h0 : ops ≠ []) : ∃ b off, a = some ⟨b, off, none⟩ ∧ ∀ j (hj : j < ops.length) (o : OpV), ops[j] = o →
    w.cell? ⟨b, off + j * 7, none⟩ = some (.int .i64 o.op) ∧ w.cell? ⟨b, off + j * 7 + 1, none⟩ = some (.string o.s) ∧ w.cell? ⟨b, off + j * 7 + 2, none⟩ = some (.bool o.b) ∧ w.cell? ⟨b, off + j * 7 + 3, none⟩ = some (.int .i64 o.i) ∧
    w.cell? ⟨b, off + j * 7 + 4, none⟩ = some (.int .u64 (o.u : Int)) ∧ w.cell? ⟨b, off + j * 7 + 5, none⟩ = some (.int .u64 (o.f : Int)) ∧ w.cell? ⟨b, off + j * 7 + 6, none⟩ = some (.int .i64 o.size) := by
  obtain ⟨b, off, rfl, hc⟩ := RowsAt.at h (by simpa using h0)
  refine ⟨b, off, rfl, fun j hj o ho => ?_⟩
  subst ho
  have hj' : j < (ops.map opc).length := by simpa using hj
  have g := fun i u hi hu => hc j hj' i u hi (by rw [List.getElem_map]; exact hu)
  exact ⟨g 0 _ (by omega) rfl, g 1 _ (by omega) rfl, g 2 _ (by omega) rfl, g 3 _ (by omega) rfl, g 4 _ (by omega) rfl, g 5 _ (by omega) rfl, g 6 _ (by omega) rfl⟩

/-- What a list of kinds and texts appends behind a thing of the kind k, and the kind that it leaves. -/
def emit : Nat → List (Nat × List UInt8) → List UInt8
  | _, [] => []
  | k, (nx, T) :: r => (sp k nx ++ T) ++ emit nx r
def kindOf : Nat → List (Nat × List UInt8) → Nat
  | k, [] => k
  | _, (nx, _) :: r => kindOf nx r
theorem emit_append : ∀ (k : Nat) (a b : List (Nat × List UInt8)), emit k (a ++ b) = emit k a ++ emit (kindOf k a) b
  | _, [], _ => rfl
  | k, (nx, T) :: r, b => by
    show (sp k nx ++ T) ++ emit nx (r ++ b) = ((sp k nx ++ T) ++ emit nx r) ++ emit (kindOf nx r) b
    rw [emit_append nx r b]
    simp only [List.append_assoc]
theorem kindOf_append : ∀ (k : Nat) (a b : List (Nat × List UInt8)), kindOf k (a ++ b) = kindOf (kindOf k a) b
  | _, [], _ => rfl
  | _, (nx, _) :: r, b => kindOf_append nx r b
theorem emit_len : ∀ (k : Nat) (a : List (Nat × List UInt8)), (∀ x ∈ a, x.2.length ≤ 20000000) → (emit k a).length ≤ a.length * 20000001
  | _, [], _ => by simp [emit]
  | k, (nx, T) :: r, h => by
    have h1 := emit_len nx r (fun x hx => h x (List.mem_cons_of_mem _ hx))
    have h2 := h (nx, T) List.mem_cons_self
    have h3 := sp_le k nx
    simp only at h2
    simp only [emit, List.length_append, List.length_cons]
    omega
theorem emit_take (k : Nat) (rs : List (Nat × List UInt8)) (j : Nat) (hj : j < rs.length) (nx : Nat) (T : List UInt8) (he : rs[j] = (nx, T)) : emit k (rs.take (j + 1)) = emit k (rs.take j) ++ (sp (kindOf k (rs.take j)) nx ++ T) ∧ kindOf k (rs.take (j + 1)) = nx := by
  rw [List.take_succ_eq_append_getElem hj, emit_append, kindOf_append, he]
  exact ⟨by simp [emit], rfl⟩
/-- Each operation says what it appends. -/
structure AllSay (PT : Nat → Nat × Nat) (ops : List OpV) (rs : List (Nat × List UInt8)) : Prop where
  len : ops.length = rs.length
  say : ∀ j (h : j < ops.length) (h' : j < rs.length), OpSay PT ops[j] (rs[j]).1 (rs[j]).2
  small : ∀ x ∈ rs, x.2.length ≤ 20000000
  few : rs.length ≤ 10000
theorem AllSay.bound {PT : Nat → Nat × Nat} {ops : List OpV} {rs : List (Nat × List UInt8)} (h : AllSay PT ops rs) (k j : Nat) : (emit k (rs.take j)).length ≤ 1000000000000 := by
  have h1 := emit_len k (rs.take j) (fun x hx => h.small x (List.mem_of_mem_take hx))
  have h2 := h.few
  rw [List.length_take] at h1
  have h3 : min j rs.length ≤ 10000 := by omega
  omega

set_option maxRecDepth 1000000 in
set_option maxHeartbeats 20000000 in
theorem textEncode_any (PT : Nat → Nat × Nat) (w : World) (v : Value) (ops : List OpV) (rs : List (Nat × List UInt8)) (hops : OpsAt w v ops) (hall : AllSay PT ops rs) (hT : Tabs w) (hF : FT2 PT w) :
    Calls Tryz.prog 7 #[v, .string ⟨#[]⟩, .bool false, .bool false] w fun e w' => ∃ V, e = .returned (.tuple #[V, .bool true]) ∧ BytesAt w' V (emit 0 rs) ∧ Keeps (fun _ => False) w w' := by
  obtain ⟨a, c, rfl, hca, hma⟩ := hops.len
  obtain ⟨n, hn⟩ : ∃ n, ops.length = n := ⟨_, rfl⟩
  rw [hn] at hca hops ⊢
  have hfew : n ≤ 10000 := by rw [← hn, hall.len]; exact hall.few
  have HN := Lib.hid hn
  have HOPS := Lib.hid hops
  have HALL := Lib.hid hall
  have HT := Lib.hid hT
  have HF := Lib.hid hF
  have HNE := Lib.hid (fun w => newEncoder_any w)
  clear hn hops hall hT hF hma
  go_enter Tryz.func7, Tryz.ntmps7
  go_wp2_with (go_at_call 17; refine (HNE.out _ (Nat.le_trans HT.out.size (by simp))).mono ?_; rintro e w1 ⟨E, rfl, hE, h1, k1⟩; have H1 := Lib.hid h1; have K1 : Hid (Keeps (fun _ => False) w w1) := ((Keeps.refl _ w).alloc _).trans k1 (fun _ _ h => h); have HE : Hid (w.heap.size ≤ E) := Nat.le_trans (by simp) hE; clear h1 k1 hE)
  have HET : Hid (ETab PT w1 E (.slice none 0 0)) := ⟨HT.out.keeps K1.out (fun _ _ => id), HF.out.keeps K1.out, fun k hk => by simp [Value.ownBlock] at hk, Nat.le_trans HT.out.size HE.out⟩
  have HTB1 : Hid (14 ≤ w1.heap.size) := Nat.le_trans HT.out.size K1.out.size
  go_loopw [28] (fun i wr => ∃ j : Nat, i = .int .i64 (j : Int) ∧ j ≤ n ∧ ∃ v', EOut w1 E (.slice none 0 0) wr (kindOf 0 (rs.take j)) v' (emit 0 (rs.take j))) (fun i _ => n - natOfV i)
  case atStart => exact ⟨0, rfl, Nat.zero_le _, _, H1.out⟩
  case round =>
    obtain ⟨j, rfl, hj, v', hev⟩ := hrel
    have HEV := Lib.hid hev
    clear hev
    by_cases hlt : j < n
    · have t1 : (j : Int) < (n : Int) := by omega
      have t0 : (0 : Int) ≤ (j : Int) := by omega
      have hwj : IntKind.i64.wrap ((j : Int) + 1) = ((j + 1 : Nat) : Int) := by rw [IntWalk.i64_in _ (by omega)]; rfl
      have hjl : j < ops.length := by rw [HN.out]; exact hlt
      have hjr : j < rs.length := by rw [← HALL.out.len]; exact hjl
      obtain ⟨b, off, rfl, hc⟩ := HOPS.out.cells (by intro e; rw [e] at hjl; simp at hjl)
      obtain ⟨o, ho⟩ : ∃ o, ops[j] = o := ⟨_, rfl⟩
      obtain ⟨R, hR⟩ : ∃ R, rs[j] = R := ⟨_, rfl⟩
      obtain ⟨nx, T⟩ := R
      have hsay := HALL.out.say j hjl hjr
      rw [ho, hR] at hsay
      have hsay : OpSay PT o nx T := hsay
      obtain ⟨d0, d1, d2, d3, d4, d5, d6⟩ := hc j hjl o ho
      have hbw : b < w.heap.size := World.block_lt_of_cell? w _ d0
      have hkk : Keeps (fun i => i = E) w wr := (K1.out.mono (fun _ _ h => h.elim)).trans HEV.out.keeps (fun i hi h => by
        rcases h with h | h
        · simp [blk, Value.ownBlock] at h
        · exact h)
      have hbE : ¬ b = E := fun e => by have := HE.out; omega
      have d0 := hkk.cell d0 hbE
      have d1 := hkk.cell d1 hbE
      have d2 := hkk.cell d2 hbE
      have d3 := hkk.cell d3 hbE
      have d4 := hkk.cell d4 hbE
      have d5 := hkk.cell d5 hbE
      have d6 := hkk.cell d6 hbE
      have HSAY := Lib.hid hsay
      have HR := Lib.hid hR
      have hle := HALL.out.bound 0 j
      have HLE := Lib.hid hle
      obtain ⟨op, s, bb, i, u, g, sz⟩ := o
      simp only at d0 d1 d2 d3 d4 d5 d6
      clear hc ho hR hsay hkk hbw hle
      go_upto_region 10 with (fail)
      obtain ⟨W5, hW5⟩ : ∃ W, (wr.alloc (.cells #[.int .i64 op, .string s, .bool bb, .int .i64 i, .int .u64 (u : Int), .int .u64 (g : Int), .int .i64 sz] 53)) = W := ⟨_, rfl⟩
      have hK5 : Keeps (fun _ => False) wr W5 := by rw [← hW5]; exact (Keeps.refl _ wr).alloc _
      have hp5 : W5.heap[wr.heap.size]? = some (.cells #[.int .i64 op, .string s, .bool bb, .int .i64 i, .int .u64 (u : Int), .int .u64 (g : Int), .int .i64 sz] 53 (0, 0)) := by rw [← hW5]; exact heap_alloc_new wr _
      rw [hW5]
      obtain ⟨KV, hKV⟩ : ∃ KV, wr.heap.size = KV := ⟨_, rfl⟩
      rw [hKV] at hp5 ⊢
      have hcall := HSAY.out w1 E (.slice none 0 0) W5 _ _ _ HET.out (HEV.out.below hK5) HTB1.out (by have := HLE.out; omega)
      have HCALL := Lib.hid hcall
      have p0 := cell_row (j := 0) hp5
      have p1 := cell_row (j := 1) hp5
      have p2 := cell_row (j := 2) hp5
      have p3 := cell_row (j := 3) hp5
      have p4 := cell_row (j := 4) hp5
      have p5 := cell_row (j := 5) hp5
      have p6 := cell_row (j := 6) hp5
      simp at p0 p1 p2 p3 p4 p5 p6
      clear hW5 hK5 hp5 hKV hcall d0 d1 d2 d3 d4 d5 d6
      go_wp2_with (go_at_call 18; refine HCALL.out.mono ?_; rintro e w6 ⟨rfl, v6, h6⟩; have H6 := Lib.hid h6; clear h6)
      go_roundw
      case rel =>
        have h := emit_take 0 rs j hjr nx T HR.out
        refine ⟨j + 1, rfl, by omega, v6, ?_⟩
        rw [h.1, h.2]
        exact H6.out
      case measure => simp [natOfV]; omega
    · have t1 : ¬ (j : Int) < (n : Int) := by omega
      have hjn : j = rs.length := by rw [← HALL.out.len, HN.out]; omega
      have hle := HALL.out.bound 0 j
      rw [hjn, List.take_length] at HEV hle
      have HLE := Lib.hid hle
      have HBY := Lib.hid (bytes_any _ _ _ _ _ _ _ HEV.out)
      have HCP := Lib.hid (copied2_any v' (emit 0 rs) wr HEV.out.own.bytes (by have := HLE.out; omega))
      have hkk : Keeps (fun i => w.heap.size ≤ i) w wr := (K1.out.mono (fun _ _ h => h.elim)).trans HEV.out.keeps (fun i hi h => by
        rcases h with h | h
        · simp [blk, Value.ownBlock] at h
        · have := HE.out; omega)
      have HKK : Hid (Keeps (fun _ => False) w wr) := hkk.mono (fun i hi h => by omega)
      clear hle hkk
      go_wp2_with (first
        | (go_at_call 20; refine HBY.out.mono ?_; rintro e w' ⟨rfl, hww⟩; obtain rfl := hww.symm)
        | (go_at_call 19; refine HCP.out.mono ?_; rintro e w7 ⟨V, rfl, hb7, hk7⟩; have B7 := Lib.hid hb7; have K7 := Lib.hid hk7; clear hb7 hk7))
      go_ret2
      exact ⟨V, rfl, B7.out, HKK.out.trans K7.out (fun _ _ h => h)⟩
end Go.Proofs.YtmijjppjodpagaaGreatDoor
