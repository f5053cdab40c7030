/-
  TextScalar of the thin package, at a quoted string and a line's end.
-/
import Derived.Test.YtdckklmhnhbpiaaGreatDoorAImpl
import Derived.Test.YtdckklmhnhbpiaaGreatDoorAVals
namespace Go.Proofs.YtdckklmhnhbpiaaGreatDoor
open Go.RowKit

theorem scalar_bytes (l : List UInt8) : [97, 58, 32] ++ (quote false l ++ [10]) = [97] ++ 58 :: (32 :: (quote false l ++ [10])) := rfl

theorem results_cell_2 {fn : Func} {p q r : Tmp} {ty : TypeId} (h : fn.results = #[.cell p ty, .tmp q, .tmp r]) (tmps : Array Value) (w : World) (g : Nat) (hp : tmps.getD p undef = .pointer (some ⟨g, 0, none⟩)) {v : Value}
    (hv : (loadVar ty ⟨g, 0, none⟩).run Tryz.prog w = .ok v w) : (results fn tmps).run Tryz.prog w = .ok (.tuple #[v, tmps.getD q undef, tmps.getD r undef]) w := by
  have hp' : tmps[p]?.getD undef = .pointer (some ⟨g, 0, none⟩) := by simpa using hp
  simp [results, h, hp', asAddr, hv]

theorem tok_rawK (k a na pos : Int) (ar : Option Addr) (n c : Nat) (s : ByteArray) (w : World) (rw : List UInt8) (hraw : BytesAt w (.slice ar n c) rw) :
    Calls Tryz.prog 19 #[.agg #[.int .u8 k, .int .u8 a, .int .u8 na, .int .i64 pos, .slice ar n c, .string s]] w fun e w' => e = .returned (.string (mk rw)) ∧ Keeps (fun _ => False) w w' :=
  (tok_raw k a na pos ar n c s w rw hraw).mono fun _ _ h => ⟨h.1, by rw [h.2]; exact (Keeps.refl _ w).alloc _⟩
theorem keeps_freeze (w : World) (p : Addr) (n : Nat) : Keeps (fun j => j = p.block) w (w.freeze p n) := by
  unfold World.freeze
  split
  · exact Keeps.refl _ _
  · refine ⟨rfl, rfl, rfl, by simp, fun k hk hne => ?_⟩
    simp only [Array.getElem?_modify]
    rw [if_neg (fun e => hne e.symm)]
theorem row_freeze {w : World} {g : Nat} {cs : Array Value} {T : TypeId} {fr : Nat × Nat} (h : w.heap[g]? = some (.cells cs T fr)) (o n : Nat) : ∃ fr', (w.freeze ⟨g, o, none⟩ n).heap[g]? = some (.cells cs T fr') := by
  unfold World.freeze
  split
  · exact ⟨fr, h⟩
  · obtain ⟨lo, hi⟩ := fr
    simp only [Array.getElem?_modify, if_true, h, Option.map_some]
    exact ⟨_, rfl⟩
/-- Eighteen cells may be written. -/
def There18 (w : World) (K : Nat) : Prop := w.there K 0 18
theorem there18_of_row {w : World} {K : Nat} {cur : Array Value} {T : TypeId} (h : w.heap[K]? = some (.cells cur T (0, 0))) (hs : cur.size = 18) : There18 w K := fun j hj => ⟨by rw [cell_row h]; simp; omega, frozen_row h⟩
/-- The world behind the store of a quoted string's values. -/
def st18 (w : World) (K : Nat) (s : ByteArray) : World := w.setCells K 0 [.bool false, .bool false, .int .i64 0, .bool false, .int .i32 0, .bool false, .int .u64 0, .bool false, .int .u32 0, .bool false, .int .u64 0, .bool false, .int .u64 0, .bool false, .string ⟨#[]⟩, .bool false, .string s, .bool true]
theorem run_vals_store {w : World} {K : Nat} {s : ByteArray} (h : There18 w K) : (storeVar 35 ⟨K, 0, none⟩ (.agg #[.bool false, .bool false, .int .i64 0, .bool false, .int .i32 0, .bool false, .int .u64 0, .bool false, .int .u32 0, .bool false, .int .u64 0, .bool false, .int .u64 0, .bool false, .string ⟨#[]⟩, .bool false, .string s, .bool true])).run Tryz.prog w = .ok () (st18 w K s) :=
  run_storeVar_mid w K 0 35 #[.bool false, .bool false, .int .i64 0, .bool false, .int .i32 0, .bool false, .int .u64 0, .bool false, .int .u32 0, .bool false, .int .u64 0, .bool false, .int .u64 0, .bool false, .string ⟨#[]⟩, .bool false, .string s, .bool true] h (by kernel_rfl) (by simp [Value.oneCell'])
theorem st18_keeps (w : World) (K : Nat) (s : ByteArray) : Keeps (fun j => j = K) w (st18 w K s) := setCells_keeps K _ 0 w
theorem st18_row {w : World} {K : Nat} {cur : Array Value} {T : TypeId} {fr : Nat × Nat} (h : w.heap[K]? = some (.cells cur T fr)) (hs : cur.size = 18) (s : ByteArray) : (st18 w K s).heap[K]? = some (.cells #[.bool false, .bool false, .int .i64 0, .bool false, .int .i32 0, .bool false, .int .u64 0, .bool false, .int .u32 0, .bool false, .int .u64 0, .bool false, .int .u64 0, .bool false, .string ⟨#[]⟩, .bool false, .string s, .bool true] T fr) :=
  (setCells_from K _ 0 w cur h (by simp [hs])).trans (by simp)
/-- The block that a pointer to a row's head names. -/
def ptrBlock : Value → Option Nat
  | .pointer (some ⟨b, 0, none⟩) => some b
  | _ => none
/-- The string of a quoted string's values. -/
def valsStr : Value → Option ByteArray
  | .agg ⟨[.bool false, .bool false, .int .i64 0, .bool false, .int .i32 0, .bool false, .int .u64 0, .bool false, .int .u32 0, .bool false, .int .u64 0, .bool false, .int .u64 0, .bool false, .string ⟨⟨[]⟩⟩, .bool false, .string s, .bool true]⟩ => some s
  | _ => none
theorem ptrBlock_eq (b : Nat) : ptrBlock (.pointer (some ⟨b, 0, none⟩)) = some b := rfl
theorem valsStr_eq (s : ByteArray) : valsStr (.agg #[.bool false, .bool false, .int .i64 0, .bool false, .int .i32 0, .bool false, .int .u64 0, .bool false, .int .u32 0, .bool false, .int .u64 0, .bool false, .int .u64 0, .bool false, .string ⟨#[]⟩, .bool false, .string s, .bool true]) = some s := rfl
theorem ptrBlock_inv {x : Value} {b : Nat} (h : ptrBlock x = some b) : x = .pointer (some ⟨b, 0, none⟩) := by
  unfold ptrBlock at h
  split at h
  · cases h; rfl
  · cases h
theorem valsStr_inv {x : Value} {s : ByteArray} (h : valsStr x = some s) : x = .agg #[.bool false, .bool false, .int .i64 0, .bool false, .int .i32 0, .bool false, .int .u64 0, .bool false, .int .u32 0, .bool false, .int .u64 0, .bool false, .int .u64 0, .bool false, .string ⟨#[]⟩, .bool false, .string s, .bool true] := by
  unfold valsStr at h
  split at h
  · cases h; rfl
  · cases h
theorem run_vals_at {w : World} {x y : Value} (hx : (ptrBlock x).isSome = true) (hy : (valsStr y).isSome = true) (h : There18 w ((ptrBlock x).getD 0)) :
    (Instr.storeAt 35 x y).run Tryz.prog w = .ok () (st18 w ((ptrBlock x).getD 0) ((valsStr y).getD ⟨#[]⟩)) := by
  obtain ⟨b, hb⟩ := Option.isSome_iff_exists.1 hx
  obtain ⟨s, hs⟩ := Option.isSome_iff_exists.1 hy
  obtain rfl := ptrBlock_inv hb
  obtain rfl := valsStr_inv hs
  rw [hb] at h ⊢
  rw [hs]
  simp only [Instr.storeAt, Instr.sureAddr, Sem.run_bind, Sem.run_pure, Result.andThen_ok]
  exact run_vals_store h
theorem wp_vals {d : Option Tmp} {t : TypeId} {ps : String} {af : Array Edge} {g : Option (Nat × Bool)} {p v : Operand} {a : Act} {w : World} {K : Act → World → Prop} {Q : Exit → Act → World → Prop}
    (hx : (ptrBlock (a.eval p)).isSome = true) (hy : (valsStr (a.eval v)).isSome = true) (h : There18 w ((ptrBlock (a.eval p)).getD 0)) :
    Oper.wp Tryz.prog ⟨d, .store 35 p v, t, ps, af, g⟩ a w K Q = K (a.put d undef) (st18 w ((ptrBlock (a.eval p)).getD 0) ((valsStr (a.eval v)).getD ⟨#[]⟩)) := by
  unfold Oper.wp execOp
  simp only [run_vals_at hx hy h, Sem.run_bind, Sem.run_pure, Result.andThen_ok]
  rfl
attribute [local go_sem ↓] wp_vals
attribute [local go_sem] ptrBlock_eq valsStr_eq

/-- A conversion from bytes to bytes: the row may be marked as a string's. -/
theorem conv_mark (g n c : Nat) (cs : Array Value) (T : TypeId) (w : World) (hrow : w.heap[g]? = some (.cells cs T (0, 0))) :
    ∃ w' fr, (convert 24 24 (.slice (some ⟨g, 0, none⟩) n c)).run Tryz.prog w = .ok (.slice (some ⟨g, 0, none⟩) n c) w' ∧ w'.heap[g]? = some (.cells cs T fr) ∧ Keeps (fun j => j = g) w w' := by
  unfold convert
  simp [run_underlying Tryz.underlying24, run_underlying Tryz.underlying5, markStringish, Sem.run_bind]
  split
  · obtain ⟨⟨lo, hi⟩, h⟩ := row_freeze hrow _ 1
    exact ⟨_, rfl, ⟨_, _, h⟩, keeps_freeze w ⟨g, _, none⟩ 1⟩
  · exact ⟨_, rfl, ⟨_, _, hrow⟩, Keeps.refl _ _⟩

set_option maxRecDepth 1000000 in
set_option maxHeartbeats 20000000 in
theorem textScalar_str (v : Value) (l : List UInt8) (w : World) (hv : BytesAt w v (quote false l ++ [10])) (hT : Tabs w) (hl : l.length ≤ 1000000) (hq : (quote false l).length ≤ 100000000) :
    Calls Tryz.prog 9 #[v] w fun e w' => ∃ s, e = .returned (.tuple #[.agg #[.bool false, .bool false, .int .i64 0, .bool false, .int .i32 0, .bool false, .int .u64 0, .bool false, .int .u32 0, .bool false, .int .u64 0, .bool false, .int .u64 0, .bool false, .string ⟨#[]⟩, .bool false, .string (mk l), .bool true], .string s, .bool true]) ∧ Keeps (fun _ => False) w w' := by
  obtain ⟨av, cv, hvf, _, _⟩ := hv.form
  obtain ⟨m, hm0⟩ : ∃ m, (quote false l ++ [10]).length = m := ⟨_, rfl⟩
  rw [hm0] at hvf
  subst hvf
  have HM0 := Lib.hid hm0
  clear hm0
  obtain ⟨W1, hW1⟩ : ∃ W, (w.alloc (.cells #[.bool false, .bool false, .int .i64 0, .bool false, .int .i32 0, .bool false, .int .u64 0, .bool false, .int .u32 0, .bool false, .int .u64 0, .bool false, .int .u64 0, .bool false, .string ⟨#[]⟩, .bool false, .string ⟨#[]⟩, .bool false] 35)).alloc (.cells #[.int .u8 97, .int .u8 58, .int .u8 32] 5) = W := ⟨_, rfl⟩
  have hk1 : Keeps (fun _ => False) w W1 := by rw [← hW1]; exact ((Keeps.refl _ w).alloc _).alloc _
  have hR1 : W1.heap[w.heap.size]? = some (.cells #[.bool false, .bool false, .int .i64 0, .bool false, .int .i32 0, .bool false, .int .u64 0, .bool false, .int .u32 0, .bool false, .int .u64 0, .bool false, .int .u64 0, .bool false, .string ⟨#[]⟩, .bool false, .string ⟨#[]⟩, .bool false] 35 (0, 0)) := by rw [← hW1]; exact heap_alloc2_old w _ _
  have hg1 : W1.heap[w.heap.size + 1]? = some (.cells #[.int .u8 97, .int .u8 58, .int .u8 32] 5 (0, 0)) := by rw [← hW1]; exact heap_alloc2_new w _ _
  have hs1 : W1.heap.size = w.heap.size + 2 := by rw [← hW1]; simp
  obtain ⟨W2, fr, hcv, hg2, hkf⟩ := conv_mark (w.heap.size + 1) 3 3 _ _ W1 hg1
  have hk2 : Keeps (fun _ => False) w W2 := hk1.trans hkf (fun i hi h => by omega)
  have hR2 := hkf.row hR1 (by omega)
  have hs2 : w.heap.size + 2 ≤ W2.heap.size := by have := hkf.size; omega
  have hb2 : BytesAt W2 (.slice (some ⟨w.heap.size + 1, 0, none⟩) 3 3) [97, 58, 32] := by
    refine ⟨_, _, rfl, by simp, by simp [maxLen], .inr ⟨_, 0, rfl, fun j hj => ?_⟩⟩
    rw [cell_row hg2]
    match j, hj with
    | 0, _ => rfl
    | 1, _ => rfl
    | 2, _ => rfl
  have hv2 := hv.keeps hk2 (fun _ _ => id)
  have hT2 := hT.keeps hk2 (fun _ _ => id)
  obtain ⟨M, hM⟩ : ∃ M, (([97, 58, 32] : List UInt8) ++ (quote false l ++ [10])).length = M := ⟨_, rfl⟩
  have HMM := Lib.hid hM
  have HML : Hid ((([97, 58, 32] : List UInt8) ++ (quote false l ++ [10])).length ≤ 1000000000) := by show _ ≤ _; simp; omega
  clear hM
  have HNE : Hid (quote false l ++ [10] ≠ []) := by show _ ≠ _; simp
  have HLEN : Hid (([97, 58, 32] : List UInt8).length + (quote false l ++ [10]).length ≤ 140737488355328) := by show _ ≤ _; simp; omega
  have HS2 := Lib.hid hs2
  have HV2 := Lib.hid hv2
  have HB2 := Lib.hid hb2
  have HR2 := Lib.hid hR2
  have HT2 := Lib.hid hT2
  clear hs1 hs2 hv2 hb2 hR1 hR2 hg1 hg2 hkf hk1 hT2 hv
  go_enter Tryz.func9, Tryz.ntmps9
  go_upto_region 2 with (first
    | (at_builtin; refine at_full_app (l := [97, 58, 32]) (r := quote false l ++ [10]) rfl (.tmp 11) (.tmp 12) rfl HB2.out rfl rfl rfl HV2.out HNE.out HLEN.out ?_; intro V w2 ho hk3 hm; obtain ⟨aV, cV, hVf, _, _⟩ := ho.form; rw [HMM.out] at hVf; subst hVf; have HO := Lib.hid ho; have HM := Lib.hid hm; have HK3 := Lib.hid hk3; clear ho hm hk3)
    | (go_at_call 14; refine (newDecoder_dec w2 aV M cV _ HO.out.bytes HML.out (HT2.out.keeps HK3.out (fun _ _ => id)) (fun j hj => HO.out.lt j hj)).mono ?_; rintro e w3 ⟨rfl, hk4, _, hd⟩))
  have hkw3 : Keeps (fun _ => False) w w3 := (hk2.trans HK3.out (fun _ _ => id)).trans hk4 (fun _ _ => id)
  have hR3 := (HK3.out.trans hk4 (fun _ _ => id)).row HR2.out id
  have hsk1 : skip (32 :: (quote false l ++ [10])) = quote false l ++ [10] := quote_skip l [10]
  have hsk2 : skip [10] = [] := rfl
  have hr1 := read_name w2.heap.size w3.heap.size 0 w3 [97] (32 :: (quote false l ++ [10])) (.inl rfl) hd (by simp) (by intro c hc; simp at hc; subst hc; exact .inr (.inl (by decide))) (by simp) (by rw [hsk1]; intro r hr; cases hr)
  rw [hsk1] at hr1
  go_upto_region 3 with (go_at_call 16; refine hr1.mono ?_; rintro e w4 ⟨raw1, pos1, rfl, hraw1, _, _, hk5, hd4⟩; obtain ⟨a1, c1, hf1, _, _⟩ := hraw1.form; subst hf1)
  clear hr1 hd
  have hr2 := fun o => read_str w2.heap.size w3.heap.size (w4.alloc o) l [10] (hd4.keeps ((Keeps.refl (fun j => w3.heap.size ≤ j) w4).alloc o)) hl (by rw [hsk2]; intro r hr; cases hr) (by rw [hsk2]; intro c r hr; cases hr)
  rw [hsk2] at hr2
  obtain ⟨RW, hRW⟩ : ∃ RW, (quote false l ++ [10]).take ((quote false l ++ [10]).length - ([] : List UInt8).length) = RW := ⟨_, rfl⟩
  rw [hRW] at hr2
  clear hRW
  go_upto_region 6 with (go_at_call 16; refine (hr2 _).mono ?_; rintro e w5 ⟨raw2, pos2, rfl, hraw2, hrb2, hrD2, hk6, hd5⟩; obtain ⟨a2, c2, hf2, _, _⟩ := hraw2.form; subst hf2)
  clear hr2
  go_upto_region 8 with (go_at_call 17; refine (tok_kind _ _ _ _ _ _ _ _ _).mono ?_; rintro e w' ⟨rfl, rfl⟩)
  have hr3 := fun o o2 => read_eof w2.heap.size w3.heap.size 3 ((w5.alloc o).alloc o2) (.inr rfl) (hd5.keeps (((Keeps.refl (fun j => w3.heap.size ≤ j) w5).alloc o).alloc o2))
  go_upto_region 9 with (go_at_call 16; refine (hr3 _ _).mono ?_; rintro e w6 ⟨raw3, pos3, rfl, hraw3, _, _, hk7, hd6⟩; obtain ⟨a3, c3, hf3, _, _⟩ := hraw3.form; subst hf3)
  clear hr3
  go_upto_region 11 with (go_at_call 17; refine (tok_kind _ _ _ _ _ _ _ _ _).mono ?_; rintro e w' ⟨rfl, rfl⟩)
  have hsz3 := hkw3.size
  have hs23 : w.heap.size + 2 ≤ w2.heap.size := by have h1 := HK3.out.size; have h2 := HS2.out; omega
  have hs5 : w3.heap.size ≤ w5.heap.size := by have h1 := hk5.size; have h2 := hk6.size; simp at h2; omega
  have h3D : w2.heap.size < w3.heap.size := by obtain ⟨_, _, _, _, _, _, _, _, _, _, _, _, _, _, _, _, _, _, h, _⟩ := hd5; exact h
  have hK6 := hk7.row (heap_alloc2_old w5 _ _) (by omega)
  have hk46 : Keeps (fun j => j = w2.heap.size) w3 w6 := ((hk5.alloc _).trans hk6 (fun _ _ h => h)).trans (((Keeps.refl (fun j => j = w2.heap.size) w5).alloc _).alloc _ |>.trans hk7 (fun _ _ h => h)) (fun _ _ h => h)
  have hR6 := hk46.row hR3 (by omega)
  have hraw6 := hraw2.keeps (((Keeps.refl (fun j => j = w2.heap.size) w5).alloc _).alloc _ |>.trans hk7 (fun _ _ h => h)) (fun j hj e => by subst e; exact hrD2 hj)
  have hkw6 : Keeps (fun _ => False) w w6 := hkw3.trans hk46 (fun i hi h => by omega)
  obtain ⟨W, hW⟩ : ∃ W, ((w6.alloc (.cells #[.int .u8 1, .int .u8 0, .int .u8 0, .int .i64 pos3, .slice a3 ([] : List UInt8).length c3, .string ⟨#[]⟩] 53)).alloc (.cells #[.int .u8 1, .int .u8 0, .int .u8 0, .int .i64 pos3, .slice a3 ([] : List UInt8).length c3, .string ⟨#[]⟩] 53)) = W := ⟨_, rfl⟩
  have h6W : Keeps (fun _ => False) w6 W := by rw [← hW]; exact ((Keeps.refl _ w6).alloc _).alloc _
  simp only [List.length_nil] at hW
  rw [hW]
  clear hW
  have hKW := h6W.row hK6 id
  have hRW := h6W.row hR6 id
  have hrW := hraw6.keeps h6W (fun _ _ => id)
  have hkwW := hkw6.trans h6W (fun _ _ => id)
  have hKR : w5.heap.size ≠ w.heap.size := by omega
  have HS : Hid (∀ w', Keeps (fun _ => False) W w' → w'.cell? ⟨w5.heap.size, 0, none⟩ = some (.int .u8 3) ∧ w'.cell? ⟨w5.heap.size, 1, none⟩ = some (.int .u8 2) ∧ w'.cell? ⟨w5.heap.size, 2, none⟩ = some (.int .u8 0) ∧ w'.cell? ⟨w5.heap.size, 3, none⟩ = some (.int .i64 pos2) ∧ w'.cell? ⟨w5.heap.size, 4, none⟩ = some (.slice a2 RW.length c2) ∧ w'.cell? ⟨w5.heap.size, 5, none⟩ = some (.string (mk l))) := fun w' hk => ⟨(cell_row (hk.row hKW id)).trans rfl, (cell_row (hk.row hKW id)).trans rfl, (cell_row (hk.row hKW id)).trans rfl, (cell_row (hk.row hKW id)).trans rfl, (cell_row (hk.row hKW id)).trans rfl, (cell_row (hk.row hKW id)).trans rfl⟩
  have HS2 : Hid (∀ w0, Keeps (fun _ => False) W w0 → (st18 w0 w.heap.size (mk l)).cell? ⟨w5.heap.size, 0, none⟩ = some (.int .u8 3) ∧ (st18 w0 w.heap.size (mk l)).cell? ⟨w5.heap.size, 1, none⟩ = some (.int .u8 2) ∧ (st18 w0 w.heap.size (mk l)).cell? ⟨w5.heap.size, 2, none⟩ = some (.int .u8 0) ∧ (st18 w0 w.heap.size (mk l)).cell? ⟨w5.heap.size, 3, none⟩ = some (.int .i64 pos2) ∧ (st18 w0 w.heap.size (mk l)).cell? ⟨w5.heap.size, 4, none⟩ = some (.slice a2 RW.length c2) ∧ (st18 w0 w.heap.size (mk l)).cell? ⟨w5.heap.size, 5, none⟩ = some (.string (mk l))) := fun w0 hk => ⟨(st18_keeps w0 w.heap.size (mk l)).cell ((cell_row (hk.row hKW id)).trans rfl) hKR, (st18_keeps w0 w.heap.size (mk l)).cell ((cell_row (hk.row hKW id)).trans rfl) hKR, (st18_keeps w0 w.heap.size (mk l)).cell ((cell_row (hk.row hKW id)).trans rfl) hKR, (st18_keeps w0 w.heap.size (mk l)).cell ((cell_row (hk.row hKW id)).trans rfl) hKR, (st18_keeps w0 w.heap.size (mk l)).cell ((cell_row (hk.row hKW id)).trans rfl) hKR, (st18_keeps w0 w.heap.size (mk l)).cell ((cell_row (hk.row hKW id)).trans rfl) hKR⟩
  have HRW := Lib.hid hRW
  have HrW := Lib.hid hrW
  have HkwW := Lib.hid hkwW
  have HKW := Lib.hid hKW
  clear hKW hRW hrW hkwW hkw6 hraw6 hR6 hK6 hk46 h6W hd4 hd5 hd6 hk5 hk6 hk7 hR3 hkw3 hraw1 hraw2 hraw3
  go_region_held3 (fun w' => w'.cell? ⟨w5.heap.size, 0, none⟩ = some (.int .u8 3) ∧ w'.cell? ⟨w5.heap.size, 1, none⟩ = some (.int .u8 2) ∧ w'.cell? ⟨w5.heap.size, 2, none⟩ = some (.int .u8 0) ∧ w'.cell? ⟨w5.heap.size, 3, none⟩ = some (.int .i64 pos2) ∧ w'.cell? ⟨w5.heap.size, 4, none⟩ = some (.slice a2 RW.length c2) ∧ w'.cell? ⟨w5.heap.size, 5, none⟩ = some (.string (mk l)))
    (first | (with_reducible exact HS2.out wr hkr') | (with_reducible exact HS.out _ ((Keeps.refl _ W).drew)) | (with_reducible exact HS.out _ hkv') | (with_reducible exact HS.out _ hkr'))
    (first
      | (go_at_call 18; refine (values_str _ _ _ _ _ _).mono ?_; rintro e wv ⟨rfl, hkv⟩; have hkv' := ((Keeps.refl (fun _ => False) W).drew).trans hkv (fun _ _ => id); clear hkv)
      | (go_at_call 19; refine (tok_rawK _ _ _ _ _ _ _ _ wv RW (HrW.out.keeps hkv' (fun _ _ => id))).mono ?_; rintro e wr ⟨rfl, hkr⟩; have hkr' := hkv'.trans hkr (fun _ _ => id); have h18 : There18 wr w.heap.size := there18_of_row (hkr'.row HRW.out id) rfl))
  have hf18 := st18_row (hkr'.row HRW.out id) rfl (mk l)
  have hfk : Keeps (fun _ => False) w (st18 wr w.heap.size (mk l)) := ((HkwW.out.trans hkr' (fun _ _ => id)).trans (st18_keeps wr w.heap.size (mk l)) (fun i hi h => by omega))
  clear hkv' hkr' h18
  obtain ⟨Wf, hWf⟩ : ∃ Wf, st18 wr w.heap.size (mk l) = Wf := ⟨_, rfl⟩
  rw [hWf] at hf18 hfk
  simp only [hWf]
  go_simp
  go_wp2
  refine bodyPost_ret (results_cell_2 rfl _ _ w.heap.size rfl (run_loadVar_row _ _ _ _ _ (0, 0) _ hf18 Tryz.underlying35 rfl (by kernel_rfl))) rfl ?_
  exact ⟨_, rfl, hfk⟩
end Go.Proofs.YtdckklmhnhbpiaaGreatDoor
