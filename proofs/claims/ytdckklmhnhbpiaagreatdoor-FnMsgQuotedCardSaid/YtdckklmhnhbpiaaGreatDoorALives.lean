/-
  JsonTokens at '[1]', and lives: it answers true.
-/
import Derived.Test.YtdckklmhnhbpiaaGreatDoorAJImpl
namespace Go.Proofs.YtdckklmhnhbpiaaGreatDoor
open Go.RowKit

set_option maxRecDepth 1000000 in
theorem jnewDecoder (a : Option Addr) (n c : Nat) (w : World) :
    Calls Tryz.prog 38 #[.slice a n c] w fun e w' => e = .returned (.pointer (some ⟨w.heap.size, 0, none⟩)) ∧ w' = w.alloc (.cells (jRow (.int .u16 0) (.int .i64 0) (.slice none 0 0) (.bool false) (.string ⟨#[]⟩) (.slice none 0 0) (.slice a n c) (.slice a n c)) 138) := by
  go_enter Tryz.func38, Tryz.ntmps38
  go_wp2
  go_ret
  exact ⟨rfl, rfl⟩

theorem jdec_new (w : World) (a : Option Addr) (n c : Nat) (X : List UInt8) (hv : BytesAt w (.slice a n c) X) (hb : ∀ j, (Value.slice a n c).ownBlock = some j → j < w.heap.size) :
    JDec w.heap.size (w.alloc (.cells (jRow (.int .u16 0) (.int .i64 0) (.slice none 0 0) (.bool false) (.string ⟨#[]⟩) (.slice none 0 0) (.slice a n c) (.slice a n c)) 138)).heap.size (w.alloc (.cells (jRow (.int .u16 0) (.int .i64 0) (.slice none 0 0) (.bool false) (.string ⟨#[]⟩) (.slice none 0 0) (.slice a n c) (.slice a n c)) 138)) 0 (.slice none 0 0) X := by
  have hb2 := hv.keeps ((Keeps.refl (fun _ => False) w).alloc (.cells (jRow (.int .u16 0) (.int .i64 0) (.slice none 0 0) (.bool false) (.string ⟨#[]⟩) (.slice none 0 0) (.slice a n c) (.slice a n c)) 138)) (fun _ _ => id)
  have hs : (w.alloc (.cells (jRow (.int .u16 0) (.int .i64 0) (.slice none 0 0) (.bool false) (.string ⟨#[]⟩) (.slice none 0 0) (.slice a n c) (.slice a n c)) 138)).heap.size = w.heap.size + 1 := by simp
  rw [hs]
  exact ⟨_, _, _, _, .slice a n c, .slice a n c, X, heap_alloc_new w _, hb2, hb2, fun e => by have := hb _ e; omega, fun e => by have := hb _ e; omega, fun j hj => by have := hb j hj; omega, fun j hj => by have := hb j hj; omega, by omega, by rw [hs]; exact Nat.le_refl _⟩

theorem jnewDecoder_dec (w : World) (a : Option Addr) (n c : Nat) (X : List UInt8) (hv : BytesAt w (.slice a n c) X) (hb : ∀ j, (Value.slice a n c).ownBlock = some j → j < w.heap.size) :
    Calls Tryz.prog 38 #[.slice a n c] w fun e w' => e = .returned (.pointer (some ⟨w.heap.size, 0, none⟩)) ∧ Keeps (fun _ => False) w w' ∧ w.heap.size < w'.heap.size ∧ JDec w.heap.size w'.heap.size w' 0 (.slice none 0 0) X := by
  refine (jnewDecoder a n c w).mono ?_
  rintro e w' ⟨rfl, rfl⟩
  exact ⟨rfl, (Keeps.refl _ w).alloc _, by simp, jdec_new w a n c X hv hb⟩

set_option maxRecDepth 1000000 in
theorem jsonTokens_one (v : Value) (w : World) (hv : BytesAt w v [91, 49, 93]) :
    Calls Tryz.prog 20 #[v] w fun e w' => ∃ a c, e = .returned (.tuple #[.slice a 3 c, .bool true]) ∧ Keeps (fun _ => False) w w' := by
  have hc := copied_any v [91, 49, 93] w hv (by simp)
  go_enter Tryz.func20, Tryz.ntmps20
  go_wp2_with (first
    | (go_at_call 15; refine hc.mono ?_; rintro e w1 ⟨V, rfl, hV, hVb, hk1⟩; obtain ⟨a, c, hVf, _, _⟩ := hV.form; subst hVf)
    | (go_at_call 38; refine (jnewDecoder_dec w1 a 3 c _ hV (fun j hj => (hVb j hj).2)).mono ?_; rintro e w2 ⟨rfl, hk2, hl2, hd⟩)
    | (go_at_call 37; refine (jsonRead_one _ w2 hd hl2).mono ?_; rintro e w3 ⟨a3, c3, rfl, hk3⟩))
  go_ret2
  exact ⟨a3, c3, rfl, (hk1.trans hk2 (fun _ _ => id)).trans hk3 (fun i hi h => by have := hk1.size; omega)⟩

theorem bytes4 {w : World} {g : Nat} {T : TypeId} {fr : Nat × Nat} (h : w.heap[g]? = some (.cells #[.int .u8 97, .int .u8 58, .int .u8 32, .int .u8 49] T fr)) : BytesAt w (.slice (some ⟨g, 0, none⟩) 4 4) [97, 58, 32, 49] := by
  refine ⟨_, _, rfl, by simp, by simp [maxLen], .inr ⟨_, 0, rfl, fun j hj => ?_⟩⟩
  rw [cell_row h]
  match j, hj with
  | 0, _ => rfl
  | 1, _ => rfl
  | 2, _ => rfl
  | 3, _ => rfl
theorem bytes3 {w : World} {g : Nat} {T : TypeId} {fr : Nat × Nat} (h : w.heap[g]? = some (.cells #[.int .u8 91, .int .u8 49, .int .u8 93] T fr)) : BytesAt w (.slice (some ⟨g, 0, none⟩) 3 3) [91, 49, 93] := by
  refine ⟨_, _, rfl, by simp, by simp [maxLen], .inr ⟨_, 0, rfl, fun j hj => ?_⟩⟩
  rw [cell_row h]
  match j, hj with
  | 0, _ => rfl
  | 1, _ => rfl
  | 2, _ => rfl

set_option maxRecDepth 1000000 in
set_option maxHeartbeats 4000000 in
theorem lives_any (w : World) (hT : Tabs w) : Calls Tryz.prog 10 #[] w fun e w' => e = .returned (.bool true) ∧ Keeps (fun _ => False) w w' := by
  obtain ⟨W1, hW1⟩ : ∃ W, w.alloc (.cells #[.int .u8 97, .int .u8 58, .int .u8 32, .int .u8 49] 5) = W := ⟨_, rfl⟩
  have hk1 : Keeps (fun _ => False) w W1 := by rw [← hW1]; exact (Keeps.refl _ w).alloc _
  have hg1 : W1.heap[w.heap.size]? = some (.cells #[.int .u8 97, .int .u8 58, .int .u8 32, .int .u8 49] 5 (0, 0)) := by rw [← hW1]; exact heap_alloc_new w _
  obtain ⟨W2, fr, hcv, hg2, hkf⟩ := conv_mark w.heap.size 4 4 _ _ W1 hg1
  have hk2 : Keeps (fun _ => False) w W2 := hk1.trans hkf (fun i hi h => by omega)
  have hc := textTokens_any _ _ _ W2 (bytes4 hg2) (by simp) one_reads (by simp) (hT.keeps hk2 (fun _ _ => id)) one_ok
  have HK2 := Lib.hid hk2
  have HT := Lib.hid hT
  clear hg1 hg2 hkf hk1 hk2 hT
  go_enter Tryz.func10, Tryz.ntmps10
  go_upto_region 2 with (go_at_call 8; refine hc.mono ?_; rintro e w3 ⟨V, xs, rfl, ho, htc, hk3⟩; obtain ⟨ao, co, hVf, hob⟩ := owns_form ho; subst hVf; have HO := Lib.hid ho; have HOB := Lib.hid hob; have HK3 := Lib.hid hk3; clear ho hob hk3 htc)
  clear hc hcv hW1
  obtain ⟨W4, hW4⟩ : ∃ W, w3.alloc (.cells #[.int .u8 91, .int .u8 49, .int .u8 93] 5) = W := ⟨_, rfl⟩
  have hk4 : Keeps (fun _ => False) w3 W4 := by rw [← hW4]; exact (Keeps.refl _ w3).alloc _
  have hg4 : W4.heap[w3.heap.size]? = some (.cells #[.int .u8 91, .int .u8 49, .int .u8 93] 5 (0, 0)) := by rw [← hW4]; exact heap_alloc_new w3 _
  obtain ⟨W5, fr5, hcv5, hg5, hkf5⟩ := conv_mark w3.heap.size 3 3 _ _ W4 hg4
  have hk5 : Keeps (fun _ => False) w3 W5 := hk4.trans hkf5 (fun i hi h => by omega)
  have hc := jsonTokens_one _ W5 (bytes3 hg5)
  have HK5 := Lib.hid hk5
  clear hg4 hg5 hkf5 hk4 hk5
  go_wp2_with (go_at_call 20; refine hc.mono ?_; rintro e w6 ⟨a6, c6, rfl, hk6⟩; have HK6 := Lib.hid hk6; clear hk6)
  go_ret
  exact ⟨rfl, ((HK2.out.trans HK3.out (fun _ _ => id)).trans HK5.out (fun _ _ => id)).trans HK6.out (fun _ _ => id)⟩
end Go.Proofs.YtdckklmhnhbpiaaGreatDoor
