/-
  defval.Unmarshal, kind by kind.
-/
import Derived.Test.YtonegoemmologaaGreatDoorM08
import Derived.Test.YtonegoemmologaaGreatDoorM09
import Derived.Test.YtonegoemmologaaGreatDoorM16
import Derived.Test.YtonegoemmologaaGreatDoorM25
import Derived.Deep.DeepCutAuto
set_option linter.unusedVariables false
set_option linter.unusedSimpArgs false
namespace Go.Proofs.YtonegoemmologaaGreatDoor
open Go.RowKit
theorem results_cell_2u {fn : Func} {p q r : Tmp} {ty : TypeId} (h : fn.results = #[.cell p ty, .tmp q, .tmp r]) (tmps : Array Value) (w : World) (g : Nat) (hp : tmps.getD p undef = .pointer (some ⟨g, 0, none⟩)) {v : Value}
 (hv : (loadVar ty ⟨g, 0, none⟩).run Tryz.prog w = .ok v w) : (results fn tmps).run Tryz.prog w = .ok (.tuple #[v, tmps.getD q undef, tmps.getD r undef]) w := by
 have hp' : tmps[p]?.getD undef = .pointer (some ⟨g, 0, none⟩) := by simpa using hp
 simp [results, h, hp', asAddr, hv]
set_option maxRecDepth 1000000 in
set_option maxHeartbeats 8000000 in
theorem unmarshal_8_1_true (ev : Value) (w : World) :
 Calls Tryz.prog 21 #[.string ⟨#[116, 114, 117, 101]⟩, .int .i8 8, ev, .int .i64 1] w fun en w' => en = .returned (.tuple #[(.agg #[.int .i64 1, .int .u64 1, .string ⟨#[]⟩, .slice none 0 0]), .nilIface, .nilIface]) ∧ Keeps (fun _ => False) w w' := by
 go_enter Tryz.func21, Tryz.ntmps21
 go_wp2_with ((first | (go_at_call 44; go_in) | (go_at_call 45; go_in) | (go_at_call 46; go_in) | (go_at_call 47; go_in) | (go_at_call 48; go_in) | (go_at_call 49; go_in) | (go_at_call 52; go_in) | (go_at_call 74; go_in) | (go_at_call 204; go_in) | (go_at_call 205; go_in)))
 all_goals (try simp only [Exit.inBlock, Exit.then])
 all_goals refine bodyPost_ret (results_cell_2u rfl _ _ w.heap.size rfl (run_loadVar_row _ _ _ _ _ (0, 0) _ (Keeps.row (by repeat (first | exact Keeps.refl (fun _ => False) _ | apply Keeps.alloc)) (heap_alloc_new w _) id) Tryz.underlying74 rfl (by kernel_rfl))) rfl ?_
 all_goals first | exact ⟨rfl, by repeat (first | exact Keeps.refl _ _ | apply Keeps.alloc | apply Keeps.drew)⟩ | (refine ⟨?_, by repeat (first | exact Keeps.refl _ _ | apply Keeps.alloc | apply Keeps.drew)⟩; simp_all)
set_option maxRecDepth 1000000 in
set_option maxHeartbeats 8000000 in
theorem unmarshal_8_1_false (ev : Value) (w : World) :
 Calls Tryz.prog 21 #[.string ⟨#[102, 97, 108, 115, 101]⟩, .int .i8 8, ev, .int .i64 1] w fun en w' => en = .returned (.tuple #[(.agg #[.int .i64 1, .int .u64 0, .string ⟨#[]⟩, .slice none 0 0]), .nilIface, .nilIface]) ∧ Keeps (fun _ => False) w w' := by
 go_enter Tryz.func21, Tryz.ntmps21
 go_wp2_with ((first | (go_at_call 44; go_in) | (go_at_call 45; go_in) | (go_at_call 46; go_in) | (go_at_call 47; go_in) | (go_at_call 48; go_in) | (go_at_call 49; go_in) | (go_at_call 52; go_in) | (go_at_call 74; go_in) | (go_at_call 204; go_in) | (go_at_call 205; go_in)))
 all_goals (try simp only [Exit.inBlock, Exit.then])
 all_goals refine bodyPost_ret (results_cell_2u rfl _ _ w.heap.size rfl (run_loadVar_row _ _ _ _ _ (0, 0) _ (Keeps.row (by repeat (first | exact Keeps.refl (fun _ => False) _ | apply Keeps.alloc)) (heap_alloc_new w _) id) Tryz.underlying74 rfl (by kernel_rfl))) rfl ?_
 all_goals first | exact ⟨rfl, by repeat (first | exact Keeps.refl _ _ | apply Keeps.alloc | apply Keeps.drew)⟩ | (refine ⟨?_, by repeat (first | exact Keeps.refl _ _ | apply Keeps.alloc | apply Keeps.drew)⟩; simp_all)
set_option maxRecDepth 1000000 in
set_option maxHeartbeats 8000000 in
theorem unmarshal_8_2_true (ev : Value) (w : World) :
 Calls Tryz.prog 21 #[.string ⟨#[49]⟩, .int .i8 8, ev, .int .i64 2] w fun en w' => en = .returned (.tuple #[(.agg #[.int .i64 1, .int .u64 1, .string ⟨#[]⟩, .slice none 0 0]), .nilIface, .nilIface]) ∧ Keeps (fun _ => False) w w' := by
 go_enter Tryz.func21, Tryz.ntmps21
 go_wp2_with ((first | (go_at_call 44; go_in) | (go_at_call 45; go_in) | (go_at_call 46; go_in) | (go_at_call 47; go_in) | (go_at_call 48; go_in) | (go_at_call 49; go_in) | (go_at_call 52; go_in) | (go_at_call 74; go_in) | (go_at_call 204; go_in) | (go_at_call 205; go_in)))
 all_goals (try simp only [Exit.inBlock, Exit.then])
 all_goals refine bodyPost_ret (results_cell_2u rfl _ _ w.heap.size rfl (run_loadVar_row _ _ _ _ _ (0, 0) _ (Keeps.row (by repeat (first | exact Keeps.refl (fun _ => False) _ | apply Keeps.alloc)) (heap_alloc_new w _) id) Tryz.underlying74 rfl (by kernel_rfl))) rfl ?_
 all_goals first | exact ⟨rfl, by repeat (first | exact Keeps.refl _ _ | apply Keeps.alloc | apply Keeps.drew)⟩ | (refine ⟨?_, by repeat (first | exact Keeps.refl _ _ | apply Keeps.alloc | apply Keeps.drew)⟩; simp_all)
set_option maxRecDepth 1000000 in
set_option maxHeartbeats 8000000 in
theorem unmarshal_8_2_false (ev : Value) (w : World) :
 Calls Tryz.prog 21 #[.string ⟨#[48]⟩, .int .i8 8, ev, .int .i64 2] w fun en w' => en = .returned (.tuple #[(.agg #[.int .i64 1, .int .u64 0, .string ⟨#[]⟩, .slice none 0 0]), .nilIface, .nilIface]) ∧ Keeps (fun _ => False) w w' := by
 go_enter Tryz.func21, Tryz.ntmps21
 go_wp2_with ((first | (go_at_call 44; go_in) | (go_at_call 45; go_in) | (go_at_call 46; go_in) | (go_at_call 47; go_in) | (go_at_call 48; go_in) | (go_at_call 49; go_in) | (go_at_call 52; go_in) | (go_at_call 74; go_in) | (go_at_call 204; go_in) | (go_at_call 205; go_in)))
 all_goals (try simp only [Exit.inBlock, Exit.then])
 all_goals refine bodyPost_ret (results_cell_2u rfl _ _ w.heap.size rfl (run_loadVar_row _ _ _ _ _ (0, 0) _ (Keeps.row (by repeat (first | exact Keeps.refl (fun _ => False) _ | apply Keeps.alloc)) (heap_alloc_new w _) id) Tryz.underlying74 rfl (by kernel_rfl))) rfl ?_
 all_goals first | exact ⟨rfl, by repeat (first | exact Keeps.refl _ _ | apply Keeps.alloc | apply Keeps.drew)⟩ | (refine ⟨?_, by repeat (first | exact Keeps.refl _ _ | apply Keeps.alloc | apply Keeps.drew)⟩; simp_all)
set_option maxRecDepth 1000000 in
set_option maxHeartbeats 8000000 in
theorem unmarshal_9 (ev : Value) (form : Int) (s : ByteArray) (w : World) :
 Calls Tryz.prog 21 #[.string s, .int .i8 9, ev, .int .i64 form] w fun en w' => en = .returned (.tuple #[(.agg #[.int .i64 8, .int .u64 0, .string s, .slice none 0 0]), .nilIface, .nilIface]) ∧ Keeps (fun _ => False) w w' := by
 go_enter Tryz.func21, Tryz.ntmps21
 go_wp2_with ((first | (go_at_call 44; go_in) | (go_at_call 45; go_in) | (go_at_call 46; go_in) | (go_at_call 47; go_in) | (go_at_call 48; go_in) | (go_at_call 49; go_in) | (go_at_call 52; go_in) | (go_at_call 74; go_in) | (go_at_call 204; go_in) | (go_at_call 205; go_in)))
 all_goals (try simp only [Exit.inBlock, Exit.then])
 all_goals refine bodyPost_ret (results_cell_2u rfl _ _ w.heap.size rfl (run_loadVar_row _ _ _ _ _ (0, 0) _ (Keeps.row (by repeat (first | exact Keeps.refl (fun _ => False) _ | apply Keeps.alloc)) (heap_alloc_new w _) id) Tryz.underlying74 rfl (by kernel_rfl))) rfl ?_
 all_goals first | exact ⟨rfl, by repeat (first | exact Keeps.refl _ _ | apply Keeps.alloc | apply Keeps.drew)⟩ | (refine ⟨?_, by repeat (first | exact Keeps.refl _ _ | apply Keeps.alloc | apply Keeps.drew)⟩; simp_all)
set_option maxRecDepth 1000000 in
set_option maxHeartbeats 8000000 in
theorem valueOfInt32_any (i : Int) (w : World) : Calls Tryz.prog 46 #[.int .i32 i] w fun en w' => en = .returned (.agg #[.int .i64 2, .int .u64 (IntKind.u64.wrap i), .string ⟨#[]⟩, .slice none 0 0]) ∧ Keeps (fun _ => False) w w' := by
 go_enter Tryz.func46, Tryz.ntmps46
 go_wp2_with (go_in)
 (try simp only [Exit.inBlock, Exit.then])
 refine bodyPost_ret (results_cell_row rfl _ _ w.heap.size _ _ (0, 0) _ rfl (Keeps.row (by repeat (first | exact Keeps.refl (fun _ => False) _ | apply Keeps.alloc)) (heap_alloc_new w _) id) Tryz.underlying74 rfl (by kernel_rfl)) rfl ?_
 exact ⟨rfl, by repeat (first | exact Keeps.refl _ _ | apply Keeps.alloc | apply Keeps.drew)⟩
set_option maxRecDepth 1000000 in
set_option maxHeartbeats 8000000 in
theorem valueOfInt64_any (i : Int) (w : World) : Calls Tryz.prog 47 #[.int .i64 i] w fun en w' => en = .returned (.agg #[.int .i64 3, .int .u64 (IntKind.u64.wrap i), .string ⟨#[]⟩, .slice none 0 0]) ∧ Keeps (fun _ => False) w w' := by
 go_enter Tryz.func47, Tryz.ntmps47
 go_wp2_with (go_in)
 (try simp only [Exit.inBlock, Exit.then])
 refine bodyPost_ret (results_cell_row rfl _ _ w.heap.size _ _ (0, 0) _ rfl (Keeps.row (by repeat (first | exact Keeps.refl (fun _ => False) _ | apply Keeps.alloc)) (heap_alloc_new w _) id) Tryz.underlying74 rfl (by kernel_rfl)) rfl ?_
 exact ⟨rfl, by repeat (first | exact Keeps.refl _ _ | apply Keeps.alloc | apply Keeps.drew)⟩
set_option maxRecDepth 1000000 in
set_option maxHeartbeats 8000000 in
theorem valueOfEnum_any (i : Int) (w : World) : Calls Tryz.prog 45 #[.int .i32 i] w fun en w' => en = .returned (.agg #[.int .i64 10, .int .u64 (IntKind.u64.wrap i), .string ⟨#[]⟩, .slice none 0 0]) ∧ Keeps (fun _ => False) w w' := by
 go_enter Tryz.func45, Tryz.ntmps45
 go_wp2_with (go_in)
 (try simp only [Exit.inBlock, Exit.then])
 refine bodyPost_ret (results_cell_row rfl _ _ w.heap.size _ _ (0, 0) _ rfl (Keeps.row (by repeat (first | exact Keeps.refl (fun _ => False) _ | apply Keeps.alloc)) (heap_alloc_new w _) id) Tryz.underlying74 rfl (by kernel_rfl)) rfl ?_
 exact ⟨rfl, by repeat (first | exact Keeps.refl _ _ | apply Keeps.alloc | apply Keeps.drew)⟩
set_option maxRecDepth 1000000 in
set_option maxHeartbeats 8000000 in
theorem valueOfUint32_any (i : Int) (h1 : 0 ≤ i) (h2 : i ≤ 4294967295) (w : World) : Calls Tryz.prog 48 #[.int .u32 i] w fun en w' => en = .returned (.agg #[.int .i64 4, .int .u64 i, .string ⟨#[]⟩, .slice none 0 0]) ∧ Keeps (fun _ => False) w w' := by
 go_enter Tryz.func48, Tryz.ntmps48
 go_wp2_with (go_in)
 (try simp only [Exit.inBlock, Exit.then])
 refine bodyPost_ret (results_cell_row rfl _ _ w.heap.size _ _ (0, 0) _ rfl (Keeps.row (by repeat (first | exact Keeps.refl (fun _ => False) _ | apply Keeps.alloc)) (heap_alloc_new w _) id) Tryz.underlying74 rfl (by kernel_rfl)) rfl ?_
 exact ⟨rfl, by repeat (first | exact Keeps.refl _ _ | apply Keeps.alloc | apply Keeps.drew)⟩
set_option maxRecDepth 1000000 in
set_option maxHeartbeats 8000000 in
theorem valueOfUint64_any (i : Int) (w : World) : Calls Tryz.prog 49 #[.int .u64 i] w fun en w' => en = .returned (.agg #[.int .i64 5, .int .u64 i, .string ⟨#[]⟩, .slice none 0 0]) ∧ Keeps (fun _ => False) w w' := by
 go_enter Tryz.func49, Tryz.ntmps49
 go_wp2_with (go_in)
 (try simp only [Exit.inBlock, Exit.then])
 refine bodyPost_ret (results_cell_row rfl _ _ w.heap.size _ _ (0, 0) _ rfl (Keeps.row (by repeat (first | exact Keeps.refl (fun _ => False) _ | apply Keeps.alloc)) (heap_alloc_new w _) id) Tryz.underlying74 rfl (by kernel_rfl)) rfl ?_
 exact ⟨rfl, by repeat (first | exact Keeps.refl _ _ | apply Keeps.alloc | apply Keeps.drew)⟩
theorem row4 {w : World} {K : Nat} {a0 b0 c0 d0 : Value} {T : TypeId} (hr : w.heap[K]? = some (.cells #[a0, b0, c0, d0] T (0, 0))) (a b c d : Value) : ((((w.setCell ⟨K, 0, none⟩ a).setCell ⟨K, 1, none⟩ b).setCell ⟨K, 2, none⟩ c).setCell ⟨K, 3, none⟩ d).heap[K]? = some (.cells #[a, b, c, d] T (0, 0)) := by
 rw [setCell_row (setCell_row (setCell_row (setCell_row hr _) _) _) _]
 rfl
theorem keeps4 (w : World) (K : Nat) (a b c d : Value) : Keeps (fun k => k = K) w ((((w.setCell ⟨K, 0, none⟩ a).setCell ⟨K, 1, none⟩ b).setCell ⟨K, 2, none⟩ c).setCell ⟨K, 3, none⟩ d) :=
 ((((Keeps.refl (fun k => k = K) w).setCell ⟨K, 0, none⟩ (fun _ => rfl) _).setCell ⟨K, 1, none⟩ (fun _ => rfl) _).setCell ⟨K, 2, none⟩ (fun _ => rfl) _).setCell ⟨K, 3, none⟩ (fun _ => rfl) _
set_option maxRecDepth 1000000 in
set_option maxHeartbeats 8000000 in
theorem unmarshal_5 (ev : Value) (form i : Int) (h1 : -2147483648 ≤ i) (h2 : i ≤ 2147483647) (w : World) :
 Calls Tryz.prog 21 #[.string (mk (Lib.itoa i)), .int .i8 5, ev, .int .i64 form] w fun en w' => en = .returned (.tuple #[(.agg #[.int .i64 2, .int .u64 (IntKind.u64.wrap i), .string ⟨#[]⟩, .slice none 0 0]), .nilIface, .nilIface]) ∧ Keeps (fun _ => False) w w' := by
 have H1 := Lib.hid h1
 have H2 := Lib.hid h2
 go_enter Tryz.func21, Tryz.ntmps21
 go_wp2_with (first | (go_at_call 54; with_reducible refine (parseInt_0_32 i H1.out H2.out _).mono ?_; rintro en w3 ⟨rfl, k3⟩; have HR3 := Lib.hid (k3.row (heap_alloc_new w _) id); have HK3 := Lib.hid (((Keeps.refl (fun _ => False) w).alloc _).trans k3 (fun _ _ h => h)); have HKG := Lib.hid (Nat.le_refl w.heap.size); clear k3; revert HR3 HK3 HKG; generalize hgK : w.heap.size = K; intro HR3 HK3 HKG) | (go_at_call 46; with_reducible refine (valueOfInt32_any i _).mono ?_; rintro en w9 ⟨rfl, k9⟩; have hr9 := k9.row HR3.out id; have f9 := fun j => frozen_row (j := j) hr9; have x0 := cell_row (j := 0) hr9; have x1 := cell_row (j := 1) hr9; have x2 := cell_row (j := 2) hr9; have x3 := cell_row (j := 3) hr9; simp at x0 x1 x2 x3; have HR9 := Lib.hid hr9; have HK9 := Lib.hid (HK3.out.trans k9 (fun _ _ h => h)); clear k9 hr9) | (first | (go_at_call 44; go_in) | (go_at_call 45; go_in) | (go_at_call 46; go_in) | (go_at_call 47; go_in) | (go_at_call 48; go_in) | (go_at_call 49; go_in) | (go_at_call 52; go_in) | (go_at_call 74; go_in) | (go_at_call 204; go_in) | (go_at_call 205; go_in)))
 all_goals (try simp only [Exit.inBlock, Exit.then])
 all_goals refine bodyPost_ret (results_cell_2u rfl _ _ K rfl (run_loadVar_row _ _ _ _ _ (0, 0) _ (row4 HR9.out _ _ _ _) Tryz.underlying74 rfl (by kernel_rfl))) rfl ?_
 all_goals first | exact ⟨rfl, HK9.out.trans (keeps4 _ _ _ _ _ _) (fun i hi e => by have := HKG.out; omega)⟩ | (refine ⟨?_, by repeat (first | exact Keeps.refl _ _ | apply Keeps.alloc | apply Keeps.drew)⟩; simp_all)
set_option maxRecDepth 1000000 in
set_option maxHeartbeats 8000000 in
theorem unmarshal_17 (ev : Value) (form i : Int) (h1 : -2147483648 ≤ i) (h2 : i ≤ 2147483647) (w : World) :
 Calls Tryz.prog 21 #[.string (mk (Lib.itoa i)), .int .i8 17, ev, .int .i64 form] w fun en w' => en = .returned (.tuple #[(.agg #[.int .i64 2, .int .u64 (IntKind.u64.wrap i), .string ⟨#[]⟩, .slice none 0 0]), .nilIface, .nilIface]) ∧ Keeps (fun _ => False) w w' := by
 have H1 := Lib.hid h1
 have H2 := Lib.hid h2
 go_enter Tryz.func21, Tryz.ntmps21
 go_wp2_with (first | (go_at_call 54; with_reducible refine (parseInt_0_32 i H1.out H2.out _).mono ?_; rintro en w3 ⟨rfl, k3⟩; have HR3 := Lib.hid (k3.row (heap_alloc_new w _) id); have HK3 := Lib.hid (((Keeps.refl (fun _ => False) w).alloc _).trans k3 (fun _ _ h => h)); have HKG := Lib.hid (Nat.le_refl w.heap.size); clear k3; revert HR3 HK3 HKG; generalize hgK : w.heap.size = K; intro HR3 HK3 HKG) | (go_at_call 46; with_reducible refine (valueOfInt32_any i _).mono ?_; rintro en w9 ⟨rfl, k9⟩; have hr9 := k9.row HR3.out id; have f9 := fun j => frozen_row (j := j) hr9; have x0 := cell_row (j := 0) hr9; have x1 := cell_row (j := 1) hr9; have x2 := cell_row (j := 2) hr9; have x3 := cell_row (j := 3) hr9; simp at x0 x1 x2 x3; have HR9 := Lib.hid hr9; have HK9 := Lib.hid (HK3.out.trans k9 (fun _ _ h => h)); clear k9 hr9) | (first | (go_at_call 44; go_in) | (go_at_call 45; go_in) | (go_at_call 46; go_in) | (go_at_call 47; go_in) | (go_at_call 48; go_in) | (go_at_call 49; go_in) | (go_at_call 52; go_in) | (go_at_call 74; go_in) | (go_at_call 204; go_in) | (go_at_call 205; go_in)))
 all_goals (try simp only [Exit.inBlock, Exit.then])
 all_goals refine bodyPost_ret (results_cell_2u rfl _ _ K rfl (run_loadVar_row _ _ _ _ _ (0, 0) _ (row4 HR9.out _ _ _ _) Tryz.underlying74 rfl (by kernel_rfl))) rfl ?_
 all_goals first | exact ⟨rfl, HK9.out.trans (keeps4 _ _ _ _ _ _) (fun i hi e => by have := HKG.out; omega)⟩ | (refine ⟨?_, by repeat (first | exact Keeps.refl _ _ | apply Keeps.alloc | apply Keeps.drew)⟩; simp_all)
set_option maxRecDepth 1000000 in
set_option maxHeartbeats 8000000 in
theorem unmarshal_15 (ev : Value) (form i : Int) (h1 : -2147483648 ≤ i) (h2 : i ≤ 2147483647) (w : World) :
 Calls Tryz.prog 21 #[.string (mk (Lib.itoa i)), .int .i8 15, ev, .int .i64 form] w fun en w' => en = .returned (.tuple #[(.agg #[.int .i64 2, .int .u64 (IntKind.u64.wrap i), .string ⟨#[]⟩, .slice none 0 0]), .nilIface, .nilIface]) ∧ Keeps (fun _ => False) w w' := by
 have H1 := Lib.hid h1
 have H2 := Lib.hid h2
 go_enter Tryz.func21, Tryz.ntmps21
 go_wp2_with (first | (go_at_call 54; with_reducible refine (parseInt_0_32 i H1.out H2.out _).mono ?_; rintro en w3 ⟨rfl, k3⟩; have HR3 := Lib.hid (k3.row (heap_alloc_new w _) id); have HK3 := Lib.hid (((Keeps.refl (fun _ => False) w).alloc _).trans k3 (fun _ _ h => h)); have HKG := Lib.hid (Nat.le_refl w.heap.size); clear k3; revert HR3 HK3 HKG; generalize hgK : w.heap.size = K; intro HR3 HK3 HKG) | (go_at_call 46; with_reducible refine (valueOfInt32_any i _).mono ?_; rintro en w9 ⟨rfl, k9⟩; have hr9 := k9.row HR3.out id; have f9 := fun j => frozen_row (j := j) hr9; have x0 := cell_row (j := 0) hr9; have x1 := cell_row (j := 1) hr9; have x2 := cell_row (j := 2) hr9; have x3 := cell_row (j := 3) hr9; simp at x0 x1 x2 x3; have HR9 := Lib.hid hr9; have HK9 := Lib.hid (HK3.out.trans k9 (fun _ _ h => h)); clear k9 hr9) | (first | (go_at_call 44; go_in) | (go_at_call 45; go_in) | (go_at_call 46; go_in) | (go_at_call 47; go_in) | (go_at_call 48; go_in) | (go_at_call 49; go_in) | (go_at_call 52; go_in) | (go_at_call 74; go_in) | (go_at_call 204; go_in) | (go_at_call 205; go_in)))
 all_goals (try simp only [Exit.inBlock, Exit.then])
 all_goals refine bodyPost_ret (results_cell_2u rfl _ _ K rfl (run_loadVar_row _ _ _ _ _ (0, 0) _ (row4 HR9.out _ _ _ _) Tryz.underlying74 rfl (by kernel_rfl))) rfl ?_
 all_goals first | exact ⟨rfl, HK9.out.trans (keeps4 _ _ _ _ _ _) (fun i hi e => by have := HKG.out; omega)⟩ | (refine ⟨?_, by repeat (first | exact Keeps.refl _ _ | apply Keeps.alloc | apply Keeps.drew)⟩; simp_all)
set_option maxRecDepth 1000000 in
set_option maxHeartbeats 8000000 in
theorem unmarshal_3 (ev : Value) (form i : Int) (h1 : -9223372036854775808 ≤ i) (h2 : i ≤ 9223372036854775807) (w : World) :
 Calls Tryz.prog 21 #[.string (mk (Lib.itoa i)), .int .i8 3, ev, .int .i64 form] w fun en w' => en = .returned (.tuple #[(.agg #[.int .i64 3, .int .u64 (IntKind.u64.wrap i), .string ⟨#[]⟩, .slice none 0 0]), .nilIface, .nilIface]) ∧ Keeps (fun _ => False) w w' := by
 have H1 := Lib.hid h1
 have H2 := Lib.hid h2
 clear h1 h2
 go_enter Tryz.func21, Tryz.ntmps21
 go_wp2_with (first | (go_at_call 54; with_reducible refine (parseInt_0_64 i H1.out H2.out _).mono ?_; rintro en w3 ⟨rfl, k3⟩; have HR3 := Lib.hid (k3.row (heap_alloc_new w _) id); have HK3 := Lib.hid (((Keeps.refl (fun _ => False) w).alloc _).trans k3 (fun _ _ h => h)); have HKG := Lib.hid (Nat.le_refl w.heap.size); clear k3; revert HR3 HK3 HKG; generalize hgK : w.heap.size = K; intro HR3 HK3 HKG) | (go_at_call 47; with_reducible refine (valueOfInt64_any i _).mono ?_; rintro en w9 ⟨rfl, k9⟩; have hr9 := k9.row HR3.out id; have f9 := fun j => frozen_row (j := j) hr9; have x0 := cell_row (j := 0) hr9; have x1 := cell_row (j := 1) hr9; have x2 := cell_row (j := 2) hr9; have x3 := cell_row (j := 3) hr9; simp at x0 x1 x2 x3; have HR9 := Lib.hid hr9; have HK9 := Lib.hid (HK3.out.trans k9 (fun _ _ h => h)); clear k9 hr9) | (first | (go_at_call 44; go_in) | (go_at_call 45; go_in) | (go_at_call 46; go_in) | (go_at_call 47; go_in) | (go_at_call 48; go_in) | (go_at_call 49; go_in) | (go_at_call 52; go_in) | (go_at_call 74; go_in) | (go_at_call 204; go_in) | (go_at_call 205; go_in)))
 all_goals (try simp only [Exit.inBlock, Exit.then])
 all_goals refine bodyPost_ret (results_cell_2u rfl _ _ K rfl (run_loadVar_row _ _ _ _ _ (0, 0) _ (row4 HR9.out _ _ _ _) Tryz.underlying74 rfl (by kernel_rfl))) rfl ?_
 all_goals first | exact ⟨rfl, HK9.out.trans (keeps4 _ _ _ _ _ _) (fun i hi e => by have := HKG.out; omega)⟩ | (refine ⟨?_, by repeat (first | exact Keeps.refl _ _ | apply Keeps.alloc | apply Keeps.drew)⟩; simp_all)
set_option maxRecDepth 1000000 in
set_option maxHeartbeats 8000000 in
theorem unmarshal_18 (ev : Value) (form i : Int) (h1 : -9223372036854775808 ≤ i) (h2 : i ≤ 9223372036854775807) (w : World) :
 Calls Tryz.prog 21 #[.string (mk (Lib.itoa i)), .int .i8 18, ev, .int .i64 form] w fun en w' => en = .returned (.tuple #[(.agg #[.int .i64 3, .int .u64 (IntKind.u64.wrap i), .string ⟨#[]⟩, .slice none 0 0]), .nilIface, .nilIface]) ∧ Keeps (fun _ => False) w w' := by
 have H1 := Lib.hid h1
 have H2 := Lib.hid h2
 clear h1 h2
 go_enter Tryz.func21, Tryz.ntmps21
 go_wp2_with (first | (go_at_call 54; with_reducible refine (parseInt_0_64 i H1.out H2.out _).mono ?_; rintro en w3 ⟨rfl, k3⟩; have HR3 := Lib.hid (k3.row (heap_alloc_new w _) id); have HK3 := Lib.hid (((Keeps.refl (fun _ => False) w).alloc _).trans k3 (fun _ _ h => h)); have HKG := Lib.hid (Nat.le_refl w.heap.size); clear k3; revert HR3 HK3 HKG; generalize hgK : w.heap.size = K; intro HR3 HK3 HKG) | (go_at_call 47; with_reducible refine (valueOfInt64_any i _).mono ?_; rintro en w9 ⟨rfl, k9⟩; have hr9 := k9.row HR3.out id; have f9 := fun j => frozen_row (j := j) hr9; have x0 := cell_row (j := 0) hr9; have x1 := cell_row (j := 1) hr9; have x2 := cell_row (j := 2) hr9; have x3 := cell_row (j := 3) hr9; simp at x0 x1 x2 x3; have HR9 := Lib.hid hr9; have HK9 := Lib.hid (HK3.out.trans k9 (fun _ _ h => h)); clear k9 hr9) | (first | (go_at_call 44; go_in) | (go_at_call 45; go_in) | (go_at_call 46; go_in) | (go_at_call 47; go_in) | (go_at_call 48; go_in) | (go_at_call 49; go_in) | (go_at_call 52; go_in) | (go_at_call 74; go_in) | (go_at_call 204; go_in) | (go_at_call 205; go_in)))
 all_goals (try simp only [Exit.inBlock, Exit.then])
 all_goals refine bodyPost_ret (results_cell_2u rfl _ _ K rfl (run_loadVar_row _ _ _ _ _ (0, 0) _ (row4 HR9.out _ _ _ _) Tryz.underlying74 rfl (by kernel_rfl))) rfl ?_
 all_goals first | exact ⟨rfl, HK9.out.trans (keeps4 _ _ _ _ _ _) (fun i hi e => by have := HKG.out; omega)⟩ | (refine ⟨?_, by repeat (first | exact Keeps.refl _ _ | apply Keeps.alloc | apply Keeps.drew)⟩; simp_all)
set_option maxRecDepth 1000000 in
set_option maxHeartbeats 8000000 in
theorem unmarshal_16 (ev : Value) (form i : Int) (h1 : -9223372036854775808 ≤ i) (h2 : i ≤ 9223372036854775807) (w : World) :
 Calls Tryz.prog 21 #[.string (mk (Lib.itoa i)), .int .i8 16, ev, .int .i64 form] w fun en w' => en = .returned (.tuple #[(.agg #[.int .i64 3, .int .u64 (IntKind.u64.wrap i), .string ⟨#[]⟩, .slice none 0 0]), .nilIface, .nilIface]) ∧ Keeps (fun _ => False) w w' := by
 have H1 := Lib.hid h1
 have H2 := Lib.hid h2
 clear h1 h2
 go_enter Tryz.func21, Tryz.ntmps21
 go_wp2_with (first | (go_at_call 54; with_reducible refine (parseInt_0_64 i H1.out H2.out _).mono ?_; rintro en w3 ⟨rfl, k3⟩; have HR3 := Lib.hid (k3.row (heap_alloc_new w _) id); have HK3 := Lib.hid (((Keeps.refl (fun _ => False) w).alloc _).trans k3 (fun _ _ h => h)); have HKG := Lib.hid (Nat.le_refl w.heap.size); clear k3; revert HR3 HK3 HKG; generalize hgK : w.heap.size = K; intro HR3 HK3 HKG) | (go_at_call 47; with_reducible refine (valueOfInt64_any i _).mono ?_; rintro en w9 ⟨rfl, k9⟩; have hr9 := k9.row HR3.out id; have f9 := fun j => frozen_row (j := j) hr9; have x0 := cell_row (j := 0) hr9; have x1 := cell_row (j := 1) hr9; have x2 := cell_row (j := 2) hr9; have x3 := cell_row (j := 3) hr9; simp at x0 x1 x2 x3; have HR9 := Lib.hid hr9; have HK9 := Lib.hid (HK3.out.trans k9 (fun _ _ h => h)); clear k9 hr9) | (first | (go_at_call 44; go_in) | (go_at_call 45; go_in) | (go_at_call 46; go_in) | (go_at_call 47; go_in) | (go_at_call 48; go_in) | (go_at_call 49; go_in) | (go_at_call 52; go_in) | (go_at_call 74; go_in) | (go_at_call 204; go_in) | (go_at_call 205; go_in)))
 all_goals (try simp only [Exit.inBlock, Exit.then])
 all_goals refine bodyPost_ret (results_cell_2u rfl _ _ K rfl (run_loadVar_row _ _ _ _ _ (0, 0) _ (row4 HR9.out _ _ _ _) Tryz.underlying74 rfl (by kernel_rfl))) rfl ?_
 all_goals first | exact ⟨rfl, HK9.out.trans (keeps4 _ _ _ _ _ _) (fun i hi e => by have := HKG.out; omega)⟩ | (refine ⟨?_, by repeat (first | exact Keeps.refl _ _ | apply Keeps.alloc | apply Keeps.drew)⟩; simp_all)
set_option maxRecDepth 1000000 in
set_option maxHeartbeats 8000000 in
theorem unmarshal_13 (ev : Value) (form : Int) (u : Nat) (hu : u < 4294967296) (w : World) :
 Calls Tryz.prog 21 #[.string (mk (Lib.decDigits u)), .int .i8 13, ev, .int .i64 form] w fun en w' => en = .returned (.tuple #[(.agg #[.int .i64 4, .int .u64 (u : Int), .string ⟨#[]⟩, .slice none 0 0]), .nilIface, .nilIface]) ∧ Keeps (fun _ => False) w w' := by
 have HU := Lib.hid hu
 have hu0 : 0 ≤ (u : Int) := by omega
 have hu1 : (u : Int) ≤ 4294967295 := by omega
 clear hu
 go_enter Tryz.func21, Tryz.ntmps21
 go_wp2_with (first | (go_at_call 55; with_reducible refine (parseUint_32 u HU.out _).mono ?_; rintro en w3 ⟨rfl, k3⟩; have HR3 := Lib.hid (k3.row (heap_alloc_new w _) id); have HK3 := Lib.hid (((Keeps.refl (fun _ => False) w).alloc _).trans k3 (fun _ _ h => h)); have HKG := Lib.hid (Nat.le_refl w.heap.size); clear k3; revert HR3 HK3 HKG; generalize hgK : w.heap.size = K; intro HR3 HK3 HKG) | (go_at_call 48; with_reducible refine (valueOfUint32_any (u : Int) (by have := HU.out; omega) (by have := HU.out; omega) _).mono ?_; rintro en w9 ⟨rfl, k9⟩; have hr9 := k9.row HR3.out id; have f9 := fun j => frozen_row (j := j) hr9; have x0 := cell_row (j := 0) hr9; have x1 := cell_row (j := 1) hr9; have x2 := cell_row (j := 2) hr9; have x3 := cell_row (j := 3) hr9; simp at x0 x1 x2 x3; have HR9 := Lib.hid hr9; have HK9 := Lib.hid (HK3.out.trans k9 (fun _ _ h => h)); clear k9 hr9) | (first | (go_at_call 44; go_in) | (go_at_call 45; go_in) | (go_at_call 46; go_in) | (go_at_call 47; go_in) | (go_at_call 48; go_in) | (go_at_call 49; go_in) | (go_at_call 52; go_in) | (go_at_call 74; go_in) | (go_at_call 204; go_in) | (go_at_call 205; go_in)))
 all_goals (try simp only [Exit.inBlock, Exit.then])
 all_goals refine bodyPost_ret (results_cell_2u rfl _ _ K rfl (run_loadVar_row _ _ _ _ _ (0, 0) _ (row4 HR9.out _ _ _ _) Tryz.underlying74 rfl (by kernel_rfl))) rfl ?_
 all_goals first | exact ⟨rfl, HK9.out.trans (keeps4 _ _ _ _ _ _) (fun i hi e => by have := HKG.out; omega)⟩ | (refine ⟨?_, by repeat (first | exact Keeps.refl _ _ | apply Keeps.alloc | apply Keeps.drew)⟩; simp_all)
set_option maxRecDepth 1000000 in
set_option maxHeartbeats 8000000 in
theorem unmarshal_7 (ev : Value) (form : Int) (u : Nat) (hu : u < 4294967296) (w : World) :
 Calls Tryz.prog 21 #[.string (mk (Lib.decDigits u)), .int .i8 7, ev, .int .i64 form] w fun en w' => en = .returned (.tuple #[(.agg #[.int .i64 4, .int .u64 (u : Int), .string ⟨#[]⟩, .slice none 0 0]), .nilIface, .nilIface]) ∧ Keeps (fun _ => False) w w' := by
 have HU := Lib.hid hu
 have hu0 : 0 ≤ (u : Int) := by omega
 have hu1 : (u : Int) ≤ 4294967295 := by omega
 clear hu
 go_enter Tryz.func21, Tryz.ntmps21
 go_wp2_with (first | (go_at_call 55; with_reducible refine (parseUint_32 u HU.out _).mono ?_; rintro en w3 ⟨rfl, k3⟩; have HR3 := Lib.hid (k3.row (heap_alloc_new w _) id); have HK3 := Lib.hid (((Keeps.refl (fun _ => False) w).alloc _).trans k3 (fun _ _ h => h)); have HKG := Lib.hid (Nat.le_refl w.heap.size); clear k3; revert HR3 HK3 HKG; generalize hgK : w.heap.size = K; intro HR3 HK3 HKG) | (go_at_call 48; with_reducible refine (valueOfUint32_any (u : Int) (by have := HU.out; omega) (by have := HU.out; omega) _).mono ?_; rintro en w9 ⟨rfl, k9⟩; have hr9 := k9.row HR3.out id; have f9 := fun j => frozen_row (j := j) hr9; have x0 := cell_row (j := 0) hr9; have x1 := cell_row (j := 1) hr9; have x2 := cell_row (j := 2) hr9; have x3 := cell_row (j := 3) hr9; simp at x0 x1 x2 x3; have HR9 := Lib.hid hr9; have HK9 := Lib.hid (HK3.out.trans k9 (fun _ _ h => h)); clear k9 hr9) | (first | (go_at_call 44; go_in) | (go_at_call 45; go_in) | (go_at_call 46; go_in) | (go_at_call 47; go_in) | (go_at_call 48; go_in) | (go_at_call 49; go_in) | (go_at_call 52; go_in) | (go_at_call 74; go_in) | (go_at_call 204; go_in) | (go_at_call 205; go_in)))
 all_goals (try simp only [Exit.inBlock, Exit.then])
 all_goals refine bodyPost_ret (results_cell_2u rfl _ _ K rfl (run_loadVar_row _ _ _ _ _ (0, 0) _ (row4 HR9.out _ _ _ _) Tryz.underlying74 rfl (by kernel_rfl))) rfl ?_
 all_goals first | exact ⟨rfl, HK9.out.trans (keeps4 _ _ _ _ _ _) (fun i hi e => by have := HKG.out; omega)⟩ | (refine ⟨?_, by repeat (first | exact Keeps.refl _ _ | apply Keeps.alloc | apply Keeps.drew)⟩; simp_all)
set_option maxRecDepth 1000000 in
set_option maxHeartbeats 8000000 in
theorem unmarshal_4 (ev : Value) (form : Int) (u : Nat) (hu : u < 18446744073709551616) (w : World) :
 Calls Tryz.prog 21 #[.string (mk (Lib.decDigits u)), .int .i8 4, ev, .int .i64 form] w fun en w' => en = .returned (.tuple #[(.agg #[.int .i64 5, .int .u64 (u : Int), .string ⟨#[]⟩, .slice none 0 0]), .nilIface, .nilIface]) ∧ Keeps (fun _ => False) w w' := by
 have HU := Lib.hid hu
 clear hu
 go_enter Tryz.func21, Tryz.ntmps21
 go_wp2_with (first | (go_at_call 55; with_reducible refine (parseUint_64 u HU.out _).mono ?_; rintro en w3 ⟨rfl, k3⟩; have HR3 := Lib.hid (k3.row (heap_alloc_new w _) id); have HK3 := Lib.hid (((Keeps.refl (fun _ => False) w).alloc _).trans k3 (fun _ _ h => h)); have HKG := Lib.hid (Nat.le_refl w.heap.size); clear k3; revert HR3 HK3 HKG; generalize hgK : w.heap.size = K; intro HR3 HK3 HKG) | (go_at_call 49; with_reducible refine (valueOfUint64_any (u : Int) _).mono ?_; rintro en w9 ⟨rfl, k9⟩; have hr9 := k9.row HR3.out id; have f9 := fun j => frozen_row (j := j) hr9; have x0 := cell_row (j := 0) hr9; have x1 := cell_row (j := 1) hr9; have x2 := cell_row (j := 2) hr9; have x3 := cell_row (j := 3) hr9; simp at x0 x1 x2 x3; have HR9 := Lib.hid hr9; have HK9 := Lib.hid (HK3.out.trans k9 (fun _ _ h => h)); clear k9 hr9) | (first | (go_at_call 44; go_in) | (go_at_call 45; go_in) | (go_at_call 46; go_in) | (go_at_call 47; go_in) | (go_at_call 48; go_in) | (go_at_call 49; go_in) | (go_at_call 52; go_in) | (go_at_call 74; go_in) | (go_at_call 204; go_in) | (go_at_call 205; go_in)))
 all_goals (try simp only [Exit.inBlock, Exit.then])
 all_goals refine bodyPost_ret (results_cell_2u rfl _ _ K rfl (run_loadVar_row _ _ _ _ _ (0, 0) _ (row4 HR9.out _ _ _ _) Tryz.underlying74 rfl (by kernel_rfl))) rfl ?_
 all_goals first | exact ⟨rfl, HK9.out.trans (keeps4 _ _ _ _ _ _) (fun i hi e => by have := HKG.out; omega)⟩ | (refine ⟨?_, by repeat (first | exact Keeps.refl _ _ | apply Keeps.alloc | apply Keeps.drew)⟩; simp_all)
set_option maxRecDepth 1000000 in
set_option maxHeartbeats 8000000 in
theorem unmarshal_6 (ev : Value) (form : Int) (u : Nat) (hu : u < 18446744073709551616) (w : World) :
 Calls Tryz.prog 21 #[.string (mk (Lib.decDigits u)), .int .i8 6, ev, .int .i64 form] w fun en w' => en = .returned (.tuple #[(.agg #[.int .i64 5, .int .u64 (u : Int), .string ⟨#[]⟩, .slice none 0 0]), .nilIface, .nilIface]) ∧ Keeps (fun _ => False) w w' := by
 have HU := Lib.hid hu
 clear hu
 go_enter Tryz.func21, Tryz.ntmps21
 go_wp2_with (first | (go_at_call 55; with_reducible refine (parseUint_64 u HU.out _).mono ?_; rintro en w3 ⟨rfl, k3⟩; have HR3 := Lib.hid (k3.row (heap_alloc_new w _) id); have HK3 := Lib.hid (((Keeps.refl (fun _ => False) w).alloc _).trans k3 (fun _ _ h => h)); have HKG := Lib.hid (Nat.le_refl w.heap.size); clear k3; revert HR3 HK3 HKG; generalize hgK : w.heap.size = K; intro HR3 HK3 HKG) | (go_at_call 49; with_reducible refine (valueOfUint64_any (u : Int) _).mono ?_; rintro en w9 ⟨rfl, k9⟩; have hr9 := k9.row HR3.out id; have f9 := fun j => frozen_row (j := j) hr9; have x0 := cell_row (j := 0) hr9; have x1 := cell_row (j := 1) hr9; have x2 := cell_row (j := 2) hr9; have x3 := cell_row (j := 3) hr9; simp at x0 x1 x2 x3; have HR9 := Lib.hid hr9; have HK9 := Lib.hid (HK3.out.trans k9 (fun _ _ h => h)); clear k9 hr9) | (first | (go_at_call 44; go_in) | (go_at_call 45; go_in) | (go_at_call 46; go_in) | (go_at_call 47; go_in) | (go_at_call 48; go_in) | (go_at_call 49; go_in) | (go_at_call 52; go_in) | (go_at_call 74; go_in) | (go_at_call 204; go_in) | (go_at_call 205; go_in)))
 all_goals (try simp only [Exit.inBlock, Exit.then])
 all_goals refine bodyPost_ret (results_cell_2u rfl _ _ K rfl (run_loadVar_row _ _ _ _ _ (0, 0) _ (row4 HR9.out _ _ _ _) Tryz.underlying74 rfl (by kernel_rfl))) rfl ?_
 all_goals first | exact ⟨rfl, HK9.out.trans (keeps4 _ _ _ _ _ _) (fun i hi e => by have := HKG.out; omega)⟩ | (refine ⟨?_, by repeat (first | exact Keeps.refl _ _ | apply Keeps.alloc | apply Keeps.drew)⟩; simp_all)
set_option maxRecDepth 1000000 in
set_option maxHeartbeats 8000000 in
theorem number_any (n : ByteArray) (i : Int) (w : World) : Calls Tryz.prog 205 #[.agg #[.string n, .int .i32 i]] w fun en w' => en = .returned (.int .i32 i) ∧ Keeps (fun _ => False) w w' := by
 go_enter Tryz.func205, Tryz.ntmps205
 go_wp2_with (go_in)
 go_ret
 exact ⟨rfl, by repeat (first | exact Keeps.refl _ _ | apply Keeps.alloc | apply Keeps.drew)⟩
theorem byNumber_hit (V : Value) (L : List EV) (i : Int) (x : Value) (hb : L.length ≤ 100000000) (w : World) (hv : EVsAt w V L) (hx : evF (fun e => e.num == i) L = x) :
 Calls Tryz.prog 18 #[V, (.int .i32 i)] w fun e w' => e = .returned x ∧ Keeps (fun _ => False) w w' := by rw [← hx]; exact byNumber_any V L i hb w hv
theorem byName_hit (V : Value) (L : List EV) (s : ByteArray) (x : Value) (hb : L.length ≤ 100000000) (w : World) (hv : EVsAt w V L) (hx : evF (fun e => e.name == s) L = x) :
 Calls Tryz.prog 202 #[V, (.string s)] w fun e w' => e = .returned x ∧ Keeps (fun _ => False) w w' := by rw [← hx]; exact byName_any V L s hb w hv
set_option maxRecDepth 1000000 in
set_option maxHeartbeats 8000000 in
theorem unmarshal_14_2 (V : Value) (L : List EV) (hL : L.length ≤ 100000000) (nm : ByteArray) (i : Int) (h1 : -2147483648 ≤ i) (h2 : i ≤ 2147483647) (w : World) (hv : EVsAt w V L) (hx : evF (fun e => e.num == i) L = .iface 67 (.agg #[.string nm, .int .i32 i])) :
 Calls Tryz.prog 21 #[.string (mk (Lib.itoa i)), .int .i8 14, (.iface 61 V), .int .i64 2] w fun en w' => en = .returned (.tuple #[(.agg #[.int .i64 10, .int .u64 (IntKind.u64.wrap i), .string ⟨#[]⟩, .slice none 0 0]), .iface 67 (.agg #[.string nm, .int .i32 i]), .nilIface]) ∧ Keeps (fun _ => False) w w' := by
 have H1 := Lib.hid h1
 have H2 := Lib.hid h2
 have HV := Lib.hid hv
 have HL := Lib.hid hL
 have HX := Lib.hid hx
 clear hv hL hx
 go_enter Tryz.func21, Tryz.ntmps21
 go_wp2_with (first | (go_at_call 54; with_reducible refine (parseInt_10_32 i H1.out H2.out _).mono ?_; rintro en w3 ⟨rfl, k3⟩; have HR3 := Lib.hid (k3.row (heap_alloc_new w _) id); have HK3 := Lib.hid (((Keeps.refl (fun _ => False) w).alloc _).trans k3 (fun _ _ h => h)); have HKG := Lib.hid (Nat.le_refl w.heap.size); clear k3; revert HR3 HK3 HKG; generalize hgK : w.heap.size = K; intro HR3 HK3 HKG) | (go_at_call 18; with_reducible refine (byNumber_hit V L i (.iface 67 (.agg #[.string nm, .int .i32 i])) HL.out _ (HV.out.keeps HK3.out) HX.out).mono ?_; rintro en w4 ⟨rfl, k4⟩; have HR4 := Lib.hid (k4.row HR3.out id); have HK4 := Lib.hid (HK3.out.trans k4 (fun _ _ h => h)); clear k4) | (go_at_call 205; with_reducible refine (number_any nm i _).mono ?_; rintro en w5 ⟨rfl, k5⟩; have HR5 := Lib.hid (k5.row HR4.out id); have HK5 := Lib.hid (HK4.out.trans k5 (fun _ _ h => h)); clear k5) | (go_at_call 45; with_reducible refine (valueOfEnum_any i _).mono ?_; rintro en w9 ⟨rfl, k9⟩; have hr9 := k9.row HR5.out id; have f9 := fun j => frozen_row (j := j) hr9; have x0 := cell_row (j := 0) hr9; have x1 := cell_row (j := 1) hr9; have x2 := cell_row (j := 2) hr9; have x3 := cell_row (j := 3) hr9; simp at x0 x1 x2 x3; have HR9 := Lib.hid hr9; have HK9 := Lib.hid (HK5.out.trans k9 (fun _ _ h => h)); clear k9 hr9) | (first | (go_at_call 44; go_in) | (go_at_call 45; go_in) | (go_at_call 46; go_in) | (go_at_call 47; go_in) | (go_at_call 48; go_in) | (go_at_call 49; go_in) | (go_at_call 52; go_in) | (go_at_call 74; go_in) | (go_at_call 204; go_in) | (go_at_call 205; go_in)))
 all_goals (try simp only [Exit.inBlock, Exit.then])
 all_goals refine bodyPost_ret (results_cell_2u rfl _ _ K rfl (run_loadVar_row _ _ _ _ _ (0, 0) _ (row4 HR9.out _ _ _ _) Tryz.underlying74 rfl (by kernel_rfl))) rfl ?_
 all_goals first | exact ⟨rfl, HK9.out.trans (keeps4 _ _ _ _ _ _) (fun i hi e => by have := HKG.out; omega)⟩ | (refine ⟨?_, by repeat (first | exact Keeps.refl _ _ | apply Keeps.alloc | apply Keeps.drew)⟩; simp_all)
set_option maxRecDepth 1000000 in
set_option maxHeartbeats 8000000 in
theorem unmarshal_14_1 (V : Value) (L : List EV) (hL : L.length ≤ 100000000) (nm : ByteArray) (i : Int) (w : World) (hv : EVsAt w V L) (hx : evF (fun e => e.name == nm) L = .iface 67 (.agg #[.string nm, .int .i32 i])) :
 Calls Tryz.prog 21 #[.string nm, .int .i8 14, (.iface 61 V), .int .i64 1] w fun en w' => en = .returned (.tuple #[(.agg #[.int .i64 10, .int .u64 (IntKind.u64.wrap i), .string ⟨#[]⟩, .slice none 0 0]), .iface 67 (.agg #[.string nm, .int .i32 i]), .nilIface]) ∧ Keeps (fun _ => False) w w' := by
 have HV := Lib.hid hv
 have HL := Lib.hid hL
 have HX := Lib.hid hx
 clear hv hL hx
 go_enter Tryz.func21, Tryz.ntmps21
 go_wp2_with (first | (go_at_call 202; with_reducible refine (byName_hit V L nm (.iface 67 (.agg #[.string nm, .int .i32 i])) HL.out _ (HV.out.keeps ((Keeps.refl (fun _ => False) w).alloc _)) HX.out).mono ?_; rintro en w3 ⟨rfl, k3⟩; have HR3 := Lib.hid (k3.row (heap_alloc_new w _) id); have HK3 := Lib.hid (((Keeps.refl (fun _ => False) w).alloc _).trans k3 (fun _ _ h => h)); have HKG := Lib.hid (Nat.le_refl w.heap.size); clear k3; revert HR3 HK3 HKG; generalize hgK : w.heap.size = K; intro HR3 HK3 HKG) | (go_at_call 205; with_reducible refine (number_any nm i _).mono ?_; rintro en w4 ⟨rfl, k4⟩; have HR4 := Lib.hid (k4.row HR3.out id); have HK4 := Lib.hid (HK3.out.trans k4 (fun _ _ h => h)); clear k4) | (go_at_call 45; with_reducible refine (valueOfEnum_any i _).mono ?_; rintro en w9 ⟨rfl, k9⟩; have hr9 := k9.row HR4.out id; have f9 := fun j => frozen_row (j := j) hr9; have x0 := cell_row (j := 0) hr9; have x1 := cell_row (j := 1) hr9; have x2 := cell_row (j := 2) hr9; have x3 := cell_row (j := 3) hr9; simp at x0 x1 x2 x3; have HR9 := Lib.hid hr9; have HK9 := Lib.hid (HK4.out.trans k9 (fun _ _ h => h)); clear k9 hr9) | (first | (go_at_call 44; go_in) | (go_at_call 45; go_in) | (go_at_call 46; go_in) | (go_at_call 47; go_in) | (go_at_call 48; go_in) | (go_at_call 49; go_in) | (go_at_call 52; go_in) | (go_at_call 74; go_in) | (go_at_call 204; go_in) | (go_at_call 205; go_in)))
 all_goals (try simp only [Exit.inBlock, Exit.then])
 all_goals refine bodyPost_ret (results_cell_2u rfl _ _ K rfl (run_loadVar_row _ _ _ _ _ (0, 0) _ (row4 HR9.out _ _ _ _) Tryz.underlying74 rfl (by kernel_rfl))) rfl ?_
 all_goals first | exact ⟨rfl, HK9.out.trans (keeps4 _ _ _ _ _ _) (fun i hi e => by have := HKG.out; omega)⟩ | (refine ⟨?_, by repeat (first | exact Keeps.refl _ _ | apply Keeps.alloc | apply Keeps.drew)⟩; simp_all)
theorem bytes_set4 {w : World} {K : Nat} {x0 x1 : Int} {x2 : ByteArray} {x3 : Value} {T : TypeId} (hr : w.heap[K]? = some (.cells #[.int .i64 x0, .int .u64 x1, .string x2, x3] T (0, 0))) (hx3 : ∀ z, x3 ≠ .int .u8 z) {v : Value} {l : List UInt8} (h : BytesAt w v l) (a b c d : Value) : BytesAt ((((w.setCell ⟨K, 0, none⟩ a).setCell ⟨K, 1, none⟩ b).setCell ⟨K, 2, none⟩ c).setCell ⟨K, 3, none⟩ d) v l := by
 obtain ⟨a', c', hv, h1, h2, h3⟩ := h
 by_cases h0 : l = []
 · exact ⟨a', c', hv, h1, h2, .inl h0⟩
 · rcases h3 with h3 | ⟨B, off, ha, h3⟩
   · exact absurd h3 h0
   refine BytesAt.keeps ⟨a', c', hv, h1, h2, .inr ⟨B, off, ha, h3⟩⟩ (keeps4 w K a b c d) ?_
   intro k hk e
   subst e hv ha
   simp only [Value.ownBlock, Option.some.injEq] at hk
   subst hk
   · have h4 := h3 0 (List.length_pos_iff.2 h0)
     rw [cell_row hr] at h4
     match off, h4 with
     | 0, h4 => simp at h4
     | 1, h4 => simp at h4
     | 2, h4 => simp at h4
     | 3, h4 => simp at h4; exact hx3 _ h4
     | n + 4, h4 => simp at h4
set_option maxRecDepth 1000000 in
set_option maxHeartbeats 8000000 in
theorem unmarshal_12 (ev : Value) (form : Int) (l : List UInt8) (hl : l.length ≤ 100000) (w : World) (hT : Tabs w) :
 Calls Tryz.prog 21 #[.string (mk (encB l)), .int .i8 12, ev, .int .i64 form] w fun en w' => (∃ V, en = .returned (.tuple #[(.agg #[.int .i64 9, .int .u64 0, .string ⟨#[]⟩, V]), .nilIface, .nilIface]) ∧ BytesAt w' V l) ∧ Keeps (fun _ => False) w w' := by
 have HT := Lib.hid hT
 have HL := Lib.hid hl
 clear hl hT
 go_enter Tryz.func21, Tryz.ntmps21
 go_wp2_with (first | (go_at_call 59; go_loud (with_reducible refine (unmarshalBytes_any l _ (HT.out.keeps ((Keeps.refl (fun _ => False) w).alloc _) (fun _ _ h => h)) HL.out).mono ?_); rintro en w3 ⟨⟨V, rfl, hb⟩, k3⟩; obtain ⟨a, c, hV, q1, q2, q3⟩ := hb; obtain ⟨n, hn⟩ : ∃ n, l.length = n := ⟨_, rfl⟩; rw [hn] at hV; subst hV; have HN := Lib.hid hn; have HQ1 := Lib.hid q1; have HQ2 := Lib.hid q2; have HQ3 := Lib.hid q3; clear q1 q2 q3 hn; have HR3 := Lib.hid (k3.row (heap_alloc_new w _) id); have HK3 := Lib.hid (((Keeps.refl (fun _ => False) w).alloc _).trans k3 (fun _ _ h => h)); have HKG := Lib.hid (Nat.le_refl w.heap.size); clear k3; revert HR3 HK3 HKG; generalize hgK : w.heap.size = K; intro HR3 HK3 HKG) | (go_at_call 53; with_reducible refine (valueOfBytes_any a n c (by rw [← HN.out]; exact HQ1.out) HQ2.out _).mono ?_; rintro en w9 ⟨rfl, k9⟩; have hr9 := k9.row HR3.out id; have f9 := fun j => frozen_row (j := j) hr9; have x0 := cell_row (j := 0) hr9; have x1 := cell_row (j := 1) hr9; have x2 := cell_row (j := 2) hr9; have x3 := cell_row (j := 3) hr9; simp at x0 x1 x2 x3; have HR9 := Lib.hid hr9; have HK9 := Lib.hid (HK3.out.trans k9 (fun _ _ h => h)); have HK39 := Lib.hid k9; clear k9 hr9) | (first | (go_at_call 44; go_in) | (go_at_call 45; go_in) | (go_at_call 46; go_in) | (go_at_call 47; go_in) | (go_at_call 48; go_in) | (go_at_call 49; go_in) | (go_at_call 52; go_in) | (go_at_call 74; go_in) | (go_at_call 204; go_in) | (go_at_call 205; go_in)))
 all_goals (try simp only [Exit.inBlock, Exit.then])
 all_goals refine bodyPost_ret (results_cell_2u rfl _ _ K rfl (run_loadVar_row _ _ _ _ _ (0, 0) _ (row4 HR9.out _ _ _ _) Tryz.underlying74 rfl (by kernel_rfl))) rfl ?_
 all_goals first | exact ⟨⟨_, rfl, bytes_set4 HR9.out (fun z e => by cases e) (BytesAt.keeps ⟨a, n, by rw [HN.out], Nat.le_of_eq HN.out, by have := HQ1.out; have := HQ2.out; rw [HN.out] at *; omega, HQ3.out⟩ HK39.out (fun _ _ => id)) _ _ _ _⟩, HK9.out.trans (keeps4 _ _ _ _ _ _) (fun i hi e => by have := HKG.out; omega)⟩ | (refine ⟨?_, by repeat (first | exact Keeps.refl _ _ | apply Keeps.alloc | apply Keeps.drew)⟩; simp_all)
end Go.Proofs.YtonegoemmologaaGreatDoor
