/-
  The thin package's plain, kind by kind.
-/
import Derived.Test.YtonegoemmologaaGreatDoorM08
import Derived.Test.YtonegoemmologaaGreatDoorM02
import Derived.Deep.DeepCutAuto
set_option linter.unusedVariables false
set_option linter.unusedSimpArgs false
namespace Go.Proofs.YtonegoemmologaaGreatDoor
open Go.RowKit
set_option maxRecDepth 1000000 in
set_option maxHeartbeats 8000000 in
theorem plain_8_true (w : World) :
 Calls Tryz.prog 22 #[.agg #[.int .i64 1, .int .u64 1, .string ⟨#[]⟩, .slice none 0 0], .int .i64 8] w fun en w' => en = .returned (iv 8 true 0 0 0 noS noS) ∧ Keeps (fun _ => False) w w' := by
 unfold iv noS
 go_enter Tryz.func22, Tryz.ntmps22
 go_wp2_with ((first | (go_at_call 30; go_in) | (go_at_call 32; go_in) | (go_at_call 33; go_in) | (go_at_call 35; go_in) | (go_at_call 36; go_in) | (go_at_call 40; go_in) | (go_at_call 42; go_in) | (go_at_call 72; go_in) | (go_at_call 73; go_in)))
 all_goals (try simp only [Exit.inBlock, Exit.then])
 all_goals refine bodyPost_ret (results_cell_row rfl _ _ (w.heap.size + 1) _ _ (0, 0) _ rfl (Keeps.row (by repeat (first | exact Keeps.refl (fun _ => False) _ | apply Keeps.alloc)) (heap_alloc2_new w _ _) id) Tryz.underlying42 rfl (by kernel_rfl)) rfl ?_
 all_goals first | exact ⟨rfl, by repeat (first | exact Keeps.refl _ _ | apply Keeps.alloc | apply Keeps.drew)⟩ | (refine ⟨?_, by repeat (first | exact Keeps.refl _ _ | apply Keeps.alloc | apply Keeps.drew)⟩; simp_all)
set_option maxRecDepth 1000000 in
set_option maxHeartbeats 8000000 in
theorem plain_8_false (w : World) :
 Calls Tryz.prog 22 #[.agg #[.int .i64 1, .int .u64 0, .string ⟨#[]⟩, .slice none 0 0], .int .i64 8] w fun en w' => en = .returned (iv 8 false 0 0 0 noS noS) ∧ Keeps (fun _ => False) w w' := by
 unfold iv noS
 go_enter Tryz.func22, Tryz.ntmps22
 go_wp2_with ((first | (go_at_call 30; go_in) | (go_at_call 32; go_in) | (go_at_call 33; go_in) | (go_at_call 35; go_in) | (go_at_call 36; go_in) | (go_at_call 40; go_in) | (go_at_call 42; go_in) | (go_at_call 72; go_in) | (go_at_call 73; go_in)))
 all_goals (try simp only [Exit.inBlock, Exit.then])
 all_goals refine bodyPost_ret (results_cell_row rfl _ _ (w.heap.size + 1) _ _ (0, 0) _ rfl (Keeps.row (by repeat (first | exact Keeps.refl (fun _ => False) _ | apply Keeps.alloc)) (heap_alloc2_new w _ _) id) Tryz.underlying42 rfl (by kernel_rfl)) rfl ?_
 all_goals first | exact ⟨rfl, by repeat (first | exact Keeps.refl _ _ | apply Keeps.alloc | apply Keeps.drew)⟩ | (refine ⟨?_, by repeat (first | exact Keeps.refl _ _ | apply Keeps.alloc | apply Keeps.drew)⟩; simp_all)
set_option maxRecDepth 1000000 in
set_option maxHeartbeats 8000000 in
theorem plain_14 (i n : Int) (hn : IntKind.i32.wrap n = i) (hn2 : wrap64 i = i) (w : World) :
 Calls Tryz.prog 22 #[.agg #[.int .i64 10, .int .u64 n, .string ⟨#[]⟩, .slice none 0 0], .int .i64 14] w fun en w' => en = .returned (iv 14 false i 0 0 noS noS) ∧ Keeps (fun _ => False) w w' := by
 unfold iv noS
 go_enter Tryz.func22, Tryz.ntmps22
 go_wp2_with ((first | (go_at_call 30; go_in) | (go_at_call 32; go_in) | (go_at_call 33; go_in) | (go_at_call 35; go_in) | (go_at_call 36; go_in) | (go_at_call 40; go_in) | (go_at_call 42; go_in) | (go_at_call 72; go_in) | (go_at_call 73; go_in)))
 all_goals (try simp only [Exit.inBlock, Exit.then])
 all_goals refine bodyPost_ret (results_cell_row rfl _ _ (w.heap.size + 1) _ _ (0, 0) _ rfl (Keeps.row (by repeat (first | exact Keeps.refl (fun _ => False) _ | apply Keeps.alloc)) (heap_alloc2_new w _ _) id) Tryz.underlying42 rfl (by kernel_rfl)) rfl ?_
 all_goals first | exact ⟨rfl, by repeat (first | exact Keeps.refl _ _ | apply Keeps.alloc | apply Keeps.drew)⟩ | (refine ⟨?_, by repeat (first | exact Keeps.refl _ _ | apply Keeps.alloc | apply Keeps.drew)⟩; simp_all)
set_option maxRecDepth 1000000 in
set_option maxHeartbeats 8000000 in
theorem plain_5 (i n : Int) (hn : IntKind.i64.wrap n = i) (hn2 : wrap64 n = i) (w : World) :
 Calls Tryz.prog 22 #[.agg #[.int .i64 2, .int .u64 n, .string ⟨#[]⟩, .slice none 0 0], .int .i64 5] w fun en w' => en = .returned (iv 5 false i 0 0 noS noS) ∧ Keeps (fun _ => False) w w' := by
 unfold iv noS
 go_enter Tryz.func22, Tryz.ntmps22
 go_wp2_with ((first | (go_at_call 30; go_in) | (go_at_call 32; go_in) | (go_at_call 33; go_in) | (go_at_call 35; go_in) | (go_at_call 36; go_in) | (go_at_call 40; go_in) | (go_at_call 42; go_in) | (go_at_call 72; go_in) | (go_at_call 73; go_in)))
 all_goals (try simp only [Exit.inBlock, Exit.then])
 all_goals refine bodyPost_ret (results_cell_row rfl _ _ (w.heap.size + 1) _ _ (0, 0) _ rfl (Keeps.row (by repeat (first | exact Keeps.refl (fun _ => False) _ | apply Keeps.alloc)) (heap_alloc2_new w _ _) id) Tryz.underlying42 rfl (by kernel_rfl)) rfl ?_
 all_goals first | exact ⟨rfl, by repeat (first | exact Keeps.refl _ _ | apply Keeps.alloc | apply Keeps.drew)⟩ | (refine ⟨?_, by repeat (first | exact Keeps.refl _ _ | apply Keeps.alloc | apply Keeps.drew)⟩; simp_all)
set_option maxRecDepth 1000000 in
set_option maxHeartbeats 8000000 in
theorem plain_17 (i n : Int) (hn : IntKind.i64.wrap n = i) (hn2 : wrap64 n = i) (w : World) :
 Calls Tryz.prog 22 #[.agg #[.int .i64 2, .int .u64 n, .string ⟨#[]⟩, .slice none 0 0], .int .i64 17] w fun en w' => en = .returned (iv 17 false i 0 0 noS noS) ∧ Keeps (fun _ => False) w w' := by
 unfold iv noS
 go_enter Tryz.func22, Tryz.ntmps22
 go_wp2_with ((first | (go_at_call 30; go_in) | (go_at_call 32; go_in) | (go_at_call 33; go_in) | (go_at_call 35; go_in) | (go_at_call 36; go_in) | (go_at_call 40; go_in) | (go_at_call 42; go_in) | (go_at_call 72; go_in) | (go_at_call 73; go_in)))
 all_goals (try simp only [Exit.inBlock, Exit.then])
 all_goals refine bodyPost_ret (results_cell_row rfl _ _ (w.heap.size + 1) _ _ (0, 0) _ rfl (Keeps.row (by repeat (first | exact Keeps.refl (fun _ => False) _ | apply Keeps.alloc)) (heap_alloc2_new w _ _) id) Tryz.underlying42 rfl (by kernel_rfl)) rfl ?_
 all_goals first | exact ⟨rfl, by repeat (first | exact Keeps.refl _ _ | apply Keeps.alloc | apply Keeps.drew)⟩ | (refine ⟨?_, by repeat (first | exact Keeps.refl _ _ | apply Keeps.alloc | apply Keeps.drew)⟩; simp_all)
set_option maxRecDepth 1000000 in
set_option maxHeartbeats 8000000 in
theorem plain_15 (i n : Int) (hn : IntKind.i64.wrap n = i) (hn2 : wrap64 n = i) (w : World) :
 Calls Tryz.prog 22 #[.agg #[.int .i64 2, .int .u64 n, .string ⟨#[]⟩, .slice none 0 0], .int .i64 15] w fun en w' => en = .returned (iv 15 false i 0 0 noS noS) ∧ Keeps (fun _ => False) w w' := by
 unfold iv noS
 go_enter Tryz.func22, Tryz.ntmps22
 go_wp2_with ((first | (go_at_call 30; go_in) | (go_at_call 32; go_in) | (go_at_call 33; go_in) | (go_at_call 35; go_in) | (go_at_call 36; go_in) | (go_at_call 40; go_in) | (go_at_call 42; go_in) | (go_at_call 72; go_in) | (go_at_call 73; go_in)))
 all_goals (try simp only [Exit.inBlock, Exit.then])
 all_goals refine bodyPost_ret (results_cell_row rfl _ _ (w.heap.size + 1) _ _ (0, 0) _ rfl (Keeps.row (by repeat (first | exact Keeps.refl (fun _ => False) _ | apply Keeps.alloc)) (heap_alloc2_new w _ _) id) Tryz.underlying42 rfl (by kernel_rfl)) rfl ?_
 all_goals first | exact ⟨rfl, by repeat (first | exact Keeps.refl _ _ | apply Keeps.alloc | apply Keeps.drew)⟩ | (refine ⟨?_, by repeat (first | exact Keeps.refl _ _ | apply Keeps.alloc | apply Keeps.drew)⟩; simp_all)
set_option maxRecDepth 1000000 in
set_option maxHeartbeats 8000000 in
theorem plain_3 (i n : Int) (hn : IntKind.i64.wrap n = i) (hn2 : wrap64 n = i) (w : World) :
 Calls Tryz.prog 22 #[.agg #[.int .i64 3, .int .u64 n, .string ⟨#[]⟩, .slice none 0 0], .int .i64 3] w fun en w' => en = .returned (iv 3 false i 0 0 noS noS) ∧ Keeps (fun _ => False) w w' := by
 unfold iv noS
 go_enter Tryz.func22, Tryz.ntmps22
 go_wp2_with ((first | (go_at_call 30; go_in) | (go_at_call 32; go_in) | (go_at_call 33; go_in) | (go_at_call 35; go_in) | (go_at_call 36; go_in) | (go_at_call 40; go_in) | (go_at_call 42; go_in) | (go_at_call 72; go_in) | (go_at_call 73; go_in)))
 all_goals (try simp only [Exit.inBlock, Exit.then])
 all_goals refine bodyPost_ret (results_cell_row rfl _ _ (w.heap.size + 1) _ _ (0, 0) _ rfl (Keeps.row (by repeat (first | exact Keeps.refl (fun _ => False) _ | apply Keeps.alloc)) (heap_alloc2_new w _ _) id) Tryz.underlying42 rfl (by kernel_rfl)) rfl ?_
 all_goals first | exact ⟨rfl, by repeat (first | exact Keeps.refl _ _ | apply Keeps.alloc | apply Keeps.drew)⟩ | (refine ⟨?_, by repeat (first | exact Keeps.refl _ _ | apply Keeps.alloc | apply Keeps.drew)⟩; simp_all)
set_option maxRecDepth 1000000 in
set_option maxHeartbeats 8000000 in
theorem plain_18 (i n : Int) (hn : IntKind.i64.wrap n = i) (hn2 : wrap64 n = i) (w : World) :
 Calls Tryz.prog 22 #[.agg #[.int .i64 3, .int .u64 n, .string ⟨#[]⟩, .slice none 0 0], .int .i64 18] w fun en w' => en = .returned (iv 18 false i 0 0 noS noS) ∧ Keeps (fun _ => False) w w' := by
 unfold iv noS
 go_enter Tryz.func22, Tryz.ntmps22
 go_wp2_with ((first | (go_at_call 30; go_in) | (go_at_call 32; go_in) | (go_at_call 33; go_in) | (go_at_call 35; go_in) | (go_at_call 36; go_in) | (go_at_call 40; go_in) | (go_at_call 42; go_in) | (go_at_call 72; go_in) | (go_at_call 73; go_in)))
 all_goals (try simp only [Exit.inBlock, Exit.then])
 all_goals refine bodyPost_ret (results_cell_row rfl _ _ (w.heap.size + 1) _ _ (0, 0) _ rfl (Keeps.row (by repeat (first | exact Keeps.refl (fun _ => False) _ | apply Keeps.alloc)) (heap_alloc2_new w _ _) id) Tryz.underlying42 rfl (by kernel_rfl)) rfl ?_
 all_goals first | exact ⟨rfl, by repeat (first | exact Keeps.refl _ _ | apply Keeps.alloc | apply Keeps.drew)⟩ | (refine ⟨?_, by repeat (first | exact Keeps.refl _ _ | apply Keeps.alloc | apply Keeps.drew)⟩; simp_all)
set_option maxRecDepth 1000000 in
set_option maxHeartbeats 8000000 in
theorem plain_16 (i n : Int) (hn : IntKind.i64.wrap n = i) (hn2 : wrap64 n = i) (w : World) :
 Calls Tryz.prog 22 #[.agg #[.int .i64 3, .int .u64 n, .string ⟨#[]⟩, .slice none 0 0], .int .i64 16] w fun en w' => en = .returned (iv 16 false i 0 0 noS noS) ∧ Keeps (fun _ => False) w w' := by
 unfold iv noS
 go_enter Tryz.func22, Tryz.ntmps22
 go_wp2_with ((first | (go_at_call 30; go_in) | (go_at_call 32; go_in) | (go_at_call 33; go_in) | (go_at_call 35; go_in) | (go_at_call 36; go_in) | (go_at_call 40; go_in) | (go_at_call 42; go_in) | (go_at_call 72; go_in) | (go_at_call 73; go_in)))
 all_goals (try simp only [Exit.inBlock, Exit.then])
 all_goals refine bodyPost_ret (results_cell_row rfl _ _ (w.heap.size + 1) _ _ (0, 0) _ rfl (Keeps.row (by repeat (first | exact Keeps.refl (fun _ => False) _ | apply Keeps.alloc)) (heap_alloc2_new w _ _) id) Tryz.underlying42 rfl (by kernel_rfl)) rfl ?_
 all_goals first | exact ⟨rfl, by repeat (first | exact Keeps.refl _ _ | apply Keeps.alloc | apply Keeps.drew)⟩ | (refine ⟨?_, by repeat (first | exact Keeps.refl _ _ | apply Keeps.alloc | apply Keeps.drew)⟩; simp_all)
set_option maxRecDepth 1000000 in
set_option maxHeartbeats 8000000 in
theorem plain_13 (u : Int) (w : World) :
 Calls Tryz.prog 22 #[.agg #[.int .i64 4, .int .u64 u, .string ⟨#[]⟩, .slice none 0 0], .int .i64 13] w fun en w' => en = .returned (iv 13 false 0 u 0 noS noS) ∧ Keeps (fun _ => False) w w' := by
 unfold iv noS
 go_enter Tryz.func22, Tryz.ntmps22
 go_wp2_with ((first | (go_at_call 30; go_in) | (go_at_call 32; go_in) | (go_at_call 33; go_in) | (go_at_call 35; go_in) | (go_at_call 36; go_in) | (go_at_call 40; go_in) | (go_at_call 42; go_in) | (go_at_call 72; go_in) | (go_at_call 73; go_in)))
 all_goals (try simp only [Exit.inBlock, Exit.then])
 all_goals refine bodyPost_ret (results_cell_row rfl _ _ (w.heap.size + 1) _ _ (0, 0) _ rfl (Keeps.row (by repeat (first | exact Keeps.refl (fun _ => False) _ | apply Keeps.alloc)) (heap_alloc2_new w _ _) id) Tryz.underlying42 rfl (by kernel_rfl)) rfl ?_
 all_goals first | exact ⟨rfl, by repeat (first | exact Keeps.refl _ _ | apply Keeps.alloc | apply Keeps.drew)⟩ | (refine ⟨?_, by repeat (first | exact Keeps.refl _ _ | apply Keeps.alloc | apply Keeps.drew)⟩; simp_all)
set_option maxRecDepth 1000000 in
set_option maxHeartbeats 8000000 in
theorem plain_7 (u : Int) (w : World) :
 Calls Tryz.prog 22 #[.agg #[.int .i64 4, .int .u64 u, .string ⟨#[]⟩, .slice none 0 0], .int .i64 7] w fun en w' => en = .returned (iv 7 false 0 u 0 noS noS) ∧ Keeps (fun _ => False) w w' := by
 unfold iv noS
 go_enter Tryz.func22, Tryz.ntmps22
 go_wp2_with ((first | (go_at_call 30; go_in) | (go_at_call 32; go_in) | (go_at_call 33; go_in) | (go_at_call 35; go_in) | (go_at_call 36; go_in) | (go_at_call 40; go_in) | (go_at_call 42; go_in) | (go_at_call 72; go_in) | (go_at_call 73; go_in)))
 all_goals (try simp only [Exit.inBlock, Exit.then])
 all_goals refine bodyPost_ret (results_cell_row rfl _ _ (w.heap.size + 1) _ _ (0, 0) _ rfl (Keeps.row (by repeat (first | exact Keeps.refl (fun _ => False) _ | apply Keeps.alloc)) (heap_alloc2_new w _ _) id) Tryz.underlying42 rfl (by kernel_rfl)) rfl ?_
 all_goals first | exact ⟨rfl, by repeat (first | exact Keeps.refl _ _ | apply Keeps.alloc | apply Keeps.drew)⟩ | (refine ⟨?_, by repeat (first | exact Keeps.refl _ _ | apply Keeps.alloc | apply Keeps.drew)⟩; simp_all)
set_option maxRecDepth 1000000 in
set_option maxHeartbeats 8000000 in
theorem plain_4 (u : Int) (w : World) :
 Calls Tryz.prog 22 #[.agg #[.int .i64 5, .int .u64 u, .string ⟨#[]⟩, .slice none 0 0], .int .i64 4] w fun en w' => en = .returned (iv 4 false 0 u 0 noS noS) ∧ Keeps (fun _ => False) w w' := by
 unfold iv noS
 go_enter Tryz.func22, Tryz.ntmps22
 go_wp2_with ((first | (go_at_call 30; go_in) | (go_at_call 32; go_in) | (go_at_call 33; go_in) | (go_at_call 35; go_in) | (go_at_call 36; go_in) | (go_at_call 40; go_in) | (go_at_call 42; go_in) | (go_at_call 72; go_in) | (go_at_call 73; go_in)))
 all_goals (try simp only [Exit.inBlock, Exit.then])
 all_goals refine bodyPost_ret (results_cell_row rfl _ _ (w.heap.size + 1) _ _ (0, 0) _ rfl (Keeps.row (by repeat (first | exact Keeps.refl (fun _ => False) _ | apply Keeps.alloc)) (heap_alloc2_new w _ _) id) Tryz.underlying42 rfl (by kernel_rfl)) rfl ?_
 all_goals first | exact ⟨rfl, by repeat (first | exact Keeps.refl _ _ | apply Keeps.alloc | apply Keeps.drew)⟩ | (refine ⟨?_, by repeat (first | exact Keeps.refl _ _ | apply Keeps.alloc | apply Keeps.drew)⟩; simp_all)
set_option maxRecDepth 1000000 in
set_option maxHeartbeats 8000000 in
theorem plain_6 (u : Int) (w : World) :
 Calls Tryz.prog 22 #[.agg #[.int .i64 5, .int .u64 u, .string ⟨#[]⟩, .slice none 0 0], .int .i64 6] w fun en w' => en = .returned (iv 6 false 0 u 0 noS noS) ∧ Keeps (fun _ => False) w w' := by
 unfold iv noS
 go_enter Tryz.func22, Tryz.ntmps22
 go_wp2_with ((first | (go_at_call 30; go_in) | (go_at_call 32; go_in) | (go_at_call 33; go_in) | (go_at_call 35; go_in) | (go_at_call 36; go_in) | (go_at_call 40; go_in) | (go_at_call 42; go_in) | (go_at_call 72; go_in) | (go_at_call 73; go_in)))
 all_goals (try simp only [Exit.inBlock, Exit.then])
 all_goals refine bodyPost_ret (results_cell_row rfl _ _ (w.heap.size + 1) _ _ (0, 0) _ rfl (Keeps.row (by repeat (first | exact Keeps.refl (fun _ => False) _ | apply Keeps.alloc)) (heap_alloc2_new w _ _) id) Tryz.underlying42 rfl (by kernel_rfl)) rfl ?_
 all_goals first | exact ⟨rfl, by repeat (first | exact Keeps.refl _ _ | apply Keeps.alloc | apply Keeps.drew)⟩ | (refine ⟨?_, by repeat (first | exact Keeps.refl _ _ | apply Keeps.alloc | apply Keeps.drew)⟩; simp_all)
set_option maxRecDepth 1000000 in
set_option maxHeartbeats 8000000 in
theorem plain_2 (f : Nat) (w : World) :
 Calls Tryz.prog 22 #[.agg #[.int .i64 6, .int .u64 (f : Int), .string ⟨#[]⟩, .slice none 0 0], .int .i64 2] w fun en w' => en = .returned (iv 2 false 0 0 (f : Int) noS noS) ∧ Keeps (fun _ => False) w w' := by
 unfold iv noS
 have hfo := f64of_run f
 have hft := f64to_run f
 go_enter Tryz.func22, Tryz.ntmps22
 go_wp2_with ((first | (go_at_call 30; go_in) | (go_at_call 32; go_in) | (go_at_call 33; go_in) | (go_at_call 35; go_in) | (go_at_call 36; go_in) | (go_at_call 40; go_in) | (go_at_call 42; go_in) | (go_at_call 72; go_in) | (go_at_call 73; go_in)))
 all_goals (try simp only [Exit.inBlock, Exit.then])
 all_goals refine bodyPost_ret (results_cell_row rfl _ _ (w.heap.size + 1) _ _ (0, 0) _ rfl (Keeps.row (by repeat (first | exact Keeps.refl (fun _ => False) _ | apply Keeps.alloc)) (heap_alloc2_new w _ _) id) Tryz.underlying42 rfl (by kernel_rfl)) rfl ?_
 all_goals first | exact ⟨rfl, by repeat (first | exact Keeps.refl _ _ | apply Keeps.alloc | apply Keeps.drew)⟩ | (refine ⟨?_, by repeat (first | exact Keeps.refl _ _ | apply Keeps.alloc | apply Keeps.drew)⟩; simp_all)
set_option maxRecDepth 1000000 in
set_option maxHeartbeats 8000000 in
theorem plain_1 (f : Nat) (w : World) :
 Calls Tryz.prog 22 #[.agg #[.int .i64 7, .int .u64 (f : Int), .string ⟨#[]⟩, .slice none 0 0], .int .i64 1] w fun en w' => en = .returned (iv 1 false 0 0 (f : Int) noS noS) ∧ Keeps (fun _ => False) w w' := by
 unfold iv noS
 have hfo := f64of_run f
 have hft := f64to_run f
 go_enter Tryz.func22, Tryz.ntmps22
 go_wp2_with ((first | (go_at_call 30; go_in) | (go_at_call 32; go_in) | (go_at_call 33; go_in) | (go_at_call 35; go_in) | (go_at_call 36; go_in) | (go_at_call 40; go_in) | (go_at_call 42; go_in) | (go_at_call 72; go_in) | (go_at_call 73; go_in)))
 all_goals (try simp only [Exit.inBlock, Exit.then])
 all_goals refine bodyPost_ret (results_cell_row rfl _ _ (w.heap.size + 1) _ _ (0, 0) _ rfl (Keeps.row (by repeat (first | exact Keeps.refl (fun _ => False) _ | apply Keeps.alloc)) (heap_alloc2_new w _ _) id) Tryz.underlying42 rfl (by kernel_rfl)) rfl ?_
 all_goals first | exact ⟨rfl, by repeat (first | exact Keeps.refl _ _ | apply Keeps.alloc | apply Keeps.drew)⟩ | (refine ⟨?_, by repeat (first | exact Keeps.refl _ _ | apply Keeps.alloc | apply Keeps.drew)⟩; simp_all)
set_option maxRecDepth 1000000 in
set_option maxHeartbeats 8000000 in
theorem plain_9 (s : ByteArray) (n : Int) (w : World) :
 Calls Tryz.prog 22 #[.agg #[.int .i64 8, .int .u64 n, .string s, .slice none 0 0], .int .i64 9] w fun en w' => en = .returned (iv 9 false 0 0 0 s noS) ∧ Keeps (fun _ => False) w w' := by
 unfold iv noS
 go_enter Tryz.func22, Tryz.ntmps22
 go_wp2_with ((first | (go_at_call 30; go_in) | (go_at_call 32; go_in) | (go_at_call 33; go_in) | (go_at_call 35; go_in) | (go_at_call 36; go_in) | (go_at_call 40; go_in) | (go_at_call 42; go_in) | (go_at_call 72; go_in) | (go_at_call 73; go_in)))
 all_goals (try simp only [Exit.inBlock, Exit.then])
 all_goals refine bodyPost_ret (results_cell_row rfl _ _ (w.heap.size + 1) _ _ (0, 0) _ rfl (Keeps.row (by repeat (first | exact Keeps.refl (fun _ => False) _ | apply Keeps.alloc)) (heap_alloc2_new w _ _) id) Tryz.underlying42 rfl (by kernel_rfl)) rfl ?_
 all_goals first | exact ⟨rfl, by repeat (first | exact Keeps.refl _ _ | apply Keeps.alloc | apply Keeps.drew)⟩ | (refine ⟨?_, by repeat (first | exact Keeps.refl _ _ | apply Keeps.alloc | apply Keeps.drew)⟩; simp_all)
set_option maxRecDepth 1000000 in
set_option maxHeartbeats 8000000 in
theorem plain_12 (l : List UInt8) (V : Value) (w : World) (hb : BytesAt w V l) :
 Calls Tryz.prog 22 #[.agg #[.int .i64 9, .int .u64 0, .string ⟨#[]⟩, V], .int .i64 12] w fun en w' => en = .returned (iv 12 false 0 0 0 (mk l) noS) ∧ Keeps (fun _ => False) w w' := by
 unfold iv noS
 have hc3 : ∀ (o0 : Obj) (o1 : Obj) (o2 : Obj), (convert 72 9 V).run Tryz.prog (((w.alloc o0).alloc o1).alloc o2) = .ok (.string (mk l)) (((w.alloc o0).alloc o1).alloc o2) := fun o0 o1 o2 => run_to_str (hb.keeps (S := fun _ => False) (by repeat (first | exact Keeps.refl _ _ | apply Keeps.alloc)) (fun _ _ => id))
 have hc4 : ∀ (o0 : Obj) (o1 : Obj) (o2 : Obj) (o3 : Obj), (convert 72 9 V).run Tryz.prog ((((w.alloc o0).alloc o1).alloc o2).alloc o3) = .ok (.string (mk l)) ((((w.alloc o0).alloc o1).alloc o2).alloc o3) := fun o0 o1 o2 o3 => run_to_str (hb.keeps (S := fun _ => False) (by repeat (first | exact Keeps.refl _ _ | apply Keeps.alloc)) (fun _ _ => id))
 have hc5 : ∀ (o0 : Obj) (o1 : Obj) (o2 : Obj) (o3 : Obj) (o4 : Obj), (convert 72 9 V).run Tryz.prog (((((w.alloc o0).alloc o1).alloc o2).alloc o3).alloc o4) = .ok (.string (mk l)) (((((w.alloc o0).alloc o1).alloc o2).alloc o3).alloc o4) := fun o0 o1 o2 o3 o4 => run_to_str (hb.keeps (S := fun _ => False) (by repeat (first | exact Keeps.refl _ _ | apply Keeps.alloc)) (fun _ _ => id))
 have hc6 : ∀ (o0 : Obj) (o1 : Obj) (o2 : Obj) (o3 : Obj) (o4 : Obj) (o5 : Obj), (convert 72 9 V).run Tryz.prog ((((((w.alloc o0).alloc o1).alloc o2).alloc o3).alloc o4).alloc o5) = .ok (.string (mk l)) ((((((w.alloc o0).alloc o1).alloc o2).alloc o3).alloc o4).alloc o5) := fun o0 o1 o2 o3 o4 o5 => run_to_str (hb.keeps (S := fun _ => False) (by repeat (first | exact Keeps.refl _ _ | apply Keeps.alloc)) (fun _ _ => id))
 have hc7 : ∀ (o0 : Obj) (o1 : Obj) (o2 : Obj) (o3 : Obj) (o4 : Obj) (o5 : Obj) (o6 : Obj), (convert 72 9 V).run Tryz.prog (((((((w.alloc o0).alloc o1).alloc o2).alloc o3).alloc o4).alloc o5).alloc o6) = .ok (.string (mk l)) (((((((w.alloc o0).alloc o1).alloc o2).alloc o3).alloc o4).alloc o5).alloc o6) := fun o0 o1 o2 o3 o4 o5 o6 => run_to_str (hb.keeps (S := fun _ => False) (by repeat (first | exact Keeps.refl _ _ | apply Keeps.alloc)) (fun _ _ => id))
 have hc8 : ∀ (o0 : Obj) (o1 : Obj) (o2 : Obj) (o3 : Obj) (o4 : Obj) (o5 : Obj) (o6 : Obj) (o7 : Obj), (convert 72 9 V).run Tryz.prog ((((((((w.alloc o0).alloc o1).alloc o2).alloc o3).alloc o4).alloc o5).alloc o6).alloc o7) = .ok (.string (mk l)) ((((((((w.alloc o0).alloc o1).alloc o2).alloc o3).alloc o4).alloc o5).alloc o6).alloc o7) := fun o0 o1 o2 o3 o4 o5 o6 o7 => run_to_str (hb.keeps (S := fun _ => False) (by repeat (first | exact Keeps.refl _ _ | apply Keeps.alloc)) (fun _ _ => id))
 clear hb
 go_enter Tryz.func22, Tryz.ntmps22
 go_wp2_with ((first | (go_at_call 30; go_in) | (go_at_call 32; go_in) | (go_at_call 33; go_in) | (go_at_call 35; go_in) | (go_at_call 36; go_in) | (go_at_call 40; go_in) | (go_at_call 42; go_in) | (go_at_call 72; go_in) | (go_at_call 73; go_in)))
 all_goals (try simp only [Exit.inBlock, Exit.then])
 all_goals refine bodyPost_ret (results_cell_row rfl _ _ (w.heap.size + 1) _ _ (0, 0) _ rfl (Keeps.row (by repeat (first | exact Keeps.refl (fun _ => False) _ | apply Keeps.alloc)) (heap_alloc2_new w _ _) id) Tryz.underlying42 rfl (by kernel_rfl)) rfl ?_
 all_goals first | exact ⟨rfl, by repeat (first | exact Keeps.refl _ _ | apply Keeps.alloc | apply Keeps.drew)⟩ | (refine ⟨?_, by repeat (first | exact Keeps.refl _ _ | apply Keeps.alloc | apply Keeps.drew)⟩; simp_all)
end Go.Proofs.YtonegoemmologaaGreatDoor
