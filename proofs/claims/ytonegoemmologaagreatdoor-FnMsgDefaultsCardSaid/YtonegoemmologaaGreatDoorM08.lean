/-
  The thin package's given: a value as the package has it, kind by kind.
  A schema and a message as plain data, and how they lie in memory.
-/
import Derived.Test.YtonegoemmologaaGreatDoorM01
import Derived.Test.YtonegoemmologaaGreatDoorM02
import Derived.Test.YtonegoemmologaaGreatDoorM07
import Derived.Deep.DeepCutAuto
set_option linter.unusedVariables false
set_option linter.unusedSimpArgs false
namespace Go.Proofs.YtonegoemmologaaGreatDoor
open Go.RowKit
def iv (k : Int) (b : Bool) (i u f : Int) (s e : ByteArray) : Value := .agg #[.int .i64 k, .bool b, .int .i64 i, .int .u64 u, .int .u64 f, .string s, .string e]
def pv (t n : Int) (s : ByteArray) (b : Value) : Value := .agg #[.int .i64 t, .int .u64 n, .string s, b]
def noS : ByteArray := ⟨#[]⟩
theorem f64of_run (f : Nat) (w : World) : (callFunc 23 #[.int .u64 (f : Int)]).run Tryz.prog w = .ok (.value (.float .f64 f)) w := by
 rw [run_callFunc_extern Tryz.func23 (e := Extern.MathFloatBits.float64frombits) (by kernel_rfl) (by kernel_rfl) (by kernel_rfl) (by kernel_rfl)]
 rfl
theorem f64to_run (f : Nat) (w : World) : (callFunc 60 #[.float .f64 f]).run Tryz.prog w = .ok (.value (.int .u64 (f : Int))) w := by
 rw [run_callFunc_extern Tryz.func60 (e := Extern.MathFloatBits.float64bits) (by kernel_rfl) (by kernel_rfl) (by kernel_rfl) (by kernel_rfl)]
 rfl
set_option maxRecDepth 1000000 in
set_option maxHeartbeats 8000000 in
theorem given_8 (b : Bool) (i u f : Int) (s : ByteArray) (e : ByteArray) (w : World) :
 Calls Tryz.prog 20 #[iv 8 b i u f s e] w fun en w' => en = .returned (pv 1 (if b then 1 else 0) noS (.slice none 0 0)) ∧ Keeps (fun _ => False) w w' := by
 unfold iv pv
 try unfold noS
 go_enter Tryz.func20, Tryz.ntmps20
 go_wp2_with (go_in)
 all_goals (try simp only [Exit.inBlock, Exit.then])
 all_goals refine bodyPost_ret (results_cell_row rfl _ _ (w.heap.size + 1) _ _ (0, 0) _ rfl (Keeps.row (by repeat (first | exact Keeps.refl (fun _ => False) _ | apply Keeps.alloc)) (heap_alloc2_new w _ _) id) Tryz.underlying74 rfl (by kernel_rfl)) rfl ?_
 all_goals first
  | exact ⟨rfl, by repeat (first | exact Keeps.refl _ _ | apply Keeps.alloc | apply Keeps.drew)⟩
  | (refine ⟨?_, by repeat (first | exact Keeps.refl _ _ | apply Keeps.alloc | apply Keeps.drew)⟩; simp_all)
set_option maxRecDepth 1000000 in
set_option maxHeartbeats 8000000 in
theorem given_14 (b : Bool) (i u f : Int) (s : ByteArray) (e : ByteArray) (h1 : -2147483648 ≤ i) (h2 : i ≤ 2147483647) (w : World) :
 Calls Tryz.prog 20 #[iv 14 b i u f s e] w fun en w' => en = .returned (pv 10 (IntKind.u64.wrap i) noS (.slice none 0 0)) ∧ Keeps (fun _ => False) w w' := by
 unfold iv pv
 try unfold noS
 go_enter Tryz.func20, Tryz.ntmps20
 go_wp2_with (go_in)
 all_goals (try simp only [Exit.inBlock, Exit.then])
 all_goals refine bodyPost_ret (results_cell_row rfl _ _ (w.heap.size + 1) _ _ (0, 0) _ rfl (Keeps.row (by repeat (first | exact Keeps.refl (fun _ => False) _ | apply Keeps.alloc)) (heap_alloc2_new w _ _) id) Tryz.underlying74 rfl (by kernel_rfl)) rfl ?_
 all_goals first
  | exact ⟨rfl, by repeat (first | exact Keeps.refl _ _ | apply Keeps.alloc | apply Keeps.drew)⟩
  | (refine ⟨?_, by repeat (first | exact Keeps.refl _ _ | apply Keeps.alloc | apply Keeps.drew)⟩; simp_all)
set_option maxRecDepth 1000000 in
set_option maxHeartbeats 8000000 in
theorem given_5 (b : Bool) (i u f : Int) (s : ByteArray) (e : ByteArray) (h1 : -2147483648 ≤ i) (h2 : i ≤ 2147483647) (w : World) :
 Calls Tryz.prog 20 #[iv 5 b i u f s e] w fun en w' => en = .returned (pv 2 (IntKind.u64.wrap i) noS (.slice none 0 0)) ∧ Keeps (fun _ => False) w w' := by
 unfold iv pv
 try unfold noS
 go_enter Tryz.func20, Tryz.ntmps20
 go_wp2_with (go_in)
 all_goals (try simp only [Exit.inBlock, Exit.then])
 all_goals refine bodyPost_ret (results_cell_row rfl _ _ (w.heap.size + 1) _ _ (0, 0) _ rfl (Keeps.row (by repeat (first | exact Keeps.refl (fun _ => False) _ | apply Keeps.alloc)) (heap_alloc2_new w _ _) id) Tryz.underlying74 rfl (by kernel_rfl)) rfl ?_
 all_goals first
  | exact ⟨rfl, by repeat (first | exact Keeps.refl _ _ | apply Keeps.alloc | apply Keeps.drew)⟩
  | (refine ⟨?_, by repeat (first | exact Keeps.refl _ _ | apply Keeps.alloc | apply Keeps.drew)⟩; simp_all)
set_option maxRecDepth 1000000 in
set_option maxHeartbeats 8000000 in
theorem given_17 (b : Bool) (i u f : Int) (s : ByteArray) (e : ByteArray) (h1 : -2147483648 ≤ i) (h2 : i ≤ 2147483647) (w : World) :
 Calls Tryz.prog 20 #[iv 17 b i u f s e] w fun en w' => en = .returned (pv 2 (IntKind.u64.wrap i) noS (.slice none 0 0)) ∧ Keeps (fun _ => False) w w' := by
 unfold iv pv
 try unfold noS
 go_enter Tryz.func20, Tryz.ntmps20
 go_wp2_with (go_in)
 all_goals (try simp only [Exit.inBlock, Exit.then])
 all_goals refine bodyPost_ret (results_cell_row rfl _ _ (w.heap.size + 1) _ _ (0, 0) _ rfl (Keeps.row (by repeat (first | exact Keeps.refl (fun _ => False) _ | apply Keeps.alloc)) (heap_alloc2_new w _ _) id) Tryz.underlying74 rfl (by kernel_rfl)) rfl ?_
 all_goals first
  | exact ⟨rfl, by repeat (first | exact Keeps.refl _ _ | apply Keeps.alloc | apply Keeps.drew)⟩
  | (refine ⟨?_, by repeat (first | exact Keeps.refl _ _ | apply Keeps.alloc | apply Keeps.drew)⟩; simp_all)
set_option maxRecDepth 1000000 in
set_option maxHeartbeats 8000000 in
theorem given_15 (b : Bool) (i u f : Int) (s : ByteArray) (e : ByteArray) (h1 : -2147483648 ≤ i) (h2 : i ≤ 2147483647) (w : World) :
 Calls Tryz.prog 20 #[iv 15 b i u f s e] w fun en w' => en = .returned (pv 2 (IntKind.u64.wrap i) noS (.slice none 0 0)) ∧ Keeps (fun _ => False) w w' := by
 unfold iv pv
 try unfold noS
 go_enter Tryz.func20, Tryz.ntmps20
 go_wp2_with (go_in)
 all_goals (try simp only [Exit.inBlock, Exit.then])
 all_goals refine bodyPost_ret (results_cell_row rfl _ _ (w.heap.size + 1) _ _ (0, 0) _ rfl (Keeps.row (by repeat (first | exact Keeps.refl (fun _ => False) _ | apply Keeps.alloc)) (heap_alloc2_new w _ _) id) Tryz.underlying74 rfl (by kernel_rfl)) rfl ?_
 all_goals first
  | exact ⟨rfl, by repeat (first | exact Keeps.refl _ _ | apply Keeps.alloc | apply Keeps.drew)⟩
  | (refine ⟨?_, by repeat (first | exact Keeps.refl _ _ | apply Keeps.alloc | apply Keeps.drew)⟩; simp_all)
set_option maxRecDepth 1000000 in
set_option maxHeartbeats 8000000 in
theorem given_3 (b : Bool) (i u f : Int) (s : ByteArray) (e : ByteArray) (w : World) :
 Calls Tryz.prog 20 #[iv 3 b i u f s e] w fun en w' => en = .returned (pv 3 (IntKind.u64.wrap i) noS (.slice none 0 0)) ∧ Keeps (fun _ => False) w w' := by
 unfold iv pv
 try unfold noS
 go_enter Tryz.func20, Tryz.ntmps20
 go_wp2_with (go_in)
 all_goals (try simp only [Exit.inBlock, Exit.then])
 all_goals refine bodyPost_ret (results_cell_row rfl _ _ (w.heap.size + 1) _ _ (0, 0) _ rfl (Keeps.row (by repeat (first | exact Keeps.refl (fun _ => False) _ | apply Keeps.alloc)) (heap_alloc2_new w _ _) id) Tryz.underlying74 rfl (by kernel_rfl)) rfl ?_
 all_goals first
  | exact ⟨rfl, by repeat (first | exact Keeps.refl _ _ | apply Keeps.alloc | apply Keeps.drew)⟩
  | (refine ⟨?_, by repeat (first | exact Keeps.refl _ _ | apply Keeps.alloc | apply Keeps.drew)⟩; simp_all)
set_option maxRecDepth 1000000 in
set_option maxHeartbeats 8000000 in
theorem given_18 (b : Bool) (i u f : Int) (s : ByteArray) (e : ByteArray) (w : World) :
 Calls Tryz.prog 20 #[iv 18 b i u f s e] w fun en w' => en = .returned (pv 3 (IntKind.u64.wrap i) noS (.slice none 0 0)) ∧ Keeps (fun _ => False) w w' := by
 unfold iv pv
 try unfold noS
 go_enter Tryz.func20, Tryz.ntmps20
 go_wp2_with (go_in)
 all_goals (try simp only [Exit.inBlock, Exit.then])
 all_goals refine bodyPost_ret (results_cell_row rfl _ _ (w.heap.size + 1) _ _ (0, 0) _ rfl (Keeps.row (by repeat (first | exact Keeps.refl (fun _ => False) _ | apply Keeps.alloc)) (heap_alloc2_new w _ _) id) Tryz.underlying74 rfl (by kernel_rfl)) rfl ?_
 all_goals first
  | exact ⟨rfl, by repeat (first | exact Keeps.refl _ _ | apply Keeps.alloc | apply Keeps.drew)⟩
  | (refine ⟨?_, by repeat (first | exact Keeps.refl _ _ | apply Keeps.alloc | apply Keeps.drew)⟩; simp_all)
set_option maxRecDepth 1000000 in
set_option maxHeartbeats 8000000 in
theorem given_16 (b : Bool) (i u f : Int) (s : ByteArray) (e : ByteArray) (w : World) :
 Calls Tryz.prog 20 #[iv 16 b i u f s e] w fun en w' => en = .returned (pv 3 (IntKind.u64.wrap i) noS (.slice none 0 0)) ∧ Keeps (fun _ => False) w w' := by
 unfold iv pv
 try unfold noS
 go_enter Tryz.func20, Tryz.ntmps20
 go_wp2_with (go_in)
 all_goals (try simp only [Exit.inBlock, Exit.then])
 all_goals refine bodyPost_ret (results_cell_row rfl _ _ (w.heap.size + 1) _ _ (0, 0) _ rfl (Keeps.row (by repeat (first | exact Keeps.refl (fun _ => False) _ | apply Keeps.alloc)) (heap_alloc2_new w _ _) id) Tryz.underlying74 rfl (by kernel_rfl)) rfl ?_
 all_goals first
  | exact ⟨rfl, by repeat (first | exact Keeps.refl _ _ | apply Keeps.alloc | apply Keeps.drew)⟩
  | (refine ⟨?_, by repeat (first | exact Keeps.refl _ _ | apply Keeps.alloc | apply Keeps.drew)⟩; simp_all)
set_option maxRecDepth 1000000 in
set_option maxHeartbeats 8000000 in
theorem given_13 (b : Bool) (i u f : Int) (s : ByteArray) (e : ByteArray) (h1 : 0 ≤ u) (h2 : u ≤ 4294967295) (w : World) :
 Calls Tryz.prog 20 #[iv 13 b i u f s e] w fun en w' => en = .returned (pv 4 u noS (.slice none 0 0)) ∧ Keeps (fun _ => False) w w' := by
 unfold iv pv
 try unfold noS
 go_enter Tryz.func20, Tryz.ntmps20
 go_wp2_with (go_in)
 all_goals (try simp only [Exit.inBlock, Exit.then])
 all_goals refine bodyPost_ret (results_cell_row rfl _ _ (w.heap.size + 1) _ _ (0, 0) _ rfl (Keeps.row (by repeat (first | exact Keeps.refl (fun _ => False) _ | apply Keeps.alloc)) (heap_alloc2_new w _ _) id) Tryz.underlying74 rfl (by kernel_rfl)) rfl ?_
 all_goals first
  | exact ⟨rfl, by repeat (first | exact Keeps.refl _ _ | apply Keeps.alloc | apply Keeps.drew)⟩
  | (refine ⟨?_, by repeat (first | exact Keeps.refl _ _ | apply Keeps.alloc | apply Keeps.drew)⟩; simp_all)
set_option maxRecDepth 1000000 in
set_option maxHeartbeats 8000000 in
theorem given_7 (b : Bool) (i u f : Int) (s : ByteArray) (e : ByteArray) (h1 : 0 ≤ u) (h2 : u ≤ 4294967295) (w : World) :
 Calls Tryz.prog 20 #[iv 7 b i u f s e] w fun en w' => en = .returned (pv 4 u noS (.slice none 0 0)) ∧ Keeps (fun _ => False) w w' := by
 unfold iv pv
 try unfold noS
 go_enter Tryz.func20, Tryz.ntmps20
 go_wp2_with (go_in)
 all_goals (try simp only [Exit.inBlock, Exit.then])
 all_goals refine bodyPost_ret (results_cell_row rfl _ _ (w.heap.size + 1) _ _ (0, 0) _ rfl (Keeps.row (by repeat (first | exact Keeps.refl (fun _ => False) _ | apply Keeps.alloc)) (heap_alloc2_new w _ _) id) Tryz.underlying74 rfl (by kernel_rfl)) rfl ?_
 all_goals first
  | exact ⟨rfl, by repeat (first | exact Keeps.refl _ _ | apply Keeps.alloc | apply Keeps.drew)⟩
  | (refine ⟨?_, by repeat (first | exact Keeps.refl _ _ | apply Keeps.alloc | apply Keeps.drew)⟩; simp_all)
set_option maxRecDepth 1000000 in
set_option maxHeartbeats 8000000 in
theorem given_4 (b : Bool) (i u f : Int) (s : ByteArray) (e : ByteArray) (w : World) :
 Calls Tryz.prog 20 #[iv 4 b i u f s e] w fun en w' => en = .returned (pv 5 u noS (.slice none 0 0)) ∧ Keeps (fun _ => False) w w' := by
 unfold iv pv
 try unfold noS
 go_enter Tryz.func20, Tryz.ntmps20
 go_wp2_with (go_in)
 all_goals (try simp only [Exit.inBlock, Exit.then])
 all_goals refine bodyPost_ret (results_cell_row rfl _ _ (w.heap.size + 1) _ _ (0, 0) _ rfl (Keeps.row (by repeat (first | exact Keeps.refl (fun _ => False) _ | apply Keeps.alloc)) (heap_alloc2_new w _ _) id) Tryz.underlying74 rfl (by kernel_rfl)) rfl ?_
 all_goals first
  | exact ⟨rfl, by repeat (first | exact Keeps.refl _ _ | apply Keeps.alloc | apply Keeps.drew)⟩
  | (refine ⟨?_, by repeat (first | exact Keeps.refl _ _ | apply Keeps.alloc | apply Keeps.drew)⟩; simp_all)
set_option maxRecDepth 1000000 in
set_option maxHeartbeats 8000000 in
theorem given_6 (b : Bool) (i u f : Int) (s : ByteArray) (e : ByteArray) (w : World) :
 Calls Tryz.prog 20 #[iv 6 b i u f s e] w fun en w' => en = .returned (pv 5 u noS (.slice none 0 0)) ∧ Keeps (fun _ => False) w w' := by
 unfold iv pv
 try unfold noS
 go_enter Tryz.func20, Tryz.ntmps20
 go_wp2_with (go_in)
 all_goals (try simp only [Exit.inBlock, Exit.then])
 all_goals refine bodyPost_ret (results_cell_row rfl _ _ (w.heap.size + 1) _ _ (0, 0) _ rfl (Keeps.row (by repeat (first | exact Keeps.refl (fun _ => False) _ | apply Keeps.alloc)) (heap_alloc2_new w _ _) id) Tryz.underlying74 rfl (by kernel_rfl)) rfl ?_
 all_goals first
  | exact ⟨rfl, by repeat (first | exact Keeps.refl _ _ | apply Keeps.alloc | apply Keeps.drew)⟩
  | (refine ⟨?_, by repeat (first | exact Keeps.refl _ _ | apply Keeps.alloc | apply Keeps.drew)⟩; simp_all)
set_option maxRecDepth 1000000 in
set_option maxHeartbeats 8000000 in
theorem given_1 (b : Bool) (i u : Int) (f : Nat) (s : ByteArray) (e : ByteArray) (w : World) :
 Calls Tryz.prog 20 #[iv 1 b i u (f : Int) s e] w fun en w' => en = .returned (pv 7 (f : Int) noS (.slice none 0 0)) ∧ Keeps (fun _ => False) w w' := by
 unfold iv pv
 try unfold noS
 have hfo := f64of_run f
 have hft := f64to_run f
 go_enter Tryz.func20, Tryz.ntmps20
 go_wp2_with (go_in)
 all_goals (try simp only [Exit.inBlock, Exit.then])
 all_goals refine bodyPost_ret (results_cell_row rfl _ _ (w.heap.size + 1) _ _ (0, 0) _ rfl (Keeps.row (by repeat (first | exact Keeps.refl (fun _ => False) _ | apply Keeps.alloc)) (heap_alloc2_new w _ _) id) Tryz.underlying74 rfl (by kernel_rfl)) rfl ?_
 all_goals first
  | exact ⟨rfl, by repeat (first | exact Keeps.refl _ _ | apply Keeps.alloc | apply Keeps.drew)⟩
  | (refine ⟨?_, by repeat (first | exact Keeps.refl _ _ | apply Keeps.alloc | apply Keeps.drew)⟩; simp_all)
set_option maxRecDepth 1000000 in
set_option maxHeartbeats 8000000 in
theorem given_2 (b : Bool) (i u : Int) (f : Nat) (s : ByteArray) (r g : Nat) (e : ByteArray) (hc : ∀ w', (convert 83 85 (.float .f64 f)).run Tryz.prog w' = .ok (.float .f32 r) w') (hd : ∀ w', (convert 85 83 (.float .f32 r)).run Tryz.prog w' = .ok (.float .f64 g) w') (w : World) :
 Calls Tryz.prog 20 #[iv 2 b i u (f : Int) s e] w fun en w' => en = .returned (pv 6 (g : Int) noS (.slice none 0 0)) ∧ Keeps (fun _ => False) w w' := by
 unfold iv pv
 try unfold noS
 have hfo := f64of_run f
 have hft := f64to_run f
 have hgt := f64to_run g
 go_enter Tryz.func20, Tryz.ntmps20
 go_wp2_with (go_in)
 all_goals (try simp only [Exit.inBlock, Exit.then])
 all_goals refine bodyPost_ret (results_cell_row rfl _ _ (w.heap.size + 1) _ _ (0, 0) _ rfl (Keeps.row (by repeat (first | exact Keeps.refl (fun _ => False) _ | apply Keeps.alloc)) (heap_alloc2_new w _ _) id) Tryz.underlying74 rfl (by kernel_rfl)) rfl ?_
 all_goals first
  | exact ⟨rfl, by repeat (first | exact Keeps.refl _ _ | apply Keeps.alloc | apply Keeps.drew)⟩
  | (refine ⟨?_, by repeat (first | exact Keeps.refl _ _ | apply Keeps.alloc | apply Keeps.drew)⟩; simp_all)
set_option maxRecDepth 1000000 in
set_option maxHeartbeats 8000000 in
theorem given_9 (b : Bool) (i u f : Int) (s : ByteArray) (e : ByteArray) (w : World) :
 Calls Tryz.prog 20 #[iv 9 b i u f s e] w fun en w' => en = .returned (pv 8 0 s (.slice none 0 0)) ∧ Keeps (fun _ => False) w w' := by
 unfold iv pv
 try unfold noS
 go_enter Tryz.func20, Tryz.ntmps20
 go_wp2_with (go_in)
 all_goals (try simp only [Exit.inBlock, Exit.then])
 all_goals refine bodyPost_ret (results_cell_row rfl _ _ (w.heap.size + 1) _ _ (0, 0) _ rfl (Keeps.row (by repeat (first | exact Keeps.refl (fun _ => False) _ | apply Keeps.alloc)) (heap_alloc2_new w _ _) id) Tryz.underlying74 rfl (by kernel_rfl)) rfl ?_
 all_goals first
  | exact ⟨rfl, by repeat (first | exact Keeps.refl _ _ | apply Keeps.alloc | apply Keeps.drew)⟩
  | (refine ⟨?_, by repeat (first | exact Keeps.refl _ _ | apply Keeps.alloc | apply Keeps.drew)⟩; simp_all)
set_option maxRecDepth 1000000 in
set_option maxHeartbeats 8000000 in
theorem valueOfBytes_any (a : Option Addr) (n c : Nat) (hc : n ≤ c) (hm : c ≤ maxLen) (w : World) : Calls Tryz.prog 53 #[.slice a n c] w fun en w' => en = .returned (.agg #[.int .i64 9, .int .u64 0, .string ⟨#[]⟩, .slice a n n]) ∧ Keeps (fun _ => False) w w' := by
 unfold maxLen at hm
 have h3 := fun w' => run_sto3 a n c n (by omega) w'
 go_enter Tryz.func53, Tryz.ntmps53
 go_wp2_with (go_in)
 (try simp only [Exit.inBlock, Exit.then])
 refine bodyPost_ret (results_cell_row rfl _ _ w.heap.size _ _ (0, 0) _ rfl (Keeps.row (by repeat (first | exact Keeps.refl (fun _ => False) _ | apply Keeps.alloc)) (heap_alloc_new w _) id) Tryz.underlying74 rfl (by kernel_rfl)) rfl ?_
 exact ⟨rfl, by repeat (first | exact Keeps.refl _ _ | apply Keeps.alloc | apply Keeps.drew)⟩
set_option maxRecDepth 1000000 in
set_option maxHeartbeats 8000000 in
theorem given_12 (b : Bool) (i u f : Int) (l : List UInt8) (e : ByteArray) (hl : l.length ≤ 100000) (w : World) :
 Calls Tryz.prog 20 #[iv 12 b i u f (mk l) e] w fun en w' => (∃ V, en = .returned (pv 9 0 noS V) ∧ BytesAt w' V l) ∧ Keeps (fun _ => False) w w' := by
 unfold iv pv noS
 obtain ⟨s, hs⟩ : ∃ s, mk l = s := ⟨_, rfl⟩
 rw [hs]
 have HC := Lib.hid (fun w => run_to_bytes l (by unfold maxLen; omega) w)
 rw [hs] at HC
 obtain ⟨n, hn⟩ : ∃ n, l.length = n := ⟨_, rfl⟩
 rw [hn] at HC
 clear hs hn hl
 go_enter Tryz.func20, Tryz.ntmps20
 go_upto_region 27 with (go_in)
 obtain ⟨W, hW⟩ : ∃ W, (w.alloc (.cells #[.int .i64 12, .bool b, .int .i64 i, .int .u64 u, .int .u64 f, .string s, .string e] 42)).alloc (.cells #[.int .i64 0, .int .u64 0, .string ⟨#[]⟩, .slice none 0 0] 74) = W := ⟨_, rfl⟩
 have hr0 : W.heap[w.heap.size]? = some (.cells #[.int .i64 12, .bool b, .int .i64 i, .int .u64 u, .int .u64 f, .string s, .string e] 42 (0, 0)) := by rw [← hW]; exact Keeps.row ((Keeps.refl (fun _ => False) _).alloc _) (heap_alloc_new w _) id
 have hr1 : W.heap[w.heap.size + 1]? = some (.cells #[.int .i64 0, .int .u64 0, .string ⟨#[]⟩, .slice none 0 0] 74 (0, 0)) := by rw [← hW]; exact heap_alloc2_new w _ _
 have hkW : Keeps (fun _ => False) w W := by rw [← hW]; exact ((Keeps.refl _ w).alloc _).alloc _
 rw [hW]
 obtain ⟨c, w3, hcv, hb, hk⟩ := HC.out W
 have e5 := cell_row (j := 5) hr0
 simp at e5
 have HB := Lib.hid hb
 have HK := Lib.hid hk
 have HKW := Lib.hid hkW
 have hr3 := hk.row hr1 id
 have HCC : Hid (n ≤ c ∧ c ≤ maxLen) := by obtain ⟨_, _, he, h1, h2, _⟩ := hb; injection he with e1 e2 e3; exact ⟨by omega, by omega⟩
 have HR3 := Lib.hid hr3
 obtain ⟨K, hK⟩ : ∃ K, w.heap.size + 1 = K := ⟨_, rfl⟩
 rw [hK] at HR3 ⊢
 have HKG : Hid (w.heap.size ≤ K) := by show _ ≤ _; omega
 have HKL : Hid (K < W.heap.size) := by rw [← hK]; exact row_lt hr1
 clear hW hr0 hr1 hkW hb hk hr3 hK
 go_wp2_with (go_at_call 53; with_reducible refine (valueOfBytes_any _ n c HCC.out.1 HCC.out.2 _).mono ?_; rintro en w4 ⟨rfl, k4⟩; have hr4 := k4.row HR3.out id; have f4 := fun j => frozen_row (j := j) hr4; have x0 := cell_row (j := 0) hr4; have x1 := cell_row (j := 1) hr4; have x2 := cell_row (j := 2) hr4; have x3 := cell_row (j := 3) hr4; simp at x0 x1 x2 x3; have K4 := Lib.hid k4; have HR4 := Lib.hid hr4; clear k4 hr4)
 (try simp only [Exit.inBlock, Exit.then])
 have hrow : ((((w4.setCell ⟨K, 0, none⟩ (Value.int IntKind.i64 9)).setCell ⟨K, 1, none⟩ (Value.int IntKind.u64 0)).setCell ⟨K, 2, none⟩ (Value.string ⟨#[]⟩)).setCell ⟨K, 3, none⟩ (Value.slice (some ⟨W.heap.size, 0, none⟩) n n)).heap[K]? = some (.cells #[.int .i64 9, .int .u64 0, .string ⟨#[]⟩, .slice (some ⟨W.heap.size, 0, none⟩) n n] 74 (0, 0)) := by
  rw [setCell_row (setCell_row (setCell_row (setCell_row HR4.out _) _) _) _]
  rfl
 refine bodyPost_ret (results_cell_row rfl _ _ K _ _ (0, 0) _ rfl hrow Tryz.underlying74 rfl (by kernel_rfl)) rfl ?_
 have hset : ∀ B, Keeps (fun k => k = K) B ((((B.setCell ⟨K, 0, none⟩ (Value.int IntKind.i64 9)).setCell ⟨K, 1, none⟩ (Value.int IntKind.u64 0)).setCell ⟨K, 2, none⟩ (Value.string ⟨#[]⟩)).setCell ⟨K, 3, none⟩ (Value.slice (some ⟨W.heap.size, 0, none⟩) n n)) := fun B => ((((Keeps.refl (fun k => k = K) B).setCell ⟨K, 0, none⟩ (fun _ => rfl) _).setCell ⟨K, 1, none⟩ (fun _ => rfl) _).setCell ⟨K, 2, none⟩ (fun _ => rfl) _).setCell ⟨K, 3, none⟩ (fun _ => rfl) _
 have hk4 : Keeps (fun _ => False) w w4 := (HKW.out.trans HK.out (fun _ _ h => h)).trans K4.out (fun _ _ h => h)
 refine ⟨⟨_, rfl, ?_⟩, hk4.trans (hset w4) (fun i hi e => by have := HKG.out; omega)⟩
 obtain ⟨aa, cc, he, q1, q2, q3⟩ := HB.out
 injection he with e1 e2 e3
 have hb2 : BytesAt w3 (.slice (some ⟨W.heap.size, 0, none⟩) n n) l := ⟨_, n, by rw [← e2], by omega, Nat.le_trans HCC.out.1 HCC.out.2, by rw [e1]; exact q3⟩
 exact (hb2.keeps K4.out (fun _ _ => id)).keeps (hset w4) (fun k hk e => absurd (e.symm.trans (Option.some.inj hk).symm) (Nat.ne_of_lt HKL.out))
end Go.Proofs.YtonegoemmologaaGreatDoor
namespace Go.Proofs.YtonegoemmologaaGreatDoor
open Go.RowKit
def RowsAt (w : World) (v : Value) (sz : Nat) (xs : List (List Value)) : Prop :=
 ∃ a c, v = .slice a xs.length c ∧ xs.length ≤ c ∧ c ≤ maxLen ∧ (xs = [] ∨ ∃ b off, a = some ⟨b, off, none⟩ ∧ ∀ j (h : j < xs.length) i u, i < sz → xs[j][i]? = some u → w.cell? ⟨b, off + j * sz + i, none⟩ = some u)
theorem RowsAt.keeps {S : Nat → Prop} {w w' : World} {v : Value} {sz : Nat} {xs : List (List Value)} (h : RowsAt w v sz xs) (hk : Keeps S w w') (hn : ∀ k, v.ownBlock = some k → ¬ S k) : RowsAt w' v sz xs := by
 obtain ⟨a, c, rfl, h1, h2, h3⟩ := h
 refine ⟨a, c, rfl, h1, h2, ?_⟩
 rcases h3 with h3 | ⟨b, off, rfl, h3⟩
 · exact .inl h3
 · exact .inr ⟨b, off, rfl, fun j hj i u hi hu => hk.cell (h3 j hj i u hi hu) (hn b rfl)⟩
theorem RowsAt.form {w : World} {v : Value} {sz : Nat} {xs : List (List Value)} (h : RowsAt w v sz xs) : ∃ a c, v = .slice a xs.length c ∧ xs.length ≤ c ∧ c ≤ maxLen := by
 obtain ⟨a, c, h0, h1, h2, _⟩ := h
 exact ⟨a, c, h0, h1, h2⟩
theorem RowsAt.at {w : World} {a : Option Addr} {n c sz : Nat} {xs : List (List Value)} (h : RowsAt w (.slice a n c) sz xs) (h0 : xs ≠ []) : ∃ b off, a = some ⟨b, off, none⟩ ∧ ∀ j (hj : j < xs.length) i u, i < sz → xs[j][i]? = some u → w.cell? ⟨b, off + j * sz + i, none⟩ = some u := by
 obtain ⟨a', c', hv, _, _, h3⟩ := h
 cases hv
 exact h3.resolve_left h0
structure FT where
 name : ByteArray
 number : Int
 kind : Int
 rep : Bool
 map : Bool
 type : Int
structure MT where
 name : ByteArray
 fields : List FT
structure ET where
 names : List ByteArray
 numbers : List Int
structure Sch where
 msgs : List MT
 enums : List ET
def ftc (f : FT) : List Value := [.string f.name, .int .i64 f.number, .int .i64 f.kind, .bool f.rep, .bool f.map, .int .i64 f.type]
def FTsAt (w : World) (v : Value) (fs : List FT) : Prop := RowsAt w v 6 (fs.map ftc)
def StrRows (w : World) (v : Value) (ss : List ByteArray) : Prop := RowsAt w v 1 (ss.map fun s => [Value.string s])
def I32Rows (w : World) (v : Value) (ns : List Int) : Prop := RowsAt w v 1 (ns.map fun n => [Value.int .i32 n])
def MTsAt (w : World) (v : Value) (ms : List MT) : Prop :=
 ∃ vs : List Value, vs.length = ms.length ∧ RowsAt w v 2 (List.zipWith (fun m fv => [Value.string m.name, fv]) ms vs) ∧ ∀ j (h : j < ms.length) (h' : j < vs.length), FTsAt w vs[j] ms[j].fields
def ETsAt (w : World) (v : Value) (es : List ET) : Prop :=
 ∃ vs us : List Value, vs.length = es.length ∧ us.length = es.length ∧ RowsAt w v 2 (List.zipWith (fun nv uv => [nv, uv]) vs us) ∧ ∀ j (h : j < es.length) (h' : j < vs.length) (h'' : j < us.length), StrRows w vs[j] es[j].names ∧ I32Rows w us[j] es[j].numbers
def SchAt (w : World) (x y : Value) (S : Sch) : Prop := MTsAt w x S.msgs ∧ ETsAt w y S.enums
theorem FTsAt.keeps {w w' : World} {v : Value} {fs : List FT} (h : FTsAt w v fs) (hk : Keeps (fun _ => False) w w') : FTsAt w' v fs := RowsAt.keeps h hk (fun _ _ => id)
theorem StrRows.keeps {w w' : World} {v : Value} {ss : List ByteArray} (h : StrRows w v ss) (hk : Keeps (fun _ => False) w w') : StrRows w' v ss := RowsAt.keeps h hk (fun _ _ => id)
theorem I32Rows.keeps {w w' : World} {v : Value} {ss : List Int} (h : I32Rows w v ss) (hk : Keeps (fun _ => False) w w') : I32Rows w' v ss := RowsAt.keeps h hk (fun _ _ => id)
theorem MTsAt.keeps {w w' : World} {v : Value} {ms : List MT} (h : MTsAt w v ms) (hk : Keeps (fun _ => False) w w') : MTsAt w' v ms := by
 obtain ⟨vs, h1, h2, h3⟩ := h
 exact ⟨vs, h1, h2.keeps hk (fun _ _ => id), fun j h h' => (h3 j h h').keeps hk⟩
theorem ETsAt.keeps {w w' : World} {v : Value} {es : List ET} (h : ETsAt w v es) (hk : Keeps (fun _ => False) w w') : ETsAt w' v es := by
 obtain ⟨vs, us, h0, h1, h2, h3⟩ := h
 exact ⟨vs, us, h0, h1, h2.keeps hk (fun _ _ => id), fun j h h' h'' => ⟨(h3 j h h' h'').1.keeps hk, (h3 j h h' h'').2.keeps hk⟩⟩
theorem SchAt.keeps {w w' : World} {x y : Value} {S : Sch} (h : SchAt w x y S) (hk : Keeps (fun _ => False) w w') : SchAt w' x y S := ⟨h.1.keeps hk, h.2.keeps hk⟩
theorem FTsAt.len {w : World} {v : Value} {fs : List FT} (h : FTsAt w v fs) : ∃ a c, v = .slice a fs.length c ∧ fs.length ≤ c ∧ c ≤ maxLen := by
 obtain ⟨a, c, h0, h1, h2⟩ := RowsAt.form h
 rw [List.length_map] at h0 h1
 exact ⟨a, c, h0, h1, h2⟩
theorem FTsAt.cells {w : World} {a : Option Addr} {n c : Nat} {fs : List FT} (h : FTsAt w (.slice a n c) fs) (h0 : fs ≠ []) : ∃ b off, a = some ⟨b, off, none⟩ ∧ ∀ j (hj : j < fs.length),
 w.cell? ⟨b, off + j * 6, none⟩ = some (.string fs[j].name) ∧ w.cell? ⟨b, off + j * 6 + 1, none⟩ = some (.int .i64 fs[j].number) ∧ w.cell? ⟨b, off + j * 6 + 2, none⟩ = some (.int .i64 fs[j].kind) ∧
 w.cell? ⟨b, off + j * 6 + 3, none⟩ = some (.bool fs[j].rep) ∧ w.cell? ⟨b, off + j * 6 + 4, none⟩ = some (.bool fs[j].map) ∧ w.cell? ⟨b, off + j * 6 + 5, none⟩ = some (.int .i64 fs[j].type) := by
 obtain ⟨b, off, rfl, hc⟩ := RowsAt.at h (by simpa using h0)
 refine ⟨b, off, rfl, fun j hj => ?_⟩
 have hj' : j < (fs.map ftc).length := by simpa using hj
 have g := fun i u hi hu => hc j hj' i u hi (by rw [List.getElem_map]; exact hu)
 exact ⟨g 0 _ (by omega) rfl, g 1 _ (by omega) rfl, g 2 _ (by omega) rfl, g 3 _ (by omega) rfl, g 4 _ (by omega) rfl, g 5 _ (by omega) rfl⟩
theorem StrRows.len {w : World} {v : Value} {ss : List ByteArray} (h : StrRows w v ss) : ∃ a c, v = .slice a ss.length c ∧ ss.length ≤ c ∧ c ≤ maxLen := by
 obtain ⟨a, c, h0, h1, h2⟩ := RowsAt.form h
 rw [List.length_map] at h0 h1
 exact ⟨a, c, h0, h1, h2⟩
theorem StrRows.cells {w : World} {a : Option Addr} {n c : Nat} {ss : List ByteArray} (h : StrRows w (.slice a n c) ss) (h0 : ss ≠ []) : ∃ b off, a = some ⟨b, off, none⟩ ∧ ∀ j (hj : j < ss.length), w.cell? ⟨b, off + j, none⟩ = some (.string ss[j]) := by
 obtain ⟨b, off, rfl, hc⟩ := RowsAt.at h (by simpa using h0)
 refine ⟨b, off, rfl, fun j hj => ?_⟩
 have g := hc j (by simpa using hj) 0 (.string ss[j]) (by omega) (by rw [List.getElem_map]; rfl)
 simpa using g
theorem I32Rows.len {w : World} {v : Value} {ss : List Int} (h : I32Rows w v ss) : ∃ a c, v = .slice a ss.length c ∧ ss.length ≤ c ∧ c ≤ maxLen := by
 obtain ⟨a, c, h0, h1, h2⟩ := RowsAt.form h
 rw [List.length_map] at h0 h1
 exact ⟨a, c, h0, h1, h2⟩
theorem I32Rows.cells {w : World} {a : Option Addr} {n c : Nat} {ss : List Int} (h : I32Rows w (.slice a n c) ss) (h0 : ss ≠ []) : ∃ b off, a = some ⟨b, off, none⟩ ∧ ∀ j (hj : j < ss.length), w.cell? ⟨b, off + j, none⟩ = some (.int .i32 ss[j]) := by
 obtain ⟨b, off, rfl, hc⟩ := RowsAt.at h (by simpa using h0)
 refine ⟨b, off, rfl, fun j hj => ?_⟩
 have g := hc j (by simpa using hj) 0 (.int .i32 ss[j]) (by omega) (by rw [List.getElem_map]; rfl)
 simpa using g
theorem MTsAt.len {w : World} {v : Value} {ms : List MT} (h : MTsAt w v ms) : ∃ a c, v = .slice a ms.length c ∧ ms.length ≤ c ∧ c ≤ maxLen := by
 obtain ⟨vs, h3, h, _⟩ := h
 obtain ⟨a, c, h0, h1, h2⟩ := RowsAt.form h
 rw [List.length_zipWith, h3, Nat.min_self] at h0 h1
 exact ⟨a, c, h0, h1, h2⟩
theorem MTsAt.cells {w : World} {a : Option Addr} {n c : Nat} {ms : List MT} (h : MTsAt w (.slice a n c) ms) (h0 : ms ≠ []) : ∃ b off, a = some ⟨b, off, none⟩ ∧ ∀ j (hj : j < ms.length), ∃ fv,
 w.cell? ⟨b, off + j * 2, none⟩ = some (.string ms[j].name) ∧ w.cell? ⟨b, off + j * 2 + 1, none⟩ = some fv ∧ FTsAt w fv ms[j].fields := by
 obtain ⟨vs, h3, h, hf⟩ := h
 have hl : (List.zipWith (fun m fv => [Value.string m.name, fv]) ms vs).length = ms.length := by rw [List.length_zipWith, h3, Nat.min_self]
 obtain ⟨b, off, rfl, hc⟩ := RowsAt.at h (by intro e; rw [e] at hl; exact h0 (List.eq_nil_of_length_eq_zero hl.symm))
 refine ⟨b, off, rfl, fun j hj => ⟨vs[j]'(by omega), ?_, ?_, hf j hj (by omega)⟩⟩
 · exact hc j (by omega) 0 _ (by omega) (by rw [List.getElem_zipWith]; rfl)
 · exact hc j (by omega) 1 _ (by omega) (by rw [List.getElem_zipWith]; rfl)
theorem ETsAt.len {w : World} {v : Value} {es : List ET} (h : ETsAt w v es) : ∃ a c, v = .slice a es.length c ∧ es.length ≤ c ∧ c ≤ maxLen := by
 obtain ⟨vs, us, h3, h4, h, _⟩ := h
 obtain ⟨a, c, h0, h1, h2⟩ := RowsAt.form h
 rw [List.length_zipWith, h3, h4, Nat.min_self] at h0 h1
 exact ⟨a, c, h0, h1, h2⟩
theorem ETsAt.cells {w : World} {a : Option Addr} {n c : Nat} {es : List ET} (h : ETsAt w (.slice a n c) es) (h0 : es ≠ []) : ∃ b off, a = some ⟨b, off, none⟩ ∧ ∀ j (hj : j < es.length), ∃ nv uv,
 w.cell? ⟨b, off + j * 2, none⟩ = some nv ∧ w.cell? ⟨b, off + j * 2 + 1, none⟩ = some uv ∧ StrRows w nv es[j].names ∧ I32Rows w uv es[j].numbers := by
 obtain ⟨vs, us, h3, h4, h, hf⟩ := h
 have hl : (List.zipWith (fun nv uv => [nv, uv]) vs us).length = es.length := by rw [List.length_zipWith, h3, h4, Nat.min_self]
 obtain ⟨b, off, rfl, hc⟩ := RowsAt.at h (by intro e; rw [e] at hl; exact h0 (List.eq_nil_of_length_eq_zero hl.symm))
 refine ⟨b, off, rfl, fun j hj => ⟨vs[j]'(by omega), us[j]'(by omega), ?_, ?_, (hf j hj (by omega) (by omega)).1, (hf j hj (by omega) (by omega)).2⟩⟩
 · exact hc j (by omega) 0 _ (by omega) (by rw [List.getElem_zipWith]; rfl)
 · exact hc j (by omega) 1 _ (by omega) (by rw [List.getElem_zipWith]; rfl)
inductive PV where
 | mk (b : Bool) (i : Int) (u f : Nat) (s : ByteArray) (msg : List (Int × List PV))
def MsgAt (w : World) : Nat → Value → List (Int × List PV) → Prop
 | 0, _, _ => False
 | d + 1, v, fs => ∃ vs : List Value, vs.length = fs.length ∧ RowsAt w v 2 (List.zipWith (fun f vv => [Value.int .i64 f.1, vv]) fs vs) ∧
  ∀ j (h : j < fs.length) (h' : j < vs.length), ∃ ms : List Value, ms.length = (fs[j]).2.length ∧
   RowsAt w vs[j] 6 (List.zipWith (fun p mv => match p with | .mk b i u f s _ => [Value.bool b, .int .i64 i, .int .u64 (u : Int), .int .u64 (f : Int), .string s, mv]) (fs[j]).2 ms) ∧
   ∀ k (hk : k < (fs[j]).2.length) (hk' : k < ms.length), match (fs[j]).2[k] with
    | .mk _ i u f _ m => -9223372036854775808 ≤ i ∧ i ≤ 9223372036854775807 ∧ u < 18446744073709551616 ∧ f < 18446744073709551616 ∧ MsgAt w d ms[k] m
theorem MsgAt.keeps {w w' : World} (hk : Keeps (fun _ => False) w w') : ∀ {d : Nat} {v : Value} {fs : List (Int × List PV)}, MsgAt w d v fs → MsgAt w' d v fs
 | 0, _, _, h => h
 | d + 1, v, fs, h => by
  obtain ⟨vs, h1, h2, h3⟩ := h
  refine ⟨vs, h1, h2.keeps hk (fun _ _ => id), fun j hj hj' => ?_⟩
  obtain ⟨ms, g1, g2, g3⟩ := h3 j hj hj'
  refine ⟨ms, g1, g2.keeps hk (fun _ _ => id), fun k hk1 hk2 => ?_⟩
  have g4 := g3 k hk1 hk2
  cases he : (fs[j]).2[k] with
  | mk b i u f s m =>
   rw [he] at g4
   simp only at g4 ⊢
   exact ⟨g4.1, g4.2.1, g4.2.2.1, g4.2.2.2.1, MsgAt.keeps hk g4.2.2.2.2⟩
end Go.Proofs.YtonegoemmologaaGreatDoor
