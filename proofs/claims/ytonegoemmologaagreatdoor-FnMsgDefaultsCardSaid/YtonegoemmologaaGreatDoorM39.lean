/-
  defval.Marshal and Unmarshal at floats.
  Floats of 32 bits: given at no number, ValueOfFloat32, Unmarshal.
-/
import Derived.Test.YtonegoemmologaaGreatDoorM32
import Derived.Test.YtonegoemmologaaGreatDoorM26
import Derived.Test.YtonegoemmologaaGreatDoorM25
import Derived.Test.YtonegoemmologaaGreatDoorM38
import Derived.Deep.DeepCutAuto
set_option linter.unusedVariables false
set_option linter.unusedSimpArgs false
namespace Go.Proofs.YtonegoemmologaaGreatDoor
open Go.RowKit
set_option maxRecDepth 1000000 in
set_option maxHeartbeats 8000000 in
theorem marshal_1_nan (ev : Value) (form : Int) (f : Nat) (hN : Nan64 f = true) (hP : InfP f = false) (hM : InfM f = false) (w : World) :
 Calls Tryz.prog 19 #[.agg #[.int .i64 7, .int .u64 (f : Int), .string ⟨#[]⟩, .slice none 0 0], ev, .int .i8 1, .int .i64 form] w fun en w' => en = .returned (.tuple #[.string ⟨#[110, 97, 110]⟩, .nilIface]) ∧ Keeps (fun _ => False) w w' := by
 have HN := Lib.hid hN
 have HP := Lib.hid hP
 have HM := Lib.hid hM
 have hfo := f64of_run f
 clear hN hP hM
 go_enter Tryz.func19, Tryz.ntmps19
 go_wp2_with (first | (go_at_call 37; with_reducible first | (refine (isInfm_64 f _).mono ?_; rintro en w2 ⟨rfl, rfl⟩; rw [HM.out]) | (refine (isInfp_64 f _).mono ?_; rintro en w2 ⟨rfl, rfl⟩; rw [HP.out])) | (go_at_call 38; with_reducible refine (isNaN_64 f _).mono ?_; rintro en w2 ⟨rfl, rfl⟩; rw [HN.out]) | (first | (go_at_call 30; go_in) | (go_at_call 32; go_in) | (go_at_call 33; go_in) | (go_at_call 35; go_in) | (go_at_call 36; go_in) | (go_at_call 40; go_in) | (go_at_call 42; go_in) | (go_at_call 72; go_in) | (go_at_call 73; go_in)))
 all_goals go_ret2
 all_goals exact ⟨rfl, by repeat (first | exact Keeps.refl _ _ | apply Keeps.alloc | apply Keeps.drew)⟩
set_option maxRecDepth 1000000 in
set_option maxHeartbeats 8000000 in
theorem marshal_1_infp (ev : Value) (form : Int) (f : Nat) (hN : Nan64 f = false) (hP : InfP f = true) (hM : InfM f = false) (w : World) :
 Calls Tryz.prog 19 #[.agg #[.int .i64 7, .int .u64 (f : Int), .string ⟨#[]⟩, .slice none 0 0], ev, .int .i8 1, .int .i64 form] w fun en w' => en = .returned (.tuple #[.string ⟨#[105, 110, 102]⟩, .nilIface]) ∧ Keeps (fun _ => False) w w' := by
 have HN := Lib.hid hN
 have HP := Lib.hid hP
 have HM := Lib.hid hM
 have hfo := f64of_run f
 clear hN hP hM
 go_enter Tryz.func19, Tryz.ntmps19
 go_wp2_with (first | (go_at_call 37; with_reducible first | (refine (isInfm_64 f _).mono ?_; rintro en w2 ⟨rfl, rfl⟩; rw [HM.out]) | (refine (isInfp_64 f _).mono ?_; rintro en w2 ⟨rfl, rfl⟩; rw [HP.out])) | (go_at_call 38; with_reducible refine (isNaN_64 f _).mono ?_; rintro en w2 ⟨rfl, rfl⟩; rw [HN.out]) | (first | (go_at_call 30; go_in) | (go_at_call 32; go_in) | (go_at_call 33; go_in) | (go_at_call 35; go_in) | (go_at_call 36; go_in) | (go_at_call 40; go_in) | (go_at_call 42; go_in) | (go_at_call 72; go_in) | (go_at_call 73; go_in)))
 all_goals go_ret2
 all_goals exact ⟨rfl, by repeat (first | exact Keeps.refl _ _ | apply Keeps.alloc | apply Keeps.drew)⟩
set_option maxRecDepth 1000000 in
set_option maxHeartbeats 8000000 in
theorem marshal_1_infm (ev : Value) (form : Int) (f : Nat) (hN : Nan64 f = false) (hP : InfP f = false) (hM : InfM f = true) (w : World) :
 Calls Tryz.prog 19 #[.agg #[.int .i64 7, .int .u64 (f : Int), .string ⟨#[]⟩, .slice none 0 0], ev, .int .i8 1, .int .i64 form] w fun en w' => en = .returned (.tuple #[.string ⟨#[45, 105, 110, 102]⟩, .nilIface]) ∧ Keeps (fun _ => False) w w' := by
 have HN := Lib.hid hN
 have HP := Lib.hid hP
 have HM := Lib.hid hM
 have hfo := f64of_run f
 clear hN hP hM
 go_enter Tryz.func19, Tryz.ntmps19
 go_wp2_with (first | (go_at_call 37; with_reducible first | (refine (isInfm_64 f _).mono ?_; rintro en w2 ⟨rfl, rfl⟩; rw [HM.out]) | (refine (isInfp_64 f _).mono ?_; rintro en w2 ⟨rfl, rfl⟩; rw [HP.out])) | (go_at_call 38; with_reducible refine (isNaN_64 f _).mono ?_; rintro en w2 ⟨rfl, rfl⟩; rw [HN.out]) | (first | (go_at_call 30; go_in) | (go_at_call 32; go_in) | (go_at_call 33; go_in) | (go_at_call 35; go_in) | (go_at_call 36; go_in) | (go_at_call 40; go_in) | (go_at_call 42; go_in) | (go_at_call 72; go_in) | (go_at_call 73; go_in)))
 all_goals go_ret2
 all_goals exact ⟨rfl, by repeat (first | exact Keeps.refl _ _ | apply Keeps.alloc | apply Keeps.drew)⟩
set_option maxRecDepth 1000000 in
set_option maxHeartbeats 8000000 in
theorem marshal_1_num (ev : Value) (form : Int) (f : Nat) (T : List UInt8) (hN : Nan64 f = false) (hP : InfP f = false) (hM : InfM f = false) (w : World) (hF : ∀ w', Keeps (fun _ => False) w w' → Calls Tryz.prog 39 #[.float .f64 f, .int .u8 103, .int .i64 (-1), .int .i64 64] w' fun e w2 => e = .returned (.string (mk T)) ∧ Keeps (fun _ => False) w' w2) :
 Calls Tryz.prog 19 #[.agg #[.int .i64 7, .int .u64 (f : Int), .string ⟨#[]⟩, .slice none 0 0], ev, .int .i8 1, .int .i64 form] w fun en w' => en = .returned (.tuple #[.string (mk T), .nilIface]) ∧ Keeps (fun _ => False) w w' := by
 have HN := Lib.hid hN
 have HP := Lib.hid hP
 have HM := Lib.hid hM
 have hfo := f64of_run f
 clear hN hP hM
 have HF := Lib.hid hF
 clear hF
 obtain ⟨st, hst⟩ : ∃ st, mk T = st := ⟨_, rfl⟩
 rw [hst] at HF ⊢
 clear hst
 go_enter Tryz.func19, Tryz.ntmps19
 go_wp2_with (first | (go_at_call 37; with_reducible first | (refine (isInfm_64 f _).mono ?_; rintro en w2 ⟨rfl, rfl⟩; rw [HM.out]) | (refine (isInfp_64 f _).mono ?_; rintro en w2 ⟨rfl, rfl⟩; rw [HP.out])) | (go_at_call 38; with_reducible refine (isNaN_64 f _).mono ?_; rintro en w2 ⟨rfl, rfl⟩; rw [HN.out]) | (go_at_call 39; (with_reducible refine (HF.out _ (by repeat (first | exact Keeps.refl _ _ | apply Keeps.alloc | apply Keeps.drew))).mono ?_); rintro en w3 ⟨rfl, k3⟩; have K3 : Hid (Keeps (fun _ => False) w w3) := Keeps.trans (by repeat (first | exact Keeps.refl _ _ | apply Keeps.alloc | apply Keeps.drew)) k3 (fun _ _ h => h); clear k3) | (first | (go_at_call 30; go_in) | (go_at_call 32; go_in) | (go_at_call 33; go_in) | (go_at_call 35; go_in) | (go_at_call 36; go_in) | (go_at_call 40; go_in) | (go_at_call 42; go_in) | (go_at_call 72; go_in) | (go_at_call 73; go_in)))
 all_goals go_ret2
 all_goals exact ⟨rfl, K3.out⟩
set_option maxRecDepth 1000000 in
set_option maxHeartbeats 8000000 in
theorem marshal_2_nan (ev : Value) (form : Int) (f : Nat) (hN : Nan64 f = true) (hP : InfP f = false) (hM : InfM f = false) (w : World) :
 Calls Tryz.prog 19 #[.agg #[.int .i64 6, .int .u64 (f : Int), .string ⟨#[]⟩, .slice none 0 0], ev, .int .i8 2, .int .i64 form] w fun en w' => en = .returned (.tuple #[.string ⟨#[110, 97, 110]⟩, .nilIface]) ∧ Keeps (fun _ => False) w w' := by
 have HN := Lib.hid hN
 have HP := Lib.hid hP
 have HM := Lib.hid hM
 have hfo := f64of_run f
 clear hN hP hM
 go_enter Tryz.func19, Tryz.ntmps19
 go_wp2_with (first | (go_at_call 37; with_reducible first | (refine (isInfm_64 f _).mono ?_; rintro en w2 ⟨rfl, rfl⟩; rw [HM.out]) | (refine (isInfp_64 f _).mono ?_; rintro en w2 ⟨rfl, rfl⟩; rw [HP.out])) | (go_at_call 38; with_reducible refine (isNaN_64 f _).mono ?_; rintro en w2 ⟨rfl, rfl⟩; rw [HN.out]) | (first | (go_at_call 30; go_in) | (go_at_call 32; go_in) | (go_at_call 33; go_in) | (go_at_call 35; go_in) | (go_at_call 36; go_in) | (go_at_call 40; go_in) | (go_at_call 42; go_in) | (go_at_call 72; go_in) | (go_at_call 73; go_in)))
 all_goals go_ret2
 all_goals exact ⟨rfl, by repeat (first | exact Keeps.refl _ _ | apply Keeps.alloc | apply Keeps.drew)⟩
set_option maxRecDepth 1000000 in
set_option maxHeartbeats 8000000 in
theorem marshal_2_infp (ev : Value) (form : Int) (f : Nat) (hN : Nan64 f = false) (hP : InfP f = true) (hM : InfM f = false) (w : World) :
 Calls Tryz.prog 19 #[.agg #[.int .i64 6, .int .u64 (f : Int), .string ⟨#[]⟩, .slice none 0 0], ev, .int .i8 2, .int .i64 form] w fun en w' => en = .returned (.tuple #[.string ⟨#[105, 110, 102]⟩, .nilIface]) ∧ Keeps (fun _ => False) w w' := by
 have HN := Lib.hid hN
 have HP := Lib.hid hP
 have HM := Lib.hid hM
 have hfo := f64of_run f
 clear hN hP hM
 go_enter Tryz.func19, Tryz.ntmps19
 go_wp2_with (first | (go_at_call 37; with_reducible first | (refine (isInfm_64 f _).mono ?_; rintro en w2 ⟨rfl, rfl⟩; rw [HM.out]) | (refine (isInfp_64 f _).mono ?_; rintro en w2 ⟨rfl, rfl⟩; rw [HP.out])) | (go_at_call 38; with_reducible refine (isNaN_64 f _).mono ?_; rintro en w2 ⟨rfl, rfl⟩; rw [HN.out]) | (first | (go_at_call 30; go_in) | (go_at_call 32; go_in) | (go_at_call 33; go_in) | (go_at_call 35; go_in) | (go_at_call 36; go_in) | (go_at_call 40; go_in) | (go_at_call 42; go_in) | (go_at_call 72; go_in) | (go_at_call 73; go_in)))
 all_goals go_ret2
 all_goals exact ⟨rfl, by repeat (first | exact Keeps.refl _ _ | apply Keeps.alloc | apply Keeps.drew)⟩
set_option maxRecDepth 1000000 in
set_option maxHeartbeats 8000000 in
theorem marshal_2_infm (ev : Value) (form : Int) (f : Nat) (hN : Nan64 f = false) (hP : InfP f = false) (hM : InfM f = true) (w : World) :
 Calls Tryz.prog 19 #[.agg #[.int .i64 6, .int .u64 (f : Int), .string ⟨#[]⟩, .slice none 0 0], ev, .int .i8 2, .int .i64 form] w fun en w' => en = .returned (.tuple #[.string ⟨#[45, 105, 110, 102]⟩, .nilIface]) ∧ Keeps (fun _ => False) w w' := by
 have HN := Lib.hid hN
 have HP := Lib.hid hP
 have HM := Lib.hid hM
 have hfo := f64of_run f
 clear hN hP hM
 go_enter Tryz.func19, Tryz.ntmps19
 go_wp2_with (first | (go_at_call 37; with_reducible first | (refine (isInfm_64 f _).mono ?_; rintro en w2 ⟨rfl, rfl⟩; rw [HM.out]) | (refine (isInfp_64 f _).mono ?_; rintro en w2 ⟨rfl, rfl⟩; rw [HP.out])) | (go_at_call 38; with_reducible refine (isNaN_64 f _).mono ?_; rintro en w2 ⟨rfl, rfl⟩; rw [HN.out]) | (first | (go_at_call 30; go_in) | (go_at_call 32; go_in) | (go_at_call 33; go_in) | (go_at_call 35; go_in) | (go_at_call 36; go_in) | (go_at_call 40; go_in) | (go_at_call 42; go_in) | (go_at_call 72; go_in) | (go_at_call 73; go_in)))
 all_goals go_ret2
 all_goals exact ⟨rfl, by repeat (first | exact Keeps.refl _ _ | apply Keeps.alloc | apply Keeps.drew)⟩
set_option maxRecDepth 1000000 in
set_option maxHeartbeats 8000000 in
theorem marshal_2_num (ev : Value) (form : Int) (f : Nat) (T : List UInt8) (hN : Nan64 f = false) (hP : InfP f = false) (hM : InfM f = false) (w : World) (hF : ∀ w', Keeps (fun _ => False) w w' → Calls Tryz.prog 39 #[.float .f64 f, .int .u8 103, .int .i64 (-1), .int .i64 32] w' fun e w2 => e = .returned (.string (mk T)) ∧ Keeps (fun _ => False) w' w2) :
 Calls Tryz.prog 19 #[.agg #[.int .i64 6, .int .u64 (f : Int), .string ⟨#[]⟩, .slice none 0 0], ev, .int .i8 2, .int .i64 form] w fun en w' => en = .returned (.tuple #[.string (mk T), .nilIface]) ∧ Keeps (fun _ => False) w w' := by
 have HN := Lib.hid hN
 have HP := Lib.hid hP
 have HM := Lib.hid hM
 have hfo := f64of_run f
 clear hN hP hM
 have HF := Lib.hid hF
 clear hF
 obtain ⟨st, hst⟩ : ∃ st, mk T = st := ⟨_, rfl⟩
 rw [hst] at HF ⊢
 clear hst
 go_enter Tryz.func19, Tryz.ntmps19
 go_wp2_with (first | (go_at_call 37; with_reducible first | (refine (isInfm_64 f _).mono ?_; rintro en w2 ⟨rfl, rfl⟩; rw [HM.out]) | (refine (isInfp_64 f _).mono ?_; rintro en w2 ⟨rfl, rfl⟩; rw [HP.out])) | (go_at_call 38; with_reducible refine (isNaN_64 f _).mono ?_; rintro en w2 ⟨rfl, rfl⟩; rw [HN.out]) | (go_at_call 39; (with_reducible refine (HF.out _ (by repeat (first | exact Keeps.refl _ _ | apply Keeps.alloc | apply Keeps.drew))).mono ?_); rintro en w3 ⟨rfl, k3⟩; have K3 : Hid (Keeps (fun _ => False) w w3) := Keeps.trans (by repeat (first | exact Keeps.refl _ _ | apply Keeps.alloc | apply Keeps.drew)) k3 (fun _ _ h => h); clear k3) | (first | (go_at_call 30; go_in) | (go_at_call 32; go_in) | (go_at_call 33; go_in) | (go_at_call 35; go_in) | (go_at_call 36; go_in) | (go_at_call 40; go_in) | (go_at_call 42; go_in) | (go_at_call 72; go_in) | (go_at_call 73; go_in)))
 all_goals go_ret2
 all_goals exact ⟨rfl, K3.out⟩
set_option maxRecDepth 1000000 in
set_option maxHeartbeats 8000000 in
theorem unmarshal_1_infp (ev : Value) (form : Int) (w : World) :
 Calls Tryz.prog 21 #[.string ⟨#[105, 110, 102]⟩, .int .i8 1, ev, .int .i64 form] w fun en w' => en = .returned (.tuple #[.agg #[.int .i64 7, .int .u64 9218868437227405312, .string ⟨#[]⟩, .slice none 0 0], .nilIface, .nilIface]) ∧ Keeps (fun _ => False) w w' := by
 have hfo := f64of_run 9218868437227405312
 have hft := f64to_run 9218868437227405312
 simp only [Int.cast_ofNat_Int] at hfo hft
 go_enter Tryz.func21, Tryz.ntmps21
 go_wp2_with ((first | (go_at_call 51; go_in) | (go_at_call 50; go_in) | (go_at_call 56; go_in) | (go_at_call 57; go_in)))
 all_goals (try simp only [Exit.inBlock, Exit.then])
 all_goals refine bodyPost_ret (results_cell_2u rfl _ _ w.heap.size rfl (run_loadVar_row _ _ _ _ _ (0, 0) _ (Keeps.row (by repeat (first | exact Keeps.refl (fun _ => False) _ | apply Keeps.alloc)) (heap_alloc_new w _) id) Tryz.underlying74 rfl (by kernel_rfl))) rfl ?_
 all_goals exact ⟨rfl, by repeat (first | exact Keeps.refl _ _ | apply Keeps.alloc | apply Keeps.drew)⟩
set_option maxRecDepth 1000000 in
set_option maxHeartbeats 8000000 in
theorem unmarshal_1_infm (ev : Value) (form : Int) (w : World) :
 Calls Tryz.prog 21 #[.string ⟨#[45, 105, 110, 102]⟩, .int .i8 1, ev, .int .i64 form] w fun en w' => en = .returned (.tuple #[.agg #[.int .i64 7, .int .u64 18442240474082181120, .string ⟨#[]⟩, .slice none 0 0], .nilIface, .nilIface]) ∧ Keeps (fun _ => False) w w' := by
 have hfo := f64of_run 18442240474082181120
 have hft := f64to_run 18442240474082181120
 simp only [Int.cast_ofNat_Int] at hfo hft
 go_enter Tryz.func21, Tryz.ntmps21
 go_wp2_with ((first | (go_at_call 51; go_in) | (go_at_call 50; go_in) | (go_at_call 56; go_in) | (go_at_call 57; go_in)))
 all_goals (try simp only [Exit.inBlock, Exit.then])
 all_goals refine bodyPost_ret (results_cell_2u rfl _ _ w.heap.size rfl (run_loadVar_row _ _ _ _ _ (0, 0) _ (Keeps.row (by repeat (first | exact Keeps.refl (fun _ => False) _ | apply Keeps.alloc)) (heap_alloc_new w _) id) Tryz.underlying74 rfl (by kernel_rfl))) rfl ?_
 all_goals exact ⟨rfl, by repeat (first | exact Keeps.refl _ _ | apply Keeps.alloc | apply Keeps.drew)⟩
set_option maxRecDepth 1000000 in
set_option maxHeartbeats 8000000 in
theorem unmarshal_1_nan (ev : Value) (form : Int) (w : World) :
 Calls Tryz.prog 21 #[.string ⟨#[110, 97, 110]⟩, .int .i8 1, ev, .int .i64 form] w fun en w' => en = .returned (.tuple #[.agg #[.int .i64 7, .int .u64 9221120237041090561, .string ⟨#[]⟩, .slice none 0 0], .nilIface, .nilIface]) ∧ Keeps (fun _ => False) w w' := by
 have hfo := f64of_run 9221120237041090561
 have hft := f64to_run 9221120237041090561
 simp only [Int.cast_ofNat_Int] at hfo hft
 go_enter Tryz.func21, Tryz.ntmps21
 go_wp2_with ((first | (go_at_call 51; go_in) | (go_at_call 50; go_in) | (go_at_call 56; go_in) | (go_at_call 57; go_in)))
 all_goals (try simp only [Exit.inBlock, Exit.then])
 all_goals refine bodyPost_ret (results_cell_2u rfl _ _ w.heap.size rfl (run_loadVar_row _ _ _ _ _ (0, 0) _ (Keeps.row (by repeat (first | exact Keeps.refl (fun _ => False) _ | apply Keeps.alloc)) (heap_alloc_new w _) id) Tryz.underlying74 rfl (by kernel_rfl))) rfl ?_
 all_goals exact ⟨rfl, by repeat (first | exact Keeps.refl _ _ | apply Keeps.alloc | apply Keeps.drew)⟩
set_option maxRecDepth 1000000 in
set_option maxHeartbeats 8000000 in
theorem valueOfFloat64_any (f : Nat) (w : World) : Calls Tryz.prog 51 #[.float .f64 f] w fun en w' => en = .returned (.agg #[.int .i64 7, .int .u64 (f : Int), .string ⟨#[]⟩, .slice none 0 0]) ∧ Keeps (fun _ => False) w w' := by
 have hft := f64to_run f
 go_enter Tryz.func51, Tryz.ntmps51
 go_wp2_with (go_in)
 (try simp only [Exit.inBlock, Exit.then])
 refine bodyPost_ret (results_cell_row rfl _ _ w.heap.size _ _ (0, 0) _ rfl (Keeps.row (by repeat (first | exact Keeps.refl (fun _ => False) _ | apply Keeps.alloc)) (heap_alloc_new w _) id) Tryz.underlying74 rfl (by kernel_rfl)) rfl ?_
 exact ⟨rfl, by repeat (first | exact Keeps.refl _ _ | apply Keeps.alloc | apply Keeps.drew)⟩
set_option maxRecDepth 1000000 in
set_option maxHeartbeats 8000000 in
theorem unmarshal_1_num (ev : Value) (form : Int) (s : ByteArray) (f : Nat) (h1 : (s.toList == [45, 105, 110, 102]) = false) (h2 : (s.toList == [105, 110, 102]) = false) (h3 : (s.toList == [110, 97, 110]) = false) (w : World)
 (hF : ∀ w', Keeps (fun _ => False) w w' → Calls Tryz.prog 58 #[.string s, .int .i64 64] w' fun e w2 => e = .returned (.tuple #[.float .f64 f, .nilIface]) ∧ Keeps (fun _ => False) w' w2) :
 Calls Tryz.prog 21 #[.string s, .int .i8 1, ev, .int .i64 form] w fun en w' => en = .returned (.tuple #[.agg #[.int .i64 7, .int .u64 (f : Int), .string ⟨#[]⟩, .slice none 0 0], .nilIface, .nilIface]) ∧ Keeps (fun _ => False) w w' := by
 have HF := Lib.hid hF
 clear hF
 go_enter Tryz.func21, Tryz.ntmps21
 go_wp2_with (first | (go_at_call 58; (with_reducible refine (HF.out _ ((Keeps.refl (fun _ => False) w).alloc _)).mono ?_); rintro en w3 ⟨rfl, k3⟩; have HR3 := Lib.hid (k3.row (heap_alloc_new w _) id); have HK3 := Lib.hid (((Keeps.refl (fun _ => False) w).alloc _).trans k3 (fun _ _ h => h)); have HKG := Lib.hid (Nat.le_refl w.heap.size); clear k3; revert HR3 HK3 HKG; generalize hgK : w.heap.size = K; intro HR3 HK3 HKG) | (go_at_call 51; (with_reducible refine (valueOfFloat64_any f _).mono ?_); rintro en w9 ⟨rfl, k9⟩; have hr9 := k9.row HR3.out id; have f9 := fun j => frozen_row (j := j) hr9; have x0 := cell_row (j := 0) hr9; have x1 := cell_row (j := 1) hr9; have x2 := cell_row (j := 2) hr9; have x3 := cell_row (j := 3) hr9; simp at x0 x1 x2 x3; have HR9 := Lib.hid hr9; have HK9 := Lib.hid (HK3.out.trans k9 (fun _ _ h => h)); clear k9 hr9))
 (try simp only [Exit.inBlock, Exit.then])
 refine bodyPost_ret (results_cell_2u rfl _ _ K rfl (run_loadVar_row _ _ _ _ _ (0, 0) _ (row4 HR9.out _ _ _ _) Tryz.underlying74 rfl (by kernel_rfl))) rfl ?_
 exact ⟨rfl, HK9.out.trans (keeps4 _ _ _ _ _ _) (fun i hi e => by have := HKG.out; omega)⟩
end Go.Proofs.YtonegoemmologaaGreatDoor
namespace Go.Proofs.YtonegoemmologaaGreatDoor
open Go.RowKit
def IsNan64 (g : Nat) : Prop := 9218868437227405312 < g % 9223372036854775808 ∧ g < 18446744073709551616
def IsNan32 (r : Nat) : Prop := 2139095040 < r % 2147483648 ∧ r < 4294967296
theorem read32_nan (f : Nat) (h : 2139095040 < f % 2147483648) : ∃ s t, Ieee.single.read f = .nan s t := by
 unfold Ieee.Format.read
 have hw : Ieee.single.signWeight = 2147483648 := rfl
 have hb : Ieee.single.binade = 8388608 := rfl
 have hi : Ieee.single.infRung = 2139095040 := rfl
 simp only [hw, hb, hi]
 rw [if_neg (by omega), if_neg (by omega), if_neg (by omega)]
 exact ⟨_, _, rfl⟩
theorem cut32_nan (f t : Nat) : IsNan32 ((Question.nanConv .f32 f).cut t) := by
 unfold Question.cut IsNan32
 have h1 : t / 2 % 8388607 < 8388607 := Nat.mod_lt _ (by decide)
 have h2 : t % 2 < 2 := Nat.mod_lt _ (by decide)
 simp only [Nat.reducePow, Nat.reduceSub]
 generalize t / 2 % 8388607 = k at *
 generalize t % 2 = u at *
 constructor <;> omega
theorem cut64_nan (f t : Nat) : IsNan64 ((Question.nanConv .f64 f).cut t) := by
 unfold Question.cut IsNan64
 have h1 : t / 2 % 4503599627370495 < 4503599627370495 := Nat.mod_lt _ (by decide)
 have h2 : t % 2 < 2 := Nat.mod_lt _ (by decide)
 simp only [Nat.reducePow, Nat.reduceSub]
 generalize t / 2 % 4503599627370495 = k at *
 generalize t % 2 = u at *
 constructor <;> omega
theorem conv64_32_nan (f : Nat) (h : IsNan64 f) (w : World) : ∃ r, IsNan32 r ∧ (convert 83 85 (.float .f64 f)).run Tryz.prog w = .ok (.float .f32 r) (w.drewN 1) := by
 obtain ⟨s, t, hr⟩ := read64_nan f h.1
 have hr' : FloatKind.f64.decode f = .nan s t := hr
 have hf : (Question.nanConv .f32 f).forced = false := rfl
 exact ⟨_, cut32_nan f _, conv_run w f _ _ .f64 .f32 _ (by kernel_rfl) (by kernel_rfl) (w.drewN 1) (by simp only [Conv.floatToFloat, hr', reduceCtorEq, if_false]; simp [hf]; exact ⟨rfl, rfl⟩)⟩
theorem conv32_64_nan (f : Nat) (h : IsNan32 f) (w : World) : ∃ r, IsNan64 r ∧ (convert 85 83 (.float .f32 f)).run Tryz.prog w = .ok (.float .f64 r) (w.drewN 1) := by
 obtain ⟨s, t, hr⟩ := read32_nan f h.1
 have hr' : FloatKind.f32.decode f = .nan s t := hr
 have hf : (Question.nanConv .f64 f).forced = false := rfl
 exact ⟨_, cut64_nan f _, conv_run w f _ _ .f32 .f64 _ (by kernel_rfl) (by kernel_rfl) (w.drewN 1) (by simp only [Conv.floatToFloat, hr', reduceCtorEq, if_false]; simp [hf]; exact ⟨rfl, rfl⟩)⟩
set_option maxRecDepth 1000000 in
set_option maxHeartbeats 8000000 in
theorem valueOfFloat32_any (r g : Nat) (hd : ∀ w', (convert 85 83 (.float .f32 r)).run Tryz.prog w' = .ok (.float .f64 g) w') (w : World) : Calls Tryz.prog 50 #[.float .f32 r] w fun en w' => en = .returned (.agg #[.int .i64 6, .int .u64 (g : Int), .string ⟨#[]⟩, .slice none 0 0]) ∧ Keeps (fun _ => False) w w' := by
 have hft := f64to_run g
 go_enter Tryz.func50, Tryz.ntmps50
 go_wp2_with (go_in)
 (try simp only [Exit.inBlock, Exit.then])
 refine bodyPost_ret (results_cell_row rfl _ _ w.heap.size _ _ (0, 0) _ rfl (Keeps.row (by repeat (first | exact Keeps.refl (fun _ => False) _ | apply Keeps.alloc | apply Keeps.drewN)) (heap_alloc_new w _) id) Tryz.underlying74 rfl (by kernel_rfl)) rfl ?_
 exact ⟨rfl, by repeat (first | exact Keeps.refl _ _ | apply Keeps.alloc | apply Keeps.drewN)⟩
set_option maxRecDepth 1000000 in
set_option maxHeartbeats 8000000 in
theorem valueOfFloat32_nan (r : Nat) (hn : IsNan32 r) (w : World) : Calls Tryz.prog 50 #[.float .f32 r] w fun en w' => (∃ g : Nat, IsNan64 g ∧ en = .returned (.agg #[.int .i64 6, .int .u64 (g : Int), .string ⟨#[]⟩, .slice none 0 0])) ∧ Keeps (fun _ => False) w w' := by
 obtain ⟨g, hg, hcv⟩ := conv32_64_nan r hn (w.alloc (.cells #[.int .i64 0, .int .u64 0, .string ⟨#[]⟩, .slice none 0 0] 74))
 have HG := Lib.hid hg
 clear hg hn
 have hft := f64to_run g
 go_enter Tryz.func50, Tryz.ntmps50
 go_wp2_with (go_in)
 (try simp only [Exit.inBlock, Exit.then])
 refine bodyPost_ret (results_cell_row rfl _ _ w.heap.size _ _ (0, 0) _ rfl (row4 (Keeps.row (by repeat (first | exact Keeps.refl (fun _ => False) _ | apply Keeps.drewN)) (heap_alloc_new w (.cells #[.int .i64 0, .int .u64 0, .string ⟨#[]⟩, .slice none 0 0] 74)) id) _ _ _ _) Tryz.underlying74 rfl (by kernel_rfl)) rfl ?_
 exact ⟨⟨_, HG.out, rfl⟩, Keeps.trans (show Keeps (fun _ => False) w ((w.alloc (.cells #[.int .i64 0, .int .u64 0, .string ⟨#[]⟩, .slice none 0 0] 74)).drewN 1) from by repeat (first | exact Keeps.refl _ _ | apply Keeps.alloc | apply Keeps.drewN)) (keeps4 _ _ _ _ _ _) (fun i hi e => by omega)⟩
set_option maxRecDepth 1000000 in
set_option maxHeartbeats 8000000 in
theorem given_2_nan (b : Bool) (i u : Int) (f : Nat) (s e : ByteArray) (hn : IsNan64 f) (w : World) :
 Calls Tryz.prog 20 #[iv 2 b i u (f : Int) s e] w fun en w' => (∃ g : Nat, IsNan64 g ∧ en = .returned (pv 6 (g : Int) noS (.slice none 0 0))) ∧ Keeps (fun _ => False) w w' := by
 unfold iv pv noS
 obtain ⟨r, hr, hcv⟩ := conv64_32_nan f hn ((w.alloc (.cells #[.int .i64 2, .bool b, .int .i64 i, .int .u64 u, .int .u64 (f : Int), .string s, .string e] 42)).alloc (.cells #[.int .i64 0, .int .u64 0, .string ⟨#[]⟩, .slice none 0 0] 74))
 have HX := Lib.hid hr
 clear hr hn
 have hfo := f64of_run f
 go_enter Tryz.func20, Tryz.ntmps20
 go_wp2_with (first | (go_at_call 50; (with_reducible refine (valueOfFloat32_nan r HX.out _).mono ?_); rintro en w9 ⟨⟨g, hg, rfl⟩, k9⟩; have hr9 := k9.row (Keeps.row (by repeat (first | exact Keeps.refl (fun _ => False) _ | apply Keeps.drewN)) (heap_alloc2_new w (.cells #[.int .i64 2, .bool b, .int .i64 i, .int .u64 u, .int .u64 (f : Int), .string s, .string e] 42) (.cells #[.int .i64 0, .int .u64 0, .string ⟨#[]⟩, .slice none 0 0] 74)) id) id; have hk9 : Keeps (fun _ => False) w (((w.alloc (.cells #[.int .i64 2, .bool b, .int .i64 i, .int .u64 u, .int .u64 (f : Int), .string s, .string e] 42)).alloc (.cells #[.int .i64 0, .int .u64 0, .string ⟨#[]⟩, .slice none 0 0] 74)).drewN 1) := (by repeat (first | exact Keeps.refl _ _ | apply Keeps.alloc | apply Keeps.drewN)); have f9 := fun j => frozen_row (j := j) hr9; have x0 := cell_row (j := 0) hr9; have x1 := cell_row (j := 1) hr9; have x2 := cell_row (j := 2) hr9; have x3 := cell_row (j := 3) hr9; simp at x0 x1 x2 x3; have HR9 := Lib.hid hr9; have HK9 := Lib.hid (Keeps.trans hk9 k9 (fun _ _ h => h)); clear k9 hr9 hk9; have HKG := Lib.hid (show w.heap.size ≤ w.heap.size + 1 from Nat.le_succ _); have HG := Lib.hid hg; clear hg; revert HR9 HK9 HKG x0 x1 x2 x3 f9; generalize hgK : w.heap.size + 1 = K; intro f9 x0 x1 x2 x3 HR9 HK9 HKG) | go_in)
 all_goals (try simp only [Exit.inBlock, Exit.then])
 all_goals refine bodyPost_ret (results_cell_row rfl _ _ K _ _ (0, 0) _ rfl (row4 HR9.out _ _ _ _) Tryz.underlying74 rfl (by kernel_rfl)) rfl ?_
 all_goals exact ⟨⟨_, HG.out, rfl⟩, HK9.out.trans (keeps4 _ _ _ _ _ _) (fun i hi e => by have : w.heap.size ≤ K := HKG.out; omega)⟩
theorem conv64_32_infp (w : World) : (convert 83 85 (.float .f64 9218868437227405312)).run Tryz.prog w = .ok (.float .f32 2139095040) w :=
 conv_run w 9218868437227405312 _ _ .f64 .f32 (.float .f32 2139095040) (by kernel_rfl) (by kernel_rfl) w (by rfl)
theorem conv32_64_infp (w : World) : (convert 85 83 (.float .f32 2139095040)).run Tryz.prog w = .ok (.float .f64 9218868437227405312) w :=
 conv_run w 2139095040 _ _ .f32 .f64 (.float .f64 9218868437227405312) (by kernel_rfl) (by kernel_rfl) w (by rfl)
set_option maxRecDepth 1000000 in
set_option maxHeartbeats 8000000 in
theorem unmarshal_2_infp (ev : Value) (form : Int) (w : World) :
 Calls Tryz.prog 21 #[.string ⟨#[105, 110, 102]⟩, .int .i8 2, ev, .int .i64 form] w fun en w' => en = .returned (.tuple #[.agg #[.int .i64 6, .int .u64 9218868437227405312, .string ⟨#[]⟩, .slice none 0 0], .nilIface, .nilIface]) ∧ Keeps (fun _ => False) w w' := by
 have hfo := f64of_run 9218868437227405312
 simp only [Int.cast_ofNat_Int] at hfo
 have hc1 := conv64_32_infp
 go_enter Tryz.func21, Tryz.ntmps21
 go_wp2_with (first | (go_at_call 56; go_in) | (go_at_call 57; go_in) | (go_at_call 50; (with_reducible refine (valueOfFloat32_any 2139095040 9218868437227405312 conv32_64_infp _).mono ?_); rintro en w9 ⟨rfl, k9⟩; have hr9 := k9.row (Keeps.row (by repeat (first | exact Keeps.refl (fun _ => False) _ | apply Keeps.drewN)) (heap_alloc_new w (.cells #[.int .i64 0, .int .u64 0, .string ⟨#[]⟩, .slice none 0 0] 74)) id) id; have hk9 : Keeps (fun _ => False) w (w.alloc (.cells #[.int .i64 0, .int .u64 0, .string ⟨#[]⟩, .slice none 0 0] 74)) := (by repeat (first | exact Keeps.refl _ _ | apply Keeps.alloc | apply Keeps.drewN)); have f9 := fun j => frozen_row (j := j) hr9; have x0 := cell_row (j := 0) hr9; have x1 := cell_row (j := 1) hr9; have x2 := cell_row (j := 2) hr9; have x3 := cell_row (j := 3) hr9; simp at x0 x1 x2 x3; have HR9 := Lib.hid hr9; have HK9 := Lib.hid (Keeps.trans hk9 k9 (fun _ _ h => h)); clear k9 hr9 hk9; have HKG := Lib.hid (Nat.le_refl w.heap.size); revert HR9 HK9 HKG x0 x1 x2 x3 f9; generalize hgK : w.heap.size = K; intro f9 x0 x1 x2 x3 HR9 HK9 HKG))
 all_goals (try simp only [Exit.inBlock, Exit.then])
 all_goals refine bodyPost_ret (results_cell_2u rfl _ _ K rfl (run_loadVar_row _ _ _ _ _ (0, 0) _ (row4 HR9.out _ _ _ _) Tryz.underlying74 rfl (by kernel_rfl))) rfl ?_
 all_goals exact ⟨rfl, HK9.out.trans (keeps4 _ _ _ _ _ _) (fun i hi e => by have := HKG.out; omega)⟩
theorem conv64_32_infm (w : World) : (convert 83 85 (.float .f64 18442240474082181120)).run Tryz.prog w = .ok (.float .f32 4286578688) w :=
 conv_run w 18442240474082181120 _ _ .f64 .f32 (.float .f32 4286578688) (by kernel_rfl) (by kernel_rfl) w (by rfl)
theorem conv32_64_infm (w : World) : (convert 85 83 (.float .f32 4286578688)).run Tryz.prog w = .ok (.float .f64 18442240474082181120) w :=
 conv_run w 4286578688 _ _ .f32 .f64 (.float .f64 18442240474082181120) (by kernel_rfl) (by kernel_rfl) w (by rfl)
set_option maxRecDepth 1000000 in
set_option maxHeartbeats 8000000 in
theorem unmarshal_2_infm (ev : Value) (form : Int) (w : World) :
 Calls Tryz.prog 21 #[.string ⟨#[45, 105, 110, 102]⟩, .int .i8 2, ev, .int .i64 form] w fun en w' => en = .returned (.tuple #[.agg #[.int .i64 6, .int .u64 18442240474082181120, .string ⟨#[]⟩, .slice none 0 0], .nilIface, .nilIface]) ∧ Keeps (fun _ => False) w w' := by
 have hfo := f64of_run 18442240474082181120
 simp only [Int.cast_ofNat_Int] at hfo
 have hc1 := conv64_32_infm
 go_enter Tryz.func21, Tryz.ntmps21
 go_wp2_with (first | (go_at_call 56; go_in) | (go_at_call 57; go_in) | (go_at_call 50; (with_reducible refine (valueOfFloat32_any 4286578688 18442240474082181120 conv32_64_infm _).mono ?_); rintro en w9 ⟨rfl, k9⟩; have hr9 := k9.row (Keeps.row (by repeat (first | exact Keeps.refl (fun _ => False) _ | apply Keeps.drewN)) (heap_alloc_new w (.cells #[.int .i64 0, .int .u64 0, .string ⟨#[]⟩, .slice none 0 0] 74)) id) id; have hk9 : Keeps (fun _ => False) w (w.alloc (.cells #[.int .i64 0, .int .u64 0, .string ⟨#[]⟩, .slice none 0 0] 74)) := (by repeat (first | exact Keeps.refl _ _ | apply Keeps.alloc | apply Keeps.drewN)); have f9 := fun j => frozen_row (j := j) hr9; have x0 := cell_row (j := 0) hr9; have x1 := cell_row (j := 1) hr9; have x2 := cell_row (j := 2) hr9; have x3 := cell_row (j := 3) hr9; simp at x0 x1 x2 x3; have HR9 := Lib.hid hr9; have HK9 := Lib.hid (Keeps.trans hk9 k9 (fun _ _ h => h)); clear k9 hr9 hk9; have HKG := Lib.hid (Nat.le_refl w.heap.size); revert HR9 HK9 HKG x0 x1 x2 x3 f9; generalize hgK : w.heap.size = K; intro f9 x0 x1 x2 x3 HR9 HK9 HKG))
 all_goals (try simp only [Exit.inBlock, Exit.then])
 all_goals refine bodyPost_ret (results_cell_2u rfl _ _ K rfl (run_loadVar_row _ _ _ _ _ (0, 0) _ (row4 HR9.out _ _ _ _) Tryz.underlying74 rfl (by kernel_rfl))) rfl ?_
 all_goals exact ⟨rfl, HK9.out.trans (keeps4 _ _ _ _ _ _) (fun i hi e => by have := HKG.out; omega)⟩
set_option maxRecDepth 1000000 in
set_option maxHeartbeats 8000000 in
theorem unmarshal_2_nan (ev : Value) (form : Int) (w : World) :
 Calls Tryz.prog 21 #[.string ⟨#[110, 97, 110]⟩, .int .i8 2, ev, .int .i64 form] w fun en w' => (∃ g : Nat, IsNan64 g ∧ en = .returned (.tuple #[.agg #[.int .i64 6, .int .u64 (g : Int), .string ⟨#[]⟩, .slice none 0 0], .nilIface, .nilIface])) ∧ Keeps (fun _ => False) w w' := by
 have hfo := f64of_run 9221120237041090561
 simp only [Int.cast_ofNat_Int] at hfo
 obtain ⟨r, hr, hcv⟩ := conv64_32_nan 9221120237041090561 ⟨by decide, by decide⟩ (w.alloc (.cells #[.int .i64 0, .int .u64 0, .string ⟨#[]⟩, .slice none 0 0] 74))
 have HX := Lib.hid hr
 clear hr
 go_enter Tryz.func21, Tryz.ntmps21
 go_wp2_with (first | (go_at_call 56; go_in) | (go_at_call 57; go_in) | (go_at_call 50; (with_reducible refine (valueOfFloat32_nan r HX.out _).mono ?_); rintro en w9 ⟨⟨g, hg, rfl⟩, k9⟩; have hr9 := k9.row (Keeps.row (by repeat (first | exact Keeps.refl (fun _ => False) _ | apply Keeps.drewN)) (heap_alloc_new w (.cells #[.int .i64 0, .int .u64 0, .string ⟨#[]⟩, .slice none 0 0] 74)) id) id; have hk9 : Keeps (fun _ => False) w ((w.alloc (.cells #[.int .i64 0, .int .u64 0, .string ⟨#[]⟩, .slice none 0 0] 74)).drewN 1) := (by repeat (first | exact Keeps.refl _ _ | apply Keeps.alloc | apply Keeps.drewN)); have f9 := fun j => frozen_row (j := j) hr9; have x0 := cell_row (j := 0) hr9; have x1 := cell_row (j := 1) hr9; have x2 := cell_row (j := 2) hr9; have x3 := cell_row (j := 3) hr9; simp at x0 x1 x2 x3; have HR9 := Lib.hid hr9; have HK9 := Lib.hid (Keeps.trans hk9 k9 (fun _ _ h => h)); clear k9 hr9 hk9; have HKG := Lib.hid (Nat.le_refl w.heap.size); revert HR9 HK9 HKG x0 x1 x2 x3 f9; generalize hgK : w.heap.size = K; intro f9 x0 x1 x2 x3 HR9 HK9 HKG))
 all_goals (try simp only [Exit.inBlock, Exit.then])
 all_goals refine bodyPost_ret (results_cell_2u rfl _ _ K rfl (run_loadVar_row _ _ _ _ _ (0, 0) _ (row4 HR9.out _ _ _ _) Tryz.underlying74 rfl (by kernel_rfl))) rfl ?_
 all_goals exact ⟨⟨_, hg, rfl⟩, HK9.out.trans (keeps4 _ _ _ _ _ _) (fun i hi e => by have := HKG.out; omega)⟩
set_option maxRecDepth 1000000 in
set_option maxHeartbeats 8000000 in
theorem unmarshal_2_num (ev : Value) (form : Int) (s : ByteArray) (f r g : Nat) (h1 : (s.toList == [45, 105, 110, 102]) = false) (h2 : (s.toList == [105, 110, 102]) = false) (h3 : (s.toList == [110, 97, 110]) = false)
 (hc : ∀ w', (convert 83 85 (.float .f64 f)).run Tryz.prog w' = .ok (.float .f32 r) w') (hd : ∀ w', (convert 85 83 (.float .f32 r)).run Tryz.prog w' = .ok (.float .f64 g) w') (w : World)
 (hF : ∀ w', Keeps (fun _ => False) w w' → Calls Tryz.prog 58 #[.string s, .int .i64 64] w' fun e w2 => e = .returned (.tuple #[.float .f64 f, .nilIface]) ∧ Keeps (fun _ => False) w' w2) :
 Calls Tryz.prog 21 #[.string s, .int .i8 2, ev, .int .i64 form] w fun en w' => en = .returned (.tuple #[.agg #[.int .i64 6, .int .u64 (g : Int), .string ⟨#[]⟩, .slice none 0 0], .nilIface, .nilIface]) ∧ Keeps (fun _ => False) w w' := by
 have HF := Lib.hid hF
 have HD := Lib.hid hd
 clear hF hd
 go_enter Tryz.func21, Tryz.ntmps21
 go_wp2_with (first | (go_at_call 58; (with_reducible refine (HF.out _ ((Keeps.refl (fun _ => False) w).alloc _)).mono ?_); rintro en w3 ⟨rfl, k3⟩; have HR3 := Lib.hid (k3.row (heap_alloc_new w _) id); have HK3 := Lib.hid (((Keeps.refl (fun _ => False) w).alloc _).trans k3 (fun _ _ h => h)); have HKG := Lib.hid (Nat.le_refl w.heap.size); clear k3; revert HR3 HK3 HKG; generalize hgK : w.heap.size = K; intro HR3 HK3 HKG) | (go_at_call 50; (with_reducible refine (valueOfFloat32_any r g HD.out _).mono ?_); rintro en w9 ⟨rfl, k9⟩; have hr9 := k9.row HR3.out id; have hk9 := HK3.out; have f9 := fun j => frozen_row (j := j) hr9; have x0 := cell_row (j := 0) hr9; have x1 := cell_row (j := 1) hr9; have x2 := cell_row (j := 2) hr9; have x3 := cell_row (j := 3) hr9; simp at x0 x1 x2 x3; have HR9 := Lib.hid hr9; have HK9 := Lib.hid (hk9.trans k9 (fun _ _ h => h)); clear k9 hr9 hk9))
 (try simp only [Exit.inBlock, Exit.then])
 refine bodyPost_ret (results_cell_2u rfl _ _ K rfl (run_loadVar_row _ _ _ _ _ (0, 0) _ (row4 HR9.out _ _ _ _) Tryz.underlying74 rfl (by kernel_rfl))) rfl ?_
 exact ⟨rfl, HK9.out.trans (keeps4 _ _ _ _ _ _) (fun i hi e => by have := HKG.out; omega)⟩
end Go.Proofs.YtonegoemmologaaGreatDoor
