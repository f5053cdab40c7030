/-
  defval.Marshal, kind by kind.
-/
import Derived.Test.YtonegoemmologaaGreatDoorM08
import Derived.Test.YtonegoemmologaaGreatDoorM09
import Derived.Test.YtonegoemmologaaGreatDoorM16
import Derived.Test.YtonegoemmologaaGreatDoorM25
import Derived.Deep.DeepCutAuto
set_option linter.unusedVariables false
set_option linter.unusedSimpArgs false
namespace Go.Proofs.YtonegoemmologaaGreatDoor
open Go.RowKit
theorem Ten.keepsF {w w' : World} (h : Ten w) (hk : Keeps (fun _ => False) w w') : Ten w' := h.keeps hk id
set_option maxRecDepth 1000000 in
set_option maxHeartbeats 8000000 in
theorem marshal_8_1_true (ev : Value) (w : World) :
 Calls Tryz.prog 19 #[.agg #[.int .i64 1, .int .u64 1, .string ⟨#[]⟩, .slice none 0 0], ev, .int .i8 8, .int .i64 1] w fun en w' => en = .returned (.tuple #[.string ⟨#[116, 114, 117, 101]⟩, .nilIface]) ∧ Keeps (fun _ => False) w w' := by
 go_enter Tryz.func19, Tryz.ntmps19
 go_wp2_with ((first | (go_at_call 30; go_in) | (go_at_call 32; go_in) | (go_at_call 33; go_in) | (go_at_call 35; go_in) | (go_at_call 36; go_in) | (go_at_call 40; go_in) | (go_at_call 42; go_in) | (go_at_call 72; go_in) | (go_at_call 73; go_in) | (go_at_call 204; go_in) | (go_at_call 205; go_in)))
 all_goals go_ret2
 all_goals first | exact ⟨rfl, (by repeat (first | exact Keeps.refl _ _ | apply Keeps.alloc | apply Keeps.drew))⟩ | (refine ⟨?_, (by repeat (first | exact Keeps.refl _ _ | apply Keeps.alloc | apply Keeps.drew))⟩; simp_all)
set_option maxRecDepth 1000000 in
set_option maxHeartbeats 8000000 in
theorem marshal_8_1_false (ev : Value) (w : World) :
 Calls Tryz.prog 19 #[.agg #[.int .i64 1, .int .u64 0, .string ⟨#[]⟩, .slice none 0 0], ev, .int .i8 8, .int .i64 1] w fun en w' => en = .returned (.tuple #[.string ⟨#[102, 97, 108, 115, 101]⟩, .nilIface]) ∧ Keeps (fun _ => False) w w' := by
 go_enter Tryz.func19, Tryz.ntmps19
 go_wp2_with ((first | (go_at_call 30; go_in) | (go_at_call 32; go_in) | (go_at_call 33; go_in) | (go_at_call 35; go_in) | (go_at_call 36; go_in) | (go_at_call 40; go_in) | (go_at_call 42; go_in) | (go_at_call 72; go_in) | (go_at_call 73; go_in) | (go_at_call 204; go_in) | (go_at_call 205; go_in)))
 all_goals go_ret2
 all_goals first | exact ⟨rfl, (by repeat (first | exact Keeps.refl _ _ | apply Keeps.alloc | apply Keeps.drew))⟩ | (refine ⟨?_, (by repeat (first | exact Keeps.refl _ _ | apply Keeps.alloc | apply Keeps.drew))⟩; simp_all)
set_option maxRecDepth 1000000 in
set_option maxHeartbeats 8000000 in
theorem marshal_8_2_true (ev : Value) (w : World) :
 Calls Tryz.prog 19 #[.agg #[.int .i64 1, .int .u64 1, .string ⟨#[]⟩, .slice none 0 0], ev, .int .i8 8, .int .i64 2] w fun en w' => en = .returned (.tuple #[.string ⟨#[49]⟩, .nilIface]) ∧ Keeps (fun _ => False) w w' := by
 go_enter Tryz.func19, Tryz.ntmps19
 go_wp2_with ((first | (go_at_call 30; go_in) | (go_at_call 32; go_in) | (go_at_call 33; go_in) | (go_at_call 35; go_in) | (go_at_call 36; go_in) | (go_at_call 40; go_in) | (go_at_call 42; go_in) | (go_at_call 72; go_in) | (go_at_call 73; go_in) | (go_at_call 204; go_in) | (go_at_call 205; go_in)))
 all_goals go_ret2
 all_goals first | exact ⟨rfl, (by repeat (first | exact Keeps.refl _ _ | apply Keeps.alloc | apply Keeps.drew))⟩ | (refine ⟨?_, (by repeat (first | exact Keeps.refl _ _ | apply Keeps.alloc | apply Keeps.drew))⟩; simp_all)
set_option maxRecDepth 1000000 in
set_option maxHeartbeats 8000000 in
theorem marshal_8_2_false (ev : Value) (w : World) :
 Calls Tryz.prog 19 #[.agg #[.int .i64 1, .int .u64 0, .string ⟨#[]⟩, .slice none 0 0], ev, .int .i8 8, .int .i64 2] w fun en w' => en = .returned (.tuple #[.string ⟨#[48]⟩, .nilIface]) ∧ Keeps (fun _ => False) w w' := by
 go_enter Tryz.func19, Tryz.ntmps19
 go_wp2_with ((first | (go_at_call 30; go_in) | (go_at_call 32; go_in) | (go_at_call 33; go_in) | (go_at_call 35; go_in) | (go_at_call 36; go_in) | (go_at_call 40; go_in) | (go_at_call 42; go_in) | (go_at_call 72; go_in) | (go_at_call 73; go_in) | (go_at_call 204; go_in) | (go_at_call 205; go_in)))
 all_goals go_ret2
 all_goals first | exact ⟨rfl, (by repeat (first | exact Keeps.refl _ _ | apply Keeps.alloc | apply Keeps.drew))⟩ | (refine ⟨?_, (by repeat (first | exact Keeps.refl _ _ | apply Keeps.alloc | apply Keeps.drew))⟩; simp_all)
set_option maxRecDepth 1000000 in
set_option maxHeartbeats 8000000 in
theorem marshal_5 (ev : Value) (form i n : Int) (h1 : -9223372036854775808 ≤ i) (h2 : i ≤ 9223372036854775807) (hn : wrap64 n = i) (hn2 : IntKind.i64.wrap n = i) (w : World) (hT : Ten w) :
 Calls Tryz.prog 19 #[.agg #[.int .i64 2, .int .u64 n, .string ⟨#[]⟩, .slice none 0 0], ev, .int .i8 5, .int .i64 form] w fun en w' => en = .returned (.tuple #[.string (mk (Lib.itoa i)), .nilIface]) ∧ Keeps (fun _ => False) w w' := by
 have HT := Lib.hid hT
 have HB1 := Lib.hid h1
 have HB2 := Lib.hid h2
 have HWI : Hid (wrap64 i = i) := by show _ = _; unfold wrap64; omega
 clear hT h1 h2
 go_enter Tryz.func19, Tryz.ntmps19
 go_wp2_with (first | (go_at_call 31; (try rw [HWI.out]); refine (formatInt_any i HB1.out HB2.out _ (HT.out.keepsF (by repeat (first | exact Keeps.refl _ _ | apply Keeps.alloc | apply Keeps.drew)))).mono ?_; rintro en w3 ⟨rfl, k3⟩; have K3 : Hid (Keeps (fun _ => False) w w3) := Keeps.trans (by repeat (first | exact Keeps.refl _ _ | apply Keeps.alloc | apply Keeps.drew)) k3 (fun _ _ h => h); clear k3) | (first | (go_at_call 30; go_in) | (go_at_call 32; go_in) | (go_at_call 33; go_in) | (go_at_call 35; go_in) | (go_at_call 36; go_in) | (go_at_call 40; go_in) | (go_at_call 42; go_in) | (go_at_call 72; go_in) | (go_at_call 73; go_in) | (go_at_call 204; go_in) | (go_at_call 205; go_in)))
 all_goals go_ret2
 all_goals first | exact ⟨rfl, K3.out⟩ | (refine ⟨?_, K3.out⟩; simp_all)
set_option maxRecDepth 1000000 in
set_option maxHeartbeats 8000000 in
theorem marshal_17 (ev : Value) (form i n : Int) (h1 : -9223372036854775808 ≤ i) (h2 : i ≤ 9223372036854775807) (hn : wrap64 n = i) (hn2 : IntKind.i64.wrap n = i) (w : World) (hT : Ten w) :
 Calls Tryz.prog 19 #[.agg #[.int .i64 2, .int .u64 n, .string ⟨#[]⟩, .slice none 0 0], ev, .int .i8 17, .int .i64 form] w fun en w' => en = .returned (.tuple #[.string (mk (Lib.itoa i)), .nilIface]) ∧ Keeps (fun _ => False) w w' := by
 have HT := Lib.hid hT
 have HB1 := Lib.hid h1
 have HB2 := Lib.hid h2
 have HWI : Hid (wrap64 i = i) := by show _ = _; unfold wrap64; omega
 clear hT h1 h2
 go_enter Tryz.func19, Tryz.ntmps19
 go_wp2_with (first | (go_at_call 31; (try rw [HWI.out]); refine (formatInt_any i HB1.out HB2.out _ (HT.out.keepsF (by repeat (first | exact Keeps.refl _ _ | apply Keeps.alloc | apply Keeps.drew)))).mono ?_; rintro en w3 ⟨rfl, k3⟩; have K3 : Hid (Keeps (fun _ => False) w w3) := Keeps.trans (by repeat (first | exact Keeps.refl _ _ | apply Keeps.alloc | apply Keeps.drew)) k3 (fun _ _ h => h); clear k3) | (first | (go_at_call 30; go_in) | (go_at_call 32; go_in) | (go_at_call 33; go_in) | (go_at_call 35; go_in) | (go_at_call 36; go_in) | (go_at_call 40; go_in) | (go_at_call 42; go_in) | (go_at_call 72; go_in) | (go_at_call 73; go_in) | (go_at_call 204; go_in) | (go_at_call 205; go_in)))
 all_goals go_ret2
 all_goals first | exact ⟨rfl, K3.out⟩ | (refine ⟨?_, K3.out⟩; simp_all)
set_option maxRecDepth 1000000 in
set_option maxHeartbeats 8000000 in
theorem marshal_15 (ev : Value) (form i n : Int) (h1 : -9223372036854775808 ≤ i) (h2 : i ≤ 9223372036854775807) (hn : wrap64 n = i) (hn2 : IntKind.i64.wrap n = i) (w : World) (hT : Ten w) :
 Calls Tryz.prog 19 #[.agg #[.int .i64 2, .int .u64 n, .string ⟨#[]⟩, .slice none 0 0], ev, .int .i8 15, .int .i64 form] w fun en w' => en = .returned (.tuple #[.string (mk (Lib.itoa i)), .nilIface]) ∧ Keeps (fun _ => False) w w' := by
 have HT := Lib.hid hT
 have HB1 := Lib.hid h1
 have HB2 := Lib.hid h2
 have HWI : Hid (wrap64 i = i) := by show _ = _; unfold wrap64; omega
 clear hT h1 h2
 go_enter Tryz.func19, Tryz.ntmps19
 go_wp2_with (first | (go_at_call 31; (try rw [HWI.out]); refine (formatInt_any i HB1.out HB2.out _ (HT.out.keepsF (by repeat (first | exact Keeps.refl _ _ | apply Keeps.alloc | apply Keeps.drew)))).mono ?_; rintro en w3 ⟨rfl, k3⟩; have K3 : Hid (Keeps (fun _ => False) w w3) := Keeps.trans (by repeat (first | exact Keeps.refl _ _ | apply Keeps.alloc | apply Keeps.drew)) k3 (fun _ _ h => h); clear k3) | (first | (go_at_call 30; go_in) | (go_at_call 32; go_in) | (go_at_call 33; go_in) | (go_at_call 35; go_in) | (go_at_call 36; go_in) | (go_at_call 40; go_in) | (go_at_call 42; go_in) | (go_at_call 72; go_in) | (go_at_call 73; go_in) | (go_at_call 204; go_in) | (go_at_call 205; go_in)))
 all_goals go_ret2
 all_goals first | exact ⟨rfl, K3.out⟩ | (refine ⟨?_, K3.out⟩; simp_all)
set_option maxRecDepth 1000000 in
set_option maxHeartbeats 8000000 in
theorem marshal_3 (ev : Value) (form i n : Int) (h1 : -9223372036854775808 ≤ i) (h2 : i ≤ 9223372036854775807) (hn : wrap64 n = i) (hn2 : IntKind.i64.wrap n = i) (w : World) (hT : Ten w) :
 Calls Tryz.prog 19 #[.agg #[.int .i64 3, .int .u64 n, .string ⟨#[]⟩, .slice none 0 0], ev, .int .i8 3, .int .i64 form] w fun en w' => en = .returned (.tuple #[.string (mk (Lib.itoa i)), .nilIface]) ∧ Keeps (fun _ => False) w w' := by
 have HT := Lib.hid hT
 have HB1 := Lib.hid h1
 have HB2 := Lib.hid h2
 have HWI : Hid (wrap64 i = i) := by show _ = _; unfold wrap64; omega
 clear hT h1 h2
 go_enter Tryz.func19, Tryz.ntmps19
 go_wp2_with (first | (go_at_call 31; (try rw [HWI.out]); refine (formatInt_any i HB1.out HB2.out _ (HT.out.keepsF (by repeat (first | exact Keeps.refl _ _ | apply Keeps.alloc | apply Keeps.drew)))).mono ?_; rintro en w3 ⟨rfl, k3⟩; have K3 : Hid (Keeps (fun _ => False) w w3) := Keeps.trans (by repeat (first | exact Keeps.refl _ _ | apply Keeps.alloc | apply Keeps.drew)) k3 (fun _ _ h => h); clear k3) | (first | (go_at_call 30; go_in) | (go_at_call 32; go_in) | (go_at_call 33; go_in) | (go_at_call 35; go_in) | (go_at_call 36; go_in) | (go_at_call 40; go_in) | (go_at_call 42; go_in) | (go_at_call 72; go_in) | (go_at_call 73; go_in) | (go_at_call 204; go_in) | (go_at_call 205; go_in)))
 all_goals go_ret2
 all_goals first | exact ⟨rfl, K3.out⟩ | (refine ⟨?_, K3.out⟩; simp_all)
set_option maxRecDepth 1000000 in
set_option maxHeartbeats 8000000 in
theorem marshal_18 (ev : Value) (form i n : Int) (h1 : -9223372036854775808 ≤ i) (h2 : i ≤ 9223372036854775807) (hn : wrap64 n = i) (hn2 : IntKind.i64.wrap n = i) (w : World) (hT : Ten w) :
 Calls Tryz.prog 19 #[.agg #[.int .i64 3, .int .u64 n, .string ⟨#[]⟩, .slice none 0 0], ev, .int .i8 18, .int .i64 form] w fun en w' => en = .returned (.tuple #[.string (mk (Lib.itoa i)), .nilIface]) ∧ Keeps (fun _ => False) w w' := by
 have HT := Lib.hid hT
 have HB1 := Lib.hid h1
 have HB2 := Lib.hid h2
 have HWI : Hid (wrap64 i = i) := by show _ = _; unfold wrap64; omega
 clear hT h1 h2
 go_enter Tryz.func19, Tryz.ntmps19
 go_wp2_with (first | (go_at_call 31; (try rw [HWI.out]); refine (formatInt_any i HB1.out HB2.out _ (HT.out.keepsF (by repeat (first | exact Keeps.refl _ _ | apply Keeps.alloc | apply Keeps.drew)))).mono ?_; rintro en w3 ⟨rfl, k3⟩; have K3 : Hid (Keeps (fun _ => False) w w3) := Keeps.trans (by repeat (first | exact Keeps.refl _ _ | apply Keeps.alloc | apply Keeps.drew)) k3 (fun _ _ h => h); clear k3) | (first | (go_at_call 30; go_in) | (go_at_call 32; go_in) | (go_at_call 33; go_in) | (go_at_call 35; go_in) | (go_at_call 36; go_in) | (go_at_call 40; go_in) | (go_at_call 42; go_in) | (go_at_call 72; go_in) | (go_at_call 73; go_in) | (go_at_call 204; go_in) | (go_at_call 205; go_in)))
 all_goals go_ret2
 all_goals first | exact ⟨rfl, K3.out⟩ | (refine ⟨?_, K3.out⟩; simp_all)
set_option maxRecDepth 1000000 in
set_option maxHeartbeats 8000000 in
theorem marshal_16 (ev : Value) (form i n : Int) (h1 : -9223372036854775808 ≤ i) (h2 : i ≤ 9223372036854775807) (hn : wrap64 n = i) (hn2 : IntKind.i64.wrap n = i) (w : World) (hT : Ten w) :
 Calls Tryz.prog 19 #[.agg #[.int .i64 3, .int .u64 n, .string ⟨#[]⟩, .slice none 0 0], ev, .int .i8 16, .int .i64 form] w fun en w' => en = .returned (.tuple #[.string (mk (Lib.itoa i)), .nilIface]) ∧ Keeps (fun _ => False) w w' := by
 have HT := Lib.hid hT
 have HB1 := Lib.hid h1
 have HB2 := Lib.hid h2
 have HWI : Hid (wrap64 i = i) := by show _ = _; unfold wrap64; omega
 clear hT h1 h2
 go_enter Tryz.func19, Tryz.ntmps19
 go_wp2_with (first | (go_at_call 31; (try rw [HWI.out]); refine (formatInt_any i HB1.out HB2.out _ (HT.out.keepsF (by repeat (first | exact Keeps.refl _ _ | apply Keeps.alloc | apply Keeps.drew)))).mono ?_; rintro en w3 ⟨rfl, k3⟩; have K3 : Hid (Keeps (fun _ => False) w w3) := Keeps.trans (by repeat (first | exact Keeps.refl _ _ | apply Keeps.alloc | apply Keeps.drew)) k3 (fun _ _ h => h); clear k3) | (first | (go_at_call 30; go_in) | (go_at_call 32; go_in) | (go_at_call 33; go_in) | (go_at_call 35; go_in) | (go_at_call 36; go_in) | (go_at_call 40; go_in) | (go_at_call 42; go_in) | (go_at_call 72; go_in) | (go_at_call 73; go_in) | (go_at_call 204; go_in) | (go_at_call 205; go_in)))
 all_goals go_ret2
 all_goals first | exact ⟨rfl, K3.out⟩ | (refine ⟨?_, K3.out⟩; simp_all)
set_option maxRecDepth 1000000 in
set_option maxHeartbeats 8000000 in
theorem marshal_14_2 (ev : Value) (i n : Int) (h1 : -9223372036854775808 ≤ i) (h2 : i ≤ 9223372036854775807) (hn : IntKind.i32.wrap n = i) (w : World) (hT : Ten w) :
 Calls Tryz.prog 19 #[.agg #[.int .i64 10, .int .u64 n, .string ⟨#[]⟩, .slice none 0 0], ev, .int .i8 14, .int .i64 2] w fun en w' => en = .returned (.tuple #[.string (mk (Lib.itoa i)), .nilIface]) ∧ Keeps (fun _ => False) w w' := by
 have HT := Lib.hid hT
 have HB1 := Lib.hid h1
 have HB2 := Lib.hid h2
 have HWI : Hid (wrap64 i = i) := by show _ = _; unfold wrap64; omega
 clear hT h1 h2
 go_enter Tryz.func19, Tryz.ntmps19
 go_wp2_with (first | (go_at_call 31; (try rw [HWI.out]); refine (formatInt_any i HB1.out HB2.out _ (HT.out.keepsF (by repeat (first | exact Keeps.refl _ _ | apply Keeps.alloc | apply Keeps.drew)))).mono ?_; rintro en w3 ⟨rfl, k3⟩; have K3 : Hid (Keeps (fun _ => False) w w3) := Keeps.trans (by repeat (first | exact Keeps.refl _ _ | apply Keeps.alloc | apply Keeps.drew)) k3 (fun _ _ h => h); clear k3) | (first | (go_at_call 30; go_in) | (go_at_call 32; go_in) | (go_at_call 33; go_in) | (go_at_call 35; go_in) | (go_at_call 36; go_in) | (go_at_call 40; go_in) | (go_at_call 42; go_in) | (go_at_call 72; go_in) | (go_at_call 73; go_in) | (go_at_call 204; go_in) | (go_at_call 205; go_in)))
 all_goals go_ret2
 all_goals first | exact ⟨rfl, K3.out⟩ | (refine ⟨?_, K3.out⟩; simp_all)
set_option maxRecDepth 1000000 in
set_option maxHeartbeats 8000000 in
theorem marshal_14_1 (e : EV) (n : Int) (w : World) :
 Calls Tryz.prog 19 #[.agg #[.int .i64 10, .int .u64 n, .string ⟨#[]⟩, .slice none 0 0], .iface 67 (.agg #[.string e.name, .int .i32 e.num]), .int .i8 14, .int .i64 1] w fun en w' => en = .returned (.tuple #[.string e.name, .nilIface]) ∧ Keeps (fun _ => False) w w' := by
 go_enter Tryz.func19, Tryz.ntmps19
 go_wp2_with ((first | (go_at_call 30; go_in) | (go_at_call 32; go_in) | (go_at_call 33; go_in) | (go_at_call 35; go_in) | (go_at_call 36; go_in) | (go_at_call 40; go_in) | (go_at_call 42; go_in) | (go_at_call 72; go_in) | (go_at_call 73; go_in) | (go_at_call 204; go_in) | (go_at_call 205; go_in)))
 all_goals go_ret2
 all_goals first | exact ⟨rfl, (by repeat (first | exact Keeps.refl _ _ | apply Keeps.alloc | apply Keeps.drew))⟩ | (refine ⟨?_, (by repeat (first | exact Keeps.refl _ _ | apply Keeps.alloc | apply Keeps.drew))⟩; simp_all)
set_option maxRecDepth 1000000 in
set_option maxHeartbeats 8000000 in
theorem marshal_13 (ev : Value) (form : Int) (u : Nat) (hu : u < 18446744073709551616) (w : World) (hT : Ten w) :
 Calls Tryz.prog 19 #[.agg #[.int .i64 4, .int .u64 (u : Int), .string ⟨#[]⟩, .slice none 0 0], ev, .int .i8 13, .int .i64 form] w fun en w' => en = .returned (.tuple #[.string (mk (Lib.decDigits u)), .nilIface]) ∧ Keeps (fun _ => False) w w' := by
 have HT := Lib.hid hT
 have HU := Lib.hid hu
 clear hT hu
 go_enter Tryz.func19, Tryz.ntmps19
 go_wp2_with (first | (go_at_call 34; refine (formatUint_any u HU.out _ (HT.out.keepsF (by repeat (first | exact Keeps.refl _ _ | apply Keeps.alloc | apply Keeps.drew)))).mono ?_; rintro en w3 ⟨rfl, k3⟩; have K3 : Hid (Keeps (fun _ => False) w w3) := Keeps.trans (by repeat (first | exact Keeps.refl _ _ | apply Keeps.alloc | apply Keeps.drew)) k3 (fun _ _ h => h); clear k3) | (first | (go_at_call 30; go_in) | (go_at_call 32; go_in) | (go_at_call 33; go_in) | (go_at_call 35; go_in) | (go_at_call 36; go_in) | (go_at_call 40; go_in) | (go_at_call 42; go_in) | (go_at_call 72; go_in) | (go_at_call 73; go_in) | (go_at_call 204; go_in) | (go_at_call 205; go_in)))
 all_goals go_ret2
 all_goals first | exact ⟨rfl, K3.out⟩ | (refine ⟨?_, K3.out⟩; simp_all)
set_option maxRecDepth 1000000 in
set_option maxHeartbeats 8000000 in
theorem marshal_7 (ev : Value) (form : Int) (u : Nat) (hu : u < 18446744073709551616) (w : World) (hT : Ten w) :
 Calls Tryz.prog 19 #[.agg #[.int .i64 4, .int .u64 (u : Int), .string ⟨#[]⟩, .slice none 0 0], ev, .int .i8 7, .int .i64 form] w fun en w' => en = .returned (.tuple #[.string (mk (Lib.decDigits u)), .nilIface]) ∧ Keeps (fun _ => False) w w' := by
 have HT := Lib.hid hT
 have HU := Lib.hid hu
 clear hT hu
 go_enter Tryz.func19, Tryz.ntmps19
 go_wp2_with (first | (go_at_call 34; refine (formatUint_any u HU.out _ (HT.out.keepsF (by repeat (first | exact Keeps.refl _ _ | apply Keeps.alloc | apply Keeps.drew)))).mono ?_; rintro en w3 ⟨rfl, k3⟩; have K3 : Hid (Keeps (fun _ => False) w w3) := Keeps.trans (by repeat (first | exact Keeps.refl _ _ | apply Keeps.alloc | apply Keeps.drew)) k3 (fun _ _ h => h); clear k3) | (first | (go_at_call 30; go_in) | (go_at_call 32; go_in) | (go_at_call 33; go_in) | (go_at_call 35; go_in) | (go_at_call 36; go_in) | (go_at_call 40; go_in) | (go_at_call 42; go_in) | (go_at_call 72; go_in) | (go_at_call 73; go_in) | (go_at_call 204; go_in) | (go_at_call 205; go_in)))
 all_goals go_ret2
 all_goals first | exact ⟨rfl, K3.out⟩ | (refine ⟨?_, K3.out⟩; simp_all)
set_option maxRecDepth 1000000 in
set_option maxHeartbeats 8000000 in
theorem marshal_4 (ev : Value) (form : Int) (u : Nat) (hu : u < 18446744073709551616) (w : World) (hT : Ten w) :
 Calls Tryz.prog 19 #[.agg #[.int .i64 5, .int .u64 (u : Int), .string ⟨#[]⟩, .slice none 0 0], ev, .int .i8 4, .int .i64 form] w fun en w' => en = .returned (.tuple #[.string (mk (Lib.decDigits u)), .nilIface]) ∧ Keeps (fun _ => False) w w' := by
 have HT := Lib.hid hT
 have HU := Lib.hid hu
 clear hT hu
 go_enter Tryz.func19, Tryz.ntmps19
 go_wp2_with (first | (go_at_call 34; refine (formatUint_any u HU.out _ (HT.out.keepsF (by repeat (first | exact Keeps.refl _ _ | apply Keeps.alloc | apply Keeps.drew)))).mono ?_; rintro en w3 ⟨rfl, k3⟩; have K3 : Hid (Keeps (fun _ => False) w w3) := Keeps.trans (by repeat (first | exact Keeps.refl _ _ | apply Keeps.alloc | apply Keeps.drew)) k3 (fun _ _ h => h); clear k3) | (first | (go_at_call 30; go_in) | (go_at_call 32; go_in) | (go_at_call 33; go_in) | (go_at_call 35; go_in) | (go_at_call 36; go_in) | (go_at_call 40; go_in) | (go_at_call 42; go_in) | (go_at_call 72; go_in) | (go_at_call 73; go_in) | (go_at_call 204; go_in) | (go_at_call 205; go_in)))
 all_goals go_ret2
 all_goals first | exact ⟨rfl, K3.out⟩ | (refine ⟨?_, K3.out⟩; simp_all)
set_option maxRecDepth 1000000 in
set_option maxHeartbeats 8000000 in
theorem marshal_6 (ev : Value) (form : Int) (u : Nat) (hu : u < 18446744073709551616) (w : World) (hT : Ten w) :
 Calls Tryz.prog 19 #[.agg #[.int .i64 5, .int .u64 (u : Int), .string ⟨#[]⟩, .slice none 0 0], ev, .int .i8 6, .int .i64 form] w fun en w' => en = .returned (.tuple #[.string (mk (Lib.decDigits u)), .nilIface]) ∧ Keeps (fun _ => False) w w' := by
 have HT := Lib.hid hT
 have HU := Lib.hid hu
 clear hT hu
 go_enter Tryz.func19, Tryz.ntmps19
 go_wp2_with (first | (go_at_call 34; refine (formatUint_any u HU.out _ (HT.out.keepsF (by repeat (first | exact Keeps.refl _ _ | apply Keeps.alloc | apply Keeps.drew)))).mono ?_; rintro en w3 ⟨rfl, k3⟩; have K3 : Hid (Keeps (fun _ => False) w w3) := Keeps.trans (by repeat (first | exact Keeps.refl _ _ | apply Keeps.alloc | apply Keeps.drew)) k3 (fun _ _ h => h); clear k3) | (first | (go_at_call 30; go_in) | (go_at_call 32; go_in) | (go_at_call 33; go_in) | (go_at_call 35; go_in) | (go_at_call 36; go_in) | (go_at_call 40; go_in) | (go_at_call 42; go_in) | (go_at_call 72; go_in) | (go_at_call 73; go_in) | (go_at_call 204; go_in) | (go_at_call 205; go_in)))
 all_goals go_ret2
 all_goals first | exact ⟨rfl, K3.out⟩ | (refine ⟨?_, K3.out⟩; simp_all)
set_option maxRecDepth 1000000 in
set_option maxHeartbeats 8000000 in
theorem marshal_9 (ev : Value) (form n : Int) (s : ByteArray) (w : World) :
 Calls Tryz.prog 19 #[.agg #[.int .i64 8, .int .u64 n, .string s, .slice none 0 0], ev, .int .i8 9, .int .i64 form] w fun en w' => en = .returned (.tuple #[.string s, .nilIface]) ∧ Keeps (fun _ => False) w w' := by
 go_enter Tryz.func19, Tryz.ntmps19
 go_wp2_with ((first | (go_at_call 30; go_in) | (go_at_call 32; go_in) | (go_at_call 33; go_in) | (go_at_call 35; go_in) | (go_at_call 36; go_in) | (go_at_call 40; go_in) | (go_at_call 42; go_in) | (go_at_call 72; go_in) | (go_at_call 73; go_in) | (go_at_call 204; go_in) | (go_at_call 205; go_in)))
 all_goals go_ret2
 all_goals first | exact ⟨rfl, (by repeat (first | exact Keeps.refl _ _ | apply Keeps.alloc | apply Keeps.drew))⟩ | (refine ⟨?_, (by repeat (first | exact Keeps.refl _ _ | apply Keeps.alloc | apply Keeps.drew))⟩; simp_all)
set_option maxRecDepth 1000000 in
set_option maxHeartbeats 8000000 in
theorem marshal_12 (ev V : Value) (form n : Int) (l : List UInt8) (hl : l.length ≤ 100000) (w : World) (hb : BytesAt w V l) :
 Calls Tryz.prog 19 #[.agg #[.int .i64 9, .int .u64 n, .string ⟨#[]⟩, V], ev, .int .i8 12, .int .i64 form] w fun en w' => en = .returned (.tuple #[.string (mk (encB l)), .nilIface]) ∧ Keeps (fun _ => False) w w' := by
 have HB := Lib.hid hb
 have HL := Lib.hid hl
 clear hb hl
 go_enter Tryz.func19, Tryz.ntmps19
 go_wp2_with (first | (go_at_call 41; refine (marshalBytes_any _ l _ (HB.out.keeps (S := fun _ => False) (by repeat (first | exact Keeps.refl _ _ | apply Keeps.alloc | apply Keeps.drew)) (fun _ _ => id)) HL.out).mono ?_; rintro en w3 ⟨rfl, k3⟩; have K3 : Hid (Keeps (fun _ => False) w w3) := Keeps.trans (by repeat (first | exact Keeps.refl _ _ | apply Keeps.alloc | apply Keeps.drew)) k3 (fun _ _ h => h); clear k3) | (first | (go_at_call 30; go_in) | (go_at_call 32; go_in) | (go_at_call 33; go_in) | (go_at_call 35; go_in) | (go_at_call 36; go_in) | (go_at_call 40; go_in) | (go_at_call 42; go_in) | (go_at_call 72; go_in) | (go_at_call 73; go_in) | (go_at_call 204; go_in) | (go_at_call 205; go_in)))
 all_goals go_ret2
 all_goals first | exact ⟨rfl, K3.out⟩ | (refine ⟨?_, K3.out⟩; simp_all)
end Go.Proofs.YtonegoemmologaaGreatDoor
