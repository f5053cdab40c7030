/-
  atof64 and ParseFloat at a text of a number: the nearest rung, or that there is none.
-/
import Derived.Test.YtonegoemmologaaGreatDoorM30
import Derived.Test.YtonegoemmologaaGreatDoorM33
import Derived.Test.YtonegoemmologaaGreatDoorM37
import Derived.Deep.DeepCutAuto
set_option linter.unusedVariables false
set_option linter.unusedSimpArgs false
namespace Go.Proofs.YtonegoemmologaaGreatDoor
open Go.RowKit
structure TA64 (PT : Nat → Nat × Nat) (b off : Nat) (w : World) : Prop where
 te : TE64 b off w
 p10 : P10At PT w
 size : 10 < w.heap.size
 opt : w.cell? ⟨2, 0, none⟩ = some (.bool true)
theorem TA64.keeps {PT : Nat → Nat × Nat} {b off : Nat} {w w' : World} (h : TA64 PT b off w) (hk : Keeps (fun _ => False) w w') : TA64 PT b off w' := ⟨h.te.keeps hk, h.p10.keeps hk, Nat.lt_of_lt_of_le h.size hk.size, hk.cell h.opt id⟩
set_option maxRecDepth 1000000 in
set_option maxHeartbeats 4000000 in
theorem at64_zero_false (PT : Nat → Nat × Nat) (b off : Nat) (s : ByteArray) (v n : Nat) (p : Int) (hsp : ∀ w, Calls Tryz.prog 153 #[.string s] w fun en w' => en = .returned (.tuple #[.float .f64 0, .int .i64 0, .bool false]) ∧ w' = w)
 (hrd : ∀ w, Calls Tryz.prog 154 #[.string s] w fun en w' => en = .returned (.tuple #[.int .u64 0, .int .i64 p, .bool false, .bool false, .bool false, .int .i64 (n : Int), .bool true]) ∧ w' = w)  (w : World) (hT : TA64 PT b off w) :
 Calls Tryz.prog 123 #[.string s] w fun en w' => en = .returned (.tuple #[.float .f64 0, .int .i64 (n : Int), .nilIface]) ∧ Keeps (fun _ => False) w w' := by
 have HSP := Lib.hid hsp
 have HRD := Lib.hid hrd
 have g1 := hT.opt
 have HT := Lib.hid hT
 have hb2 := Lib.hid (bool2_any false)
 have hfr : ∀ w', (callFunc 163 #[.int .u64 0]).run Tryz.prog w' = .ok (.value (.float .f64 0)) w' := f64from_run 0
 have hor : bits .or .u64 0 0 = 0 := by decide
 clear hsp hrd hT
 go_enter Tryz.func123, Tryz.ntmps123
 go_wp2_with (first
  | (go_at_call 153; refine (HSP.out _).mono ?_; rintro en w2 ⟨rfl, hww⟩; obtain rfl := hww.symm)
  | (go_at_call 154; refine (HRD.out _).mono ?_; rintro en w2 ⟨rfl, hww⟩; obtain rfl := hww.symm)
  | (go_at_call 162; with_reducible refine (hb2.out _).mono ?_; rintro en w2 ⟨rfl, hww⟩; obtain rfl := hww.symm))
 all_goals go_ret3
 all_goals exact ⟨rfl, Keeps.refl _ _⟩
set_option maxRecDepth 1000000 in
set_option maxHeartbeats 4000000 in
theorem at64_over_false (PT : Nat → Nat × Nat) (b off : Nat) (s : ByteArray) (v n : Nat) (p : Int) (hsp : ∀ w, Calls Tryz.prog 153 #[.string s] w fun en w' => en = .returned (.tuple #[.float .f64 0, .int .i64 0, .bool false]) ∧ w' = w)
 (hrd : ∀ w, Calls Tryz.prog 154 #[.string s] w fun en w' => en = .returned (.tuple #[.int .u64 (v : Int), .int .i64 p, .bool false, .bool false, .bool false, .int .i64 (n : Int), .bool true]) ∧ w' = w) (hv : 0 < v) (hp : 310 < p) (w : World) (hT : TA64 PT b off w) :
 Calls Tryz.prog 123 #[.string s] w fun en w' => en = .returned (.tuple #[.float .f64 9218868437227405312, .int .i64 (n : Int), .iface 156 (.int .i64 1)]) ∧ Keeps (fun _ => False) w w' := by
 have HSP := Lib.hid hsp
 have HRD := Lib.hid hrd
 have g1 := hT.opt
 have HT := Lib.hid hT
 have hb2 := Lib.hid (bool2_any false)
 have hor : bits .or .u64 0 9218868437227405312 = 9218868437227405312 := by decide
 have hfr : ∀ w', (callFunc 163 #[.int .u64 9218868437227405312]).run Tryz.prog w' = .ok (.value (.float .f64 9218868437227405312)) w' := f64from_run 9218868437227405312
 have hv0 : ((v : Int) == 0) = false := by simp; omega
 have hv1 : ¬ v = 0 := by omega
 clear hsp hrd hT
 go_enter Tryz.func123, Tryz.ntmps123
 go_wp2_with (first
  | (go_at_call 153; refine (HSP.out _).mono ?_; rintro en w2 ⟨rfl, hww⟩; obtain rfl := hww.symm)
  | (go_at_call 154; refine (HRD.out _).mono ?_; rintro en w2 ⟨rfl, hww⟩; obtain rfl := hww.symm)
  | (go_at_call 162; with_reducible refine (hb2.out _).mono ?_; rintro en w2 ⟨rfl, hww⟩; obtain rfl := hww.symm))
 all_goals go_ret3
 all_goals exact ⟨rfl, Keeps.refl _ _⟩
set_option maxRecDepth 1000000 in
set_option maxHeartbeats 4000000 in
theorem at64_tiny_false (PT : Nat → Nat × Nat) (b off : Nat) (s : ByteArray) (v n : Nat) (p : Int) (hsp : ∀ w, Calls Tryz.prog 153 #[.string s] w fun en w' => en = .returned (.tuple #[.float .f64 0, .int .i64 0, .bool false]) ∧ w' = w)
 (hrd : ∀ w, Calls Tryz.prog 154 #[.string s] w fun en w' => en = .returned (.tuple #[.int .u64 (v : Int), .int .i64 p, .bool false, .bool false, .bool false, .int .i64 (n : Int), .bool true]) ∧ w' = w) (hv : 0 < v) (hp : p < -345) (w : World) (hT : TA64 PT b off w) :
 Calls Tryz.prog 123 #[.string s] w fun en w' => en = .returned (.tuple #[.float .f64 0, .int .i64 (n : Int), .nilIface]) ∧ Keeps (fun _ => False) w w' := by
 have HSP := Lib.hid hsp
 have HRD := Lib.hid hrd
 have g1 := hT.opt
 have HT := Lib.hid hT
 have hb2 := Lib.hid (bool2_any false)
 have hfr : ∀ w', (callFunc 163 #[.int .u64 0]).run Tryz.prog w' = .ok (.value (.float .f64 0)) w' := f64from_run 0
 have hor : bits .or .u64 0 0 = 0 := by decide
 have hv0 : ((v : Int) == 0) = false := by simp; omega
 have hv1 : ¬ v = 0 := by omega
 have n1 : ¬ 310 < p := by omega
 clear hsp hrd hT
 go_enter Tryz.func123, Tryz.ntmps123
 go_wp2_with (first
  | (go_at_call 153; refine (HSP.out _).mono ?_; rintro en w2 ⟨rfl, hww⟩; obtain rfl := hww.symm)
  | (go_at_call 154; refine (HRD.out _).mono ?_; rintro en w2 ⟨rfl, hww⟩; obtain rfl := hww.symm)
  | (go_at_call 162; with_reducible refine (hb2.out _).mono ?_; rintro en w2 ⟨rfl, hww⟩; obtain rfl := hww.symm))
 all_goals go_ret3
 all_goals exact ⟨rfl, Keeps.refl _ _⟩
set_option maxRecDepth 1000000 in
set_option maxHeartbeats 4000000 in
theorem at64_exact_false (PT : Nat → Nat × Nat) (b off : Nat) (s : ByteArray) (v n : Nat) (p : Int) (hsp : ∀ w, Calls Tryz.prog 153 #[.string s] w fun en w' => en = .returned (.tuple #[.float .f64 0, .int .i64 0, .bool false]) ∧ w' = w)
 (hrd : ∀ w, Calls Tryz.prog 154 #[.string s] w fun en w' => en = .returned (.tuple #[.int .u64 (v : Int), .int .i64 p, .bool false, .bool false, .bool false, .int .i64 (n : Int), .bool true]) ∧ w' = w) (hv : 0 < v) (hp1 : -345 ≤ p) (hp2 : p ≤ 310) (f : Nat) (hex : ∀ w, TA64 PT b off w → Calls Tryz.prog 164 #[.int .u64 (v : Int), .int .i64 p, .bool false] w fun en w' => en = .returned (.tuple #[.float .f64 f, .bool true]) ∧ Keeps (fun _ => False) w w') (w : World) (hT : TA64 PT b off w) :
 Calls Tryz.prog 123 #[.string s] w fun en w' => en = .returned (.tuple #[.float .f64 f, .int .i64 (n : Int), .nilIface]) ∧ Keeps (fun _ => False) w w' := by
 have HSP := Lib.hid hsp
 have HRD := Lib.hid hrd
 have g1 := hT.opt
 have HT := Lib.hid hT
 have hb2 := Lib.hid (bool2_any false)
 have hv0 : ((v : Int) == 0) = false := by simp; omega
 have hv1 : ¬ v = 0 := by omega
 have n1 : ¬ 310 < p := by omega
 have n2 : ¬ p < -345 := by omega
 have HEX := Lib.hid hex
 clear hex
 clear hsp hrd hT
 go_enter Tryz.func123, Tryz.ntmps123
 go_wp2_with (first
  | (go_at_call 153; refine (HSP.out _).mono ?_; rintro en w2 ⟨rfl, hww⟩; obtain rfl := hww.symm)
  | (go_at_call 154; refine (HRD.out _).mono ?_; rintro en w2 ⟨rfl, hww⟩; obtain rfl := hww.symm)
  | (go_at_call 162; with_reducible refine (hb2.out _).mono ?_; rintro en w2 ⟨rfl, hww⟩; obtain rfl := hww.symm)
  | (go_at_call 164; refine (HEX.out w HT.out).mono ?_; rintro en w3 ⟨rfl, k3⟩; have K3 := Lib.hid k3; clear k3))
 all_goals go_ret3
 all_goals exact ⟨rfl, K3.out⟩
set_option maxRecDepth 1000000 in
set_option maxHeartbeats 4000000 in
theorem at64_parse_false (PT : Nat → Nat × Nat) (b off : Nat) (s : ByteArray) (v n : Nat) (p : Int) (hsp : ∀ w, Calls Tryz.prog 153 #[.string s] w fun en w' => en = .returned (.tuple #[.float .f64 0, .int .i64 0, .bool false]) ∧ w' = w)
 (hrd : ∀ w, Calls Tryz.prog 154 #[.string s] w fun en w' => en = .returned (.tuple #[.int .u64 (v : Int), .int .i64 p, .bool false, .bool false, .bool false, .int .i64 (n : Int), .bool true]) ∧ w' = w) (hv : 0 < v) (hp1 : -345 ≤ p) (hp2 : p ≤ 310) (r1 r2 : Value) (hex : ∀ w, TA64 PT b off w → Calls Tryz.prog 164 #[.int .u64 (v : Int), .int .i64 p, .bool false] w fun en w' => (∃ f : Nat, en = .returned (.tuple #[.float .f64 f, .bool false])) ∧ Keeps (fun _ => False) w w')
 (hpr : ∀ w, TA64 PT b off w → Calls Tryz.prog 165 #[.int .u64 (v : Int), .int .i64 p, .int .u64 0] w fun en w' => en = .returned (.tuple #[r1, r2]) ∧ Keeps (fun _ => False) w w') (w : World) (hT : TA64 PT b off w) :
 Calls Tryz.prog 123 #[.string s] w fun en w' => en = .returned (.tuple #[r1, .int .i64 (n : Int), r2]) ∧ Keeps (fun _ => False) w w' := by
 have HSP := Lib.hid hsp
 have HRD := Lib.hid hrd
 have g1 := hT.opt
 have HT := Lib.hid hT
 have hb2 := Lib.hid (bool2_any false)
 have hv0 : ((v : Int) == 0) = false := by simp; omega
 have hv1 : ¬ v = 0 := by omega
 have n1 : ¬ 310 < p := by omega
 have n2 : ¬ p < -345 := by omega
 have HEX := Lib.hid hex
 have HPR := Lib.hid hpr
 clear hex hpr
 clear hsp hrd hT
 go_enter Tryz.func123, Tryz.ntmps123
 go_wp2_with (first
  | (go_at_call 153; refine (HSP.out _).mono ?_; rintro en w2 ⟨rfl, hww⟩; obtain rfl := hww.symm)
  | (go_at_call 154; refine (HRD.out _).mono ?_; rintro en w2 ⟨rfl, hww⟩; obtain rfl := hww.symm)
  | (go_at_call 162; with_reducible refine (hb2.out _).mono ?_; rintro en w2 ⟨rfl, hww⟩; obtain rfl := hww.symm)
  | (go_at_call 164; refine (HEX.out w HT.out).mono ?_; rintro en w3 ⟨⟨f0, rfl⟩, k3⟩; have K3 := Lib.hid k3; clear k3)
  | (go_at_call 165; refine (HPR.out _ (HT.out.keeps K3.out)).mono ?_; rintro en w4 ⟨rfl, k4⟩; have K4 : Hid (Keeps (fun _ => False) w w4) := K3.out.trans k4 (fun _ _ h => h); clear k4))
 all_goals go_ret3
 all_goals exact ⟨rfl, K4.out⟩
set_option maxRecDepth 1000000 in
set_option maxHeartbeats 4000000 in
theorem at64_zero_true (PT : Nat → Nat × Nat) (b off : Nat) (s : ByteArray) (v n : Nat) (p : Int) (hsp : ∀ w, Calls Tryz.prog 153 #[.string s] w fun en w' => en = .returned (.tuple #[.float .f64 0, .int .i64 0, .bool false]) ∧ w' = w)
 (hrd : ∀ w, Calls Tryz.prog 154 #[.string s] w fun en w' => en = .returned (.tuple #[.int .u64 0, .int .i64 p, .bool true, .bool false, .bool false, .int .i64 (n : Int), .bool true]) ∧ w' = w)  (w : World) (hT : TA64 PT b off w) :
 Calls Tryz.prog 123 #[.string s] w fun en w' => en = .returned (.tuple #[.float .f64 9223372036854775808, .int .i64 (n : Int), .nilIface]) ∧ Keeps (fun _ => False) w w' := by
 have HSP := Lib.hid hsp
 have HRD := Lib.hid hrd
 have g1 := hT.opt
 have HT := Lib.hid hT
 have hb2 := Lib.hid (bool2_any true)
 have hfr : ∀ w', (callFunc 163 #[.int .u64 9223372036854775808]).run Tryz.prog w' = .ok (.value (.float .f64 9223372036854775808)) w' := f64from_run 9223372036854775808
 have hor : bits .or .u64 9223372036854775808 0 = 9223372036854775808 := by decide
 clear hsp hrd hT
 go_enter Tryz.func123, Tryz.ntmps123
 go_wp2_with (first
  | (go_at_call 153; refine (HSP.out _).mono ?_; rintro en w2 ⟨rfl, hww⟩; obtain rfl := hww.symm)
  | (go_at_call 154; refine (HRD.out _).mono ?_; rintro en w2 ⟨rfl, hww⟩; obtain rfl := hww.symm)
  | (go_at_call 162; with_reducible refine (hb2.out _).mono ?_; rintro en w2 ⟨rfl, hww⟩; obtain rfl := hww.symm))
 all_goals go_ret3
 all_goals exact ⟨rfl, Keeps.refl _ _⟩
set_option maxRecDepth 1000000 in
set_option maxHeartbeats 4000000 in
theorem at64_over_true (PT : Nat → Nat × Nat) (b off : Nat) (s : ByteArray) (v n : Nat) (p : Int) (hsp : ∀ w, Calls Tryz.prog 153 #[.string s] w fun en w' => en = .returned (.tuple #[.float .f64 0, .int .i64 0, .bool false]) ∧ w' = w)
 (hrd : ∀ w, Calls Tryz.prog 154 #[.string s] w fun en w' => en = .returned (.tuple #[.int .u64 (v : Int), .int .i64 p, .bool true, .bool false, .bool false, .int .i64 (n : Int), .bool true]) ∧ w' = w) (hv : 0 < v) (hp : 310 < p) (w : World) (hT : TA64 PT b off w) :
 Calls Tryz.prog 123 #[.string s] w fun en w' => en = .returned (.tuple #[.float .f64 18442240474082181120, .int .i64 (n : Int), .iface 156 (.int .i64 1)]) ∧ Keeps (fun _ => False) w w' := by
 have HSP := Lib.hid hsp
 have HRD := Lib.hid hrd
 have g1 := hT.opt
 have HT := Lib.hid hT
 have hb2 := Lib.hid (bool2_any true)
 have hor : bits .or .u64 9223372036854775808 9218868437227405312 = 18442240474082181120 := by decide
 have hfr : ∀ w', (callFunc 163 #[.int .u64 18442240474082181120]).run Tryz.prog w' = .ok (.value (.float .f64 18442240474082181120)) w' := f64from_run 18442240474082181120
 have hv0 : ((v : Int) == 0) = false := by simp; omega
 have hv1 : ¬ v = 0 := by omega
 clear hsp hrd hT
 go_enter Tryz.func123, Tryz.ntmps123
 go_wp2_with (first
  | (go_at_call 153; refine (HSP.out _).mono ?_; rintro en w2 ⟨rfl, hww⟩; obtain rfl := hww.symm)
  | (go_at_call 154; refine (HRD.out _).mono ?_; rintro en w2 ⟨rfl, hww⟩; obtain rfl := hww.symm)
  | (go_at_call 162; with_reducible refine (hb2.out _).mono ?_; rintro en w2 ⟨rfl, hww⟩; obtain rfl := hww.symm))
 all_goals go_ret3
 all_goals exact ⟨rfl, Keeps.refl _ _⟩
set_option maxRecDepth 1000000 in
set_option maxHeartbeats 4000000 in
theorem at64_tiny_true (PT : Nat → Nat × Nat) (b off : Nat) (s : ByteArray) (v n : Nat) (p : Int) (hsp : ∀ w, Calls Tryz.prog 153 #[.string s] w fun en w' => en = .returned (.tuple #[.float .f64 0, .int .i64 0, .bool false]) ∧ w' = w)
 (hrd : ∀ w, Calls Tryz.prog 154 #[.string s] w fun en w' => en = .returned (.tuple #[.int .u64 (v : Int), .int .i64 p, .bool true, .bool false, .bool false, .int .i64 (n : Int), .bool true]) ∧ w' = w) (hv : 0 < v) (hp : p < -345) (w : World) (hT : TA64 PT b off w) :
 Calls Tryz.prog 123 #[.string s] w fun en w' => en = .returned (.tuple #[.float .f64 9223372036854775808, .int .i64 (n : Int), .nilIface]) ∧ Keeps (fun _ => False) w w' := by
 have HSP := Lib.hid hsp
 have HRD := Lib.hid hrd
 have g1 := hT.opt
 have HT := Lib.hid hT
 have hb2 := Lib.hid (bool2_any true)
 have hfr : ∀ w', (callFunc 163 #[.int .u64 9223372036854775808]).run Tryz.prog w' = .ok (.value (.float .f64 9223372036854775808)) w' := f64from_run 9223372036854775808
 have hor : bits .or .u64 9223372036854775808 0 = 9223372036854775808 := by decide
 have hv0 : ((v : Int) == 0) = false := by simp; omega
 have hv1 : ¬ v = 0 := by omega
 have n1 : ¬ 310 < p := by omega
 clear hsp hrd hT
 go_enter Tryz.func123, Tryz.ntmps123
 go_wp2_with (first
  | (go_at_call 153; refine (HSP.out _).mono ?_; rintro en w2 ⟨rfl, hww⟩; obtain rfl := hww.symm)
  | (go_at_call 154; refine (HRD.out _).mono ?_; rintro en w2 ⟨rfl, hww⟩; obtain rfl := hww.symm)
  | (go_at_call 162; with_reducible refine (hb2.out _).mono ?_; rintro en w2 ⟨rfl, hww⟩; obtain rfl := hww.symm))
 all_goals go_ret3
 all_goals exact ⟨rfl, Keeps.refl _ _⟩
set_option maxRecDepth 1000000 in
set_option maxHeartbeats 4000000 in
theorem at64_exact_true (PT : Nat → Nat × Nat) (b off : Nat) (s : ByteArray) (v n : Nat) (p : Int) (hsp : ∀ w, Calls Tryz.prog 153 #[.string s] w fun en w' => en = .returned (.tuple #[.float .f64 0, .int .i64 0, .bool false]) ∧ w' = w)
 (hrd : ∀ w, Calls Tryz.prog 154 #[.string s] w fun en w' => en = .returned (.tuple #[.int .u64 (v : Int), .int .i64 p, .bool true, .bool false, .bool false, .int .i64 (n : Int), .bool true]) ∧ w' = w) (hv : 0 < v) (hp1 : -345 ≤ p) (hp2 : p ≤ 310) (f : Nat) (hex : ∀ w, TA64 PT b off w → Calls Tryz.prog 164 #[.int .u64 (v : Int), .int .i64 p, .bool true] w fun en w' => en = .returned (.tuple #[.float .f64 f, .bool true]) ∧ Keeps (fun _ => False) w w') (w : World) (hT : TA64 PT b off w) :
 Calls Tryz.prog 123 #[.string s] w fun en w' => en = .returned (.tuple #[.float .f64 f, .int .i64 (n : Int), .nilIface]) ∧ Keeps (fun _ => False) w w' := by
 have HSP := Lib.hid hsp
 have HRD := Lib.hid hrd
 have g1 := hT.opt
 have HT := Lib.hid hT
 have hb2 := Lib.hid (bool2_any true)
 have hv0 : ((v : Int) == 0) = false := by simp; omega
 have hv1 : ¬ v = 0 := by omega
 have n1 : ¬ 310 < p := by omega
 have n2 : ¬ p < -345 := by omega
 have HEX := Lib.hid hex
 clear hex
 clear hsp hrd hT
 go_enter Tryz.func123, Tryz.ntmps123
 go_wp2_with (first
  | (go_at_call 153; refine (HSP.out _).mono ?_; rintro en w2 ⟨rfl, hww⟩; obtain rfl := hww.symm)
  | (go_at_call 154; refine (HRD.out _).mono ?_; rintro en w2 ⟨rfl, hww⟩; obtain rfl := hww.symm)
  | (go_at_call 162; with_reducible refine (hb2.out _).mono ?_; rintro en w2 ⟨rfl, hww⟩; obtain rfl := hww.symm)
  | (go_at_call 164; refine (HEX.out w HT.out).mono ?_; rintro en w3 ⟨rfl, k3⟩; have K3 := Lib.hid k3; clear k3))
 all_goals go_ret3
 all_goals exact ⟨rfl, K3.out⟩
set_option maxRecDepth 1000000 in
set_option maxHeartbeats 4000000 in
theorem at64_parse_true (PT : Nat → Nat × Nat) (b off : Nat) (s : ByteArray) (v n : Nat) (p : Int) (hsp : ∀ w, Calls Tryz.prog 153 #[.string s] w fun en w' => en = .returned (.tuple #[.float .f64 0, .int .i64 0, .bool false]) ∧ w' = w)
 (hrd : ∀ w, Calls Tryz.prog 154 #[.string s] w fun en w' => en = .returned (.tuple #[.int .u64 (v : Int), .int .i64 p, .bool true, .bool false, .bool false, .int .i64 (n : Int), .bool true]) ∧ w' = w) (hv : 0 < v) (hp1 : -345 ≤ p) (hp2 : p ≤ 310) (r1 r2 : Value) (hex : ∀ w, TA64 PT b off w → Calls Tryz.prog 164 #[.int .u64 (v : Int), .int .i64 p, .bool true] w fun en w' => (∃ f : Nat, en = .returned (.tuple #[.float .f64 f, .bool false])) ∧ Keeps (fun _ => False) w w')
 (hpr : ∀ w, TA64 PT b off w → Calls Tryz.prog 165 #[.int .u64 (v : Int), .int .i64 p, .int .u64 9223372036854775808] w fun en w' => en = .returned (.tuple #[r1, r2]) ∧ Keeps (fun _ => False) w w') (w : World) (hT : TA64 PT b off w) :
 Calls Tryz.prog 123 #[.string s] w fun en w' => en = .returned (.tuple #[r1, .int .i64 (n : Int), r2]) ∧ Keeps (fun _ => False) w w' := by
 have HSP := Lib.hid hsp
 have HRD := Lib.hid hrd
 have g1 := hT.opt
 have HT := Lib.hid hT
 have hb2 := Lib.hid (bool2_any true)
 have hv0 : ((v : Int) == 0) = false := by simp; omega
 have hv1 : ¬ v = 0 := by omega
 have n1 : ¬ 310 < p := by omega
 have n2 : ¬ p < -345 := by omega
 have HEX := Lib.hid hex
 have HPR := Lib.hid hpr
 clear hex hpr
 clear hsp hrd hT
 go_enter Tryz.func123, Tryz.ntmps123
 go_wp2_with (first
  | (go_at_call 153; refine (HSP.out _).mono ?_; rintro en w2 ⟨rfl, hww⟩; obtain rfl := hww.symm)
  | (go_at_call 154; refine (HRD.out _).mono ?_; rintro en w2 ⟨rfl, hww⟩; obtain rfl := hww.symm)
  | (go_at_call 162; with_reducible refine (hb2.out _).mono ?_; rintro en w2 ⟨rfl, hww⟩; obtain rfl := hww.symm)
  | (go_at_call 164; refine (HEX.out w HT.out).mono ?_; rintro en w3 ⟨⟨f0, rfl⟩, k3⟩; have K3 := Lib.hid k3; clear k3)
  | (go_at_call 165; refine (HPR.out _ (HT.out.keeps K3.out)).mono ?_; rintro en w4 ⟨rfl, k4⟩; have K4 : Hid (Keeps (fun _ => False) w w4) := K3.out.trans k4 (fun _ _ h => h); clear k4))
 all_goals go_ret3
 all_goals exact ⟨rfl, K4.out⟩
def AtV (neg : Bool) (n : Nat) : Option Nat → Value
 | some k => .tuple #[.float .f64 (sgn64 neg + k), .int .i64 (n : Int), .nilIface]
 | none => .tuple #[.float .f64 (sgn64 neg + 9218868437227405312), .int .i64 (n : Int), .iface 156 (.int .i64 1)]
set_option exponentiation.threshold 3000 in
theorem atof64_num_false (PT : Nat → Nat × Nat) (hok : PTOk PT) (I F X : List UInt8) (e : Int) (hI0 : I ≠ []) (hI : ∀ c ∈ I, Fl.isDig c) (hF : ∀ c ∈ F, Fl.isDig c) (hX : Fl.ExpText X e) (hb : Fl.nval (I ++ F) < 10 ^ 19) (hlen : I.length + F.length ≤ 1000000) :
 ∃ r, Fl.Answers 52 1074 9218868437227405312 (Fl.nval (I ++ F)) (e - F.length) r ∧ ∀ (b off : Nat) (w : World), TA64 PT b off w → Calls Tryz.prog 123 #[.string (mk (sgT false ++ (Fl.body I F ++ X)))] w fun en w' => en = .returned (AtV false (sgT false ++ (Fl.body I F ++ X)).length r) ∧ Keeps (fun _ => False) w w' := by
 have hrd := readFloat_num false I F X e hI0 hI hF hX hb hlen
 have hsp : ∀ w, Calls Tryz.prog 153 #[.string (mk (sgT false ++ (Fl.body I F ++ X)))] w fun en w' => en = .returned (.tuple #[.float .f64 0, .int .i64 0, .bool false]) ∧ w' = w := by
  intro w
  cases I with
  | nil => exact absurd rfl hI0
  | cons c8 I' =>
   have hc := hI c8 List.mem_cons_self
   have hXl : X.length ≤ 6 := by cases hX <;> simp <;> omega
   exact special_pos _ c8.toNat (by rw [mk_size]; simp [sgT, Fl.body]) hc.1 hc.2 (fun w' => run_at (sgT false ++ (Fl.body (c8 :: I') F ++ X)) 0 (by simp [sgT, Fl.body]) w') w
 obtain ⟨n, hn⟩ : ∃ n, (sgT false ++ (Fl.body I F ++ X)).length = n := ⟨_, rfl⟩
 obtain ⟨s, hs⟩ : ∃ s, mk (sgT false ++ (Fl.body I F ++ X)) = s := ⟨_, rfl⟩
 rw [hn] at hrd ⊢
 rw [hs] at hrd hsp ⊢
 unfold ReadV at hrd
 obtain ⟨v, hv⟩ : ∃ v, Fl.nval (I ++ F) = v := ⟨_, rfl⟩
 obtain ⟨p, hp⟩ : ∃ p : Int, e - F.length = p := ⟨_, rfl⟩
 rw [hv] at hrd hb ⊢
 rw [hp] at hrd ⊢
 have hv64 : v < 18446744073709551616 := Nat.lt_trans hb (by decide)
 rcases Nat.eq_zero_or_pos v with h0 | h0
 · rw [h0] at hrd ⊢
   refine ⟨some 0, ⟨by decide, Fl.near_small 52 _ _ (by decide) ?_⟩, fun b off w hT => at64_zero_false PT b off s 0 n _ hsp hrd w hT⟩
   have := Fl.decD_pos p
   simpa [Fl.decN] using this
 · simp only [if_neg (show ¬ v = 0 by omega)] at hrd
   rcases Int.lt_or_le 310 p with h1 | h1
   · exact ⟨none, Fl.dec_over64 v p h0 h1, fun b off w hT => at64_over_false PT b off s v n p hsp hrd h0 h1 w hT⟩
   rcases Int.lt_or_le p (-345) with h2 | h2
   · exact ⟨some 0, ⟨by decide, Fl.dec_small64 v p (by simpa using hv64) h2⟩, fun b off w hT => at64_tiny_false PT b off s v n p hsp hrd h0 h2 w hT⟩
   obtain ⟨r, hr, hex⟩ := exact64_ex false v p h0 hv64
   cases r with
   | some k => exact ⟨some k, hr k rfl, fun b off w hT => at64_exact_false PT b off s v n p hsp hrd h0 h2 h1 _ (fun w hT => (hex _ _ w hT.te).mono (by rintro en w' ⟨hk, rfl⟩; exact ⟨rfl, hk⟩)) w hT⟩
   | none =>
    obtain ⟨r, hr2, hpr⟩ := parse64_ex PT hok false v p h0 hv64 h2 h1
    refine ⟨r, hr2, fun b off w hT => ?_⟩
    cases r with
    | some k => exact at64_parse_false PT b off s v n p hsp hrd h0 h2 h1 _ _ (fun w hT => (hex _ _ w hT.te).mono (by rintro en w' ⟨hk, f, rfl⟩; exact ⟨⟨f, rfl⟩, hk⟩)) (fun w hT => hpr w hT.p10 hT.size) w hT
    | none => exact at64_parse_false PT b off s v n p hsp hrd h0 h2 h1 _ _ (fun w hT => (hex _ _ w hT.te).mono (by rintro en w' ⟨hk, f, rfl⟩; exact ⟨⟨f, rfl⟩, hk⟩)) (fun w hT => hpr w hT.p10 hT.size) w hT
set_option exponentiation.threshold 3000 in
theorem atof64_num_true (PT : Nat → Nat × Nat) (hok : PTOk PT) (I F X : List UInt8) (e : Int) (hI0 : I ≠ []) (hI : ∀ c ∈ I, Fl.isDig c) (hF : ∀ c ∈ F, Fl.isDig c) (hX : Fl.ExpText X e) (hb : Fl.nval (I ++ F) < 10 ^ 19) (hlen : I.length + F.length ≤ 1000000) :
 ∃ r, Fl.Answers 52 1074 9218868437227405312 (Fl.nval (I ++ F)) (e - F.length) r ∧ ∀ (b off : Nat) (w : World), TA64 PT b off w → Calls Tryz.prog 123 #[.string (mk (sgT true ++ (Fl.body I F ++ X)))] w fun en w' => en = .returned (AtV true (sgT true ++ (Fl.body I F ++ X)).length r) ∧ Keeps (fun _ => False) w w' := by
 have hrd := readFloat_num true I F X e hI0 hI hF hX hb hlen
 have hsp : ∀ w, Calls Tryz.prog 153 #[.string (mk (sgT true ++ (Fl.body I F ++ X)))] w fun en w' => en = .returned (.tuple #[.float .f64 0, .int .i64 0, .bool false]) ∧ w' = w := by
  intro w
  cases I with
  | nil => exact absurd rfl hI0
  | cons c8 I' =>
   have hc := hI c8 List.mem_cons_self
   have hXl : X.length ≤ 6 := by cases hX <;> simp <;> omega
   have h := special_neg ((I' ++ (if F = [] then [] else 46 :: F)) ++ X) c8 hc.1 hc.2 (by simp at hlen; by_cases hF0 : F = [] <;> simp [hF0] <;> (try simp [hF0] at hlen) <;> omega) w
   exact h
 obtain ⟨n, hn⟩ : ∃ n, (sgT true ++ (Fl.body I F ++ X)).length = n := ⟨_, rfl⟩
 obtain ⟨s, hs⟩ : ∃ s, mk (sgT true ++ (Fl.body I F ++ X)) = s := ⟨_, rfl⟩
 rw [hn] at hrd ⊢
 rw [hs] at hrd hsp ⊢
 unfold ReadV at hrd
 obtain ⟨v, hv⟩ : ∃ v, Fl.nval (I ++ F) = v := ⟨_, rfl⟩
 obtain ⟨p, hp⟩ : ∃ p : Int, e - F.length = p := ⟨_, rfl⟩
 rw [hv] at hrd hb ⊢
 rw [hp] at hrd ⊢
 have hv64 : v < 18446744073709551616 := Nat.lt_trans hb (by decide)
 rcases Nat.eq_zero_or_pos v with h0 | h0
 · rw [h0] at hrd ⊢
   refine ⟨some 0, ⟨by decide, Fl.near_small 52 _ _ (by decide) ?_⟩, fun b off w hT => at64_zero_true PT b off s 0 n _ hsp hrd w hT⟩
   have := Fl.decD_pos p
   simpa [Fl.decN] using this
 · simp only [if_neg (show ¬ v = 0 by omega)] at hrd
   rcases Int.lt_or_le 310 p with h1 | h1
   · exact ⟨none, Fl.dec_over64 v p h0 h1, fun b off w hT => at64_over_true PT b off s v n p hsp hrd h0 h1 w hT⟩
   rcases Int.lt_or_le p (-345) with h2 | h2
   · exact ⟨some 0, ⟨by decide, Fl.dec_small64 v p (by simpa using hv64) h2⟩, fun b off w hT => at64_tiny_true PT b off s v n p hsp hrd h0 h2 w hT⟩
   obtain ⟨r, hr, hex⟩ := exact64_ex true v p h0 hv64
   cases r with
   | some k => exact ⟨some k, hr k rfl, fun b off w hT => at64_exact_true PT b off s v n p hsp hrd h0 h2 h1 _ (fun w hT => (hex _ _ w hT.te).mono (by rintro en w' ⟨hk, rfl⟩; exact ⟨rfl, hk⟩)) w hT⟩
   | none =>
    obtain ⟨r, hr2, hpr⟩ := parse64_ex PT hok true v p h0 hv64 h2 h1
    refine ⟨r, hr2, fun b off w hT => ?_⟩
    cases r with
    | some k => exact at64_parse_true PT b off s v n p hsp hrd h0 h2 h1 _ _ (fun w hT => (hex _ _ w hT.te).mono (by rintro en w' ⟨hk, f, rfl⟩; exact ⟨⟨f, rfl⟩, hk⟩)) (fun w hT => hpr w hT.p10 hT.size) w hT
    | none => exact at64_parse_true PT b off s v n p hsp hrd h0 h2 h1 _ _ (fun w hT => (hex _ _ w hT.te).mono (by rintro en w' ⟨hk, f, rfl⟩; exact ⟨⟨f, rfl⟩, hk⟩)) (fun w hT => hpr w hT.p10 hT.size) w hT
theorem atof64_num (PT : Nat → Nat × Nat) (hok : PTOk PT) (neg : Bool) (I F X : List UInt8) (e : Int) (hI0 : I ≠ []) (hI : ∀ c ∈ I, Fl.isDig c) (hF : ∀ c ∈ F, Fl.isDig c) (hX : Fl.ExpText X e) (hb : Fl.nval (I ++ F) < 10 ^ 19) (hlen : I.length + F.length ≤ 1000000) :
 ∃ r, Fl.Answers 52 1074 9218868437227405312 (Fl.nval (I ++ F)) (e - F.length) r ∧ ∀ (b off : Nat) (w : World), TA64 PT b off w → Calls Tryz.prog 123 #[.string (mk (sgT neg ++ (Fl.body I F ++ X)))] w fun en w' => en = .returned (AtV neg (sgT neg ++ (Fl.body I F ++ X)).length r) ∧ Keeps (fun _ => False) w w' := by
 cases neg
 · exact atof64_num_false PT hok I F X e hI0 hI hF hX hb hlen
 · exact atof64_num_true PT hok I F X e hI0 hI hF hX hb hlen
set_option maxRecDepth 1000000 in
set_option maxHeartbeats 4000000 in
theorem pfloat_pre (s : ByteArray) (f : Nat) (w : World) (h : Calls Tryz.prog 123 #[.string s] w fun en w' => en = .returned (.tuple #[.float .f64 f, .int .i64 (s.size : Int), .nilIface]) ∧ Keeps (fun _ => False) w w') :
 Calls Tryz.prog 97 #[.string s, .int .i64 64] w fun en w' => en = .returned (.tuple #[.float .f64 f, .int .i64 (s.size : Int), .nilIface]) ∧ Keeps (fun _ => False) w w' := by
 have HA := Lib.hid h
 clear h
 go_enter Tryz.func97, Tryz.ntmps97
 go_wp2_with (first | (go_at_call 123; refine (HA.out).mono ?_; rintro en w3 ⟨rfl, k3⟩; have K3 := Lib.hid k3; clear k3))
 go_ret3
 exact ⟨rfl, K3.out⟩
set_option maxRecDepth 1000000 in
set_option maxHeartbeats 4000000 in
theorem pfloat_in (s : ByteArray) (f : Nat) (w : World) (h : Calls Tryz.prog 97 #[.string s, .int .i64 64] w fun en w' => en = .returned (.tuple #[.float .f64 f, .int .i64 (s.size : Int), .nilIface]) ∧ Keeps (fun _ => False) w w') :
 Calls Tryz.prog 79 #[.string s, .int .i64 64] w fun en w' => en = .returned (.tuple #[.float .f64 f, .nilIface]) ∧ Keeps (fun _ => False) w w' := by
 have HA := Lib.hid h
 clear h
 go_enter Tryz.func79, Tryz.ntmps79
 go_wp2_with (first | (go_at_call 97; refine (HA.out).mono ?_; rintro en w3 ⟨rfl, k3⟩; have K3 := Lib.hid k3; clear k3))
 go_ret2
 exact ⟨rfl, K3.out⟩
set_option maxRecDepth 1000000 in
set_option maxHeartbeats 4000000 in
theorem pfloat_out (s : ByteArray) (f : Nat) (w : World) (h : Calls Tryz.prog 79 #[.string s, .int .i64 64] w fun en w' => en = .returned (.tuple #[.float .f64 f, .nilIface]) ∧ Keeps (fun _ => False) w w') :
 Calls Tryz.prog 58 #[.string s, .int .i64 64] w fun en w' => en = .returned (.tuple #[.float .f64 f, .nilIface]) ∧ Keeps (fun _ => False) w w' := by
 have HA := Lib.hid h
 clear h
 go_enter Tryz.func58, Tryz.ntmps58
 go_wp2_with (first | (go_at_call 79; refine (HA.out).mono ?_; rintro en w3 ⟨rfl, k3⟩; have K3 := Lib.hid k3; clear k3))
 go_ret2
 exact ⟨rfl, K3.out⟩
theorem pfloat_ok (s : ByteArray) (f : Nat) (w : World) (h : Calls Tryz.prog 123 #[.string s] w fun en w' => en = .returned (.tuple #[.float .f64 f, .int .i64 (s.size : Int), .nilIface]) ∧ Keeps (fun _ => False) w w') :
 Calls Tryz.prog 58 #[.string s, .int .i64 64] w fun en w' => en = .returned (.tuple #[.float .f64 f, .nilIface]) ∧ Keeps (fun _ => False) w w' := pfloat_out s f w (pfloat_in s f w (pfloat_pre s f w h))
theorem parseFloat_near (PT : Nat → Nat × Nat) (hok : PTOk PT) (neg : Bool) (T : List UInt8) (n : Nat) (q : Int) (h : Fl.NumText neg T n q) (hT : T.length ≤ 1000) (k : Nat) (hk : k < 9218868437227405312) (hn : Fl.Near 52 k (Fl.decN 1074 n q) (Fl.decD q)) (b off : Nat) (w : World) (ht : TA64 PT b off w) :
 Calls Tryz.prog 58 #[.string (mk T), .int .i64 64] w fun en w' => en = .returned (.tuple #[.float .f64 (sgn64 neg + k), .nilIface]) ∧ Keeps (fun _ => False) w w' := by
 obtain ⟨I, F, X, e, rfl, h2, h3, h4, h5, h6, h7⟩ := h.reads
 have hl : I.length + F.length ≤ 1000000 := by
  by_cases hF0 : F = []
  · simp [hF0] at hT ⊢; omega
  · simp [hF0] at hT ⊢; omega
 obtain ⟨r, hr, hc⟩ := atof64_num PT hok neg I F X e h2 h3 h4 h5 h6 hl
 have hrk := hr.is (h7 52 1074 k hn) hk (by decide)
 subst hrk
 have e1 : sgT neg ++ (Fl.body I F ++ X) = (if neg then [45] else []) ++ (I ++ ((if F = [] then [] else 46 :: F) ++ X)) := by
  unfold sgT Fl.body; rw [List.append_assoc]
 have hc := hc b off w ht
 rw [e1] at hc
 exact pfloat_ok _ _ w hc
end Go.Proofs.YtonegoemmologaaGreatDoor
