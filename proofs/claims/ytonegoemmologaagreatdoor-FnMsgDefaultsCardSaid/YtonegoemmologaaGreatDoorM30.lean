/-
  atof64exact: where it answers, the answer is the nearest rung.
-/
import Derived.Test.YtonegoemmologaaGreatDoorM07
import Derived.Test.YtonegoemmologaaGreatDoorM24
import Derived.Laws.FloatArith
import Derived.Deep.DeepCutAuto
set_option linter.unusedVariables false
set_option linter.unusedSimpArgs false
namespace Go.Proofs.YtonegoemmologaaGreatDoor
open Go.RowKit
theorem word64 (neg : Bool) (k : Nat) : Ieee.double.word neg k = sgn64 neg + k := by cases neg <;> simp [Ieee.Format.word, sgn64, Ieee.Format.signWeight, Ieee.double]
theorem inf64 : Ieee.double.infRung = 9218868437227405312 := by decide
theorem neg64_word (k : Nat) (h : k < 9223372036854775808) : Op.negFloat .f64 k = sgn64 true + k := by
 show k ^^^ 2 ^ 63 = 9223372036854775808 + k
 have e : k ^^^ 2 ^ 63 = k ||| 2 ^ 63 := by
  refine Nat.eq_of_testBit_eq fun i => ?_
  rw [Nat.testBit_xor, Nat.testBit_or, Nat.testBit_two_pow]
  by_cases hi : 63 = i
  · subst hi
    rw [Nat.testBit_lt_two_pow (by simpa using h)]; rfl
  · simp [hi]
 rw [e, Nat.or_comm, nat_join 63 _ k (by decide) (by simpa using h)]
structure TE64 (b off : Nat) (w : World) : Prop where
 info : w.cell? ⟨7, 0, none⟩ = some (.int .u64 52)
 tab : w.cell? ⟨14, 0, none⟩ = some (.slice (some ⟨b, off, none⟩) 23 23)
 row : ∀ i, i < 23 → w.cell? ⟨b, off + i, none⟩ = some (.float .f64 (Fl.tenWords64.getD i 0))
theorem TE64.keeps {b off : Nat} {w w' : World} (h : TE64 b off w) (hk : Keeps (fun _ => False) w w') : TE64 b off w' := ⟨hk.cell h.info id, hk.cell h.tab id, fun i hi => hk.cell (h.row i hi) id⟩
def Ex64 (neg : Bool) (w : World) (r : Option Nat) (en : Ending) (w' : World) : Prop :=
 Keeps (fun _ => False) w w' ∧ match r with
 | some k => en = .returned (.tuple #[.float .f64 (sgn64 neg + k), .bool true])
 | none => ∃ f : Nat, en = .returned (.tuple #[.float .f64 f, .bool false])
set_option maxRecDepth 1000000 in
set_option maxHeartbeats 4000000 in
theorem ex64w_wide (neg : Bool) (d : Nat) (p : Int) (hd : d < 18446744073709551616) (h : 4503599627370496 ≤ d) (b off : Nat) (w : World) (hT : TE64 b off w) :
 Calls Tryz.prog 164 #[.int .u64 (d : Int), .int .i64 p, .bool neg] w fun en w' => en = .returned (.tuple #[.float .f64 0, .bool false]) ∧ Keeps (fun _ => False) w w' := by
 have g1 := hT.info
 have hq : ((d : Int) / 4503599627370496 != 0) = true := by simp; omega
 have hq2 : ¬ (d : Int) / 4503599627370496 = 0 := by omega
 go_enter Tryz.func164, Tryz.ntmps164
 go_wp2_with (fail)
 go_ret2
 exact ⟨rfl, Keeps.refl _ _⟩
theorem conv64_ex (neg : Bool) (d : Nat) (h0 : 0 < d) (h : d < 4503599627370496) : ∃ k, k < 9218868437227405312 ∧ Fl.fin 52 k = d * 2 ^ 1074 ∧ FloatKind.f64.format.write (.number neg d 0) = sgn64 neg + k := by
 obtain ⟨k, h1, h2, h3⟩ := Fl.int_word Ieee.double neg 52 1074 d rfl (by decide) rfl h0 (by rw [Nat.pow_succ]; have : (2 : Nat) ^ 52 = 4503599627370496 := rfl; omega) (by decide) (by decide)
 rw [word64] at h3
 exact ⟨k, by rw [← inf64]; exact h1, h2, h3⟩
set_option maxRecDepth 1000000 in
set_option maxHeartbeats 4000000 in
theorem ex64w_int_false (d x0 : Nat) (p : Int) (hd : d < 4503599627370496) (hw0 : floatOfInt .f64 (d : Int) = x0) (hp : p = 0) (b off : Nat) (w : World) (hT : TE64 b off w) :
 Calls Tryz.prog 164 #[.int .u64 (d : Int), .int .i64 p, .bool false] w fun en w' => en = .returned (.tuple #[.float .f64 x0, .bool true]) ∧ Keeps (fun _ => False) w w' := by
 have g1 := hT.info
 have g2 := hT.tab
 have hq : ((d : Int) / 4503599627370496 != 0) = false := by simp; omega
 have hq2 : (d : Int) / 4503599627370496 = 0 := by omega
 subst hp
 clear hT hd
 go_enter Tryz.func164, Tryz.ntmps164
 go_wp2_with (fail)
 go_ret2
 exact ⟨rfl, by repeat (first | exact Keeps.refl _ _ | apply Keeps.drew)⟩
set_option maxRecDepth 1000000 in
set_option maxHeartbeats 4000000 in
theorem ex64w_div_false (d x0 : Nat) (p : Int) (hd : d < 4503599627370496) (hw0 : floatOfInt .f64 (d : Int) = x0) (x1 i : Nat) (hi : 1 ≤ i) (hi2 : i ≤ 22) (hp : p = -(i : Int)) (hf : floatBits .quo .f64 x0 (Fl.tenWords64.getD i 0) = some x1) (b off : Nat) (w : World) (hT : TE64 b off w) :
 Calls Tryz.prog 164 #[.int .u64 (d : Int), .int .i64 p, .bool false] w fun en w' => en = .returned (.tuple #[.float .f64 x1, .bool true]) ∧ Keeps (fun _ => False) w w' := by
 have g1 := hT.info
 have g2 := hT.tab
 have hq : ((d : Int) / 4503599627370496 != 0) = false := by simp; omega
 have hq2 : (d : Int) / 4503599627370496 = 0 := by omega
 subst hp
 obtain ⟨t, ht⟩ : ∃ t, Fl.tenWords64.getD i 0 = t := ⟨_, rfl⟩
 have g3 := hT.row i (by omega)
 rw [ht] at g3 hf
 clear ht
 have hm : ∀ w', (binOp .quo 83 (.float .f64 x0) (.float .f64 t)).run Tryz.prog w' = .ok (.float .f64 x1) w' := fun w' => run_float_arith w' .quo 83 .f64 x0 t x1 hf
 have n1 : ¬ (0 : Int) < -(i : Int) := by omega
 have n2 : -(i : Int) < 0 := by omega
 have n3 : -22 ≤ -(i : Int) := by omega
 have n4 : ((-(i : Int)) == 0) = false := by simp; omega
 have n5 : ¬ i = 0 := by omega
 clear hf
 clear hT hd
 go_enter Tryz.func164, Tryz.ntmps164
 go_wp2_with (fail)
 go_ret2
 exact ⟨rfl, by repeat (first | exact Keeps.refl _ _ | apply Keeps.drew)⟩
set_option maxRecDepth 1000000 in
set_option maxHeartbeats 4000000 in
theorem ex64w_int_true (d k0 x0 : Nat) (p : Int) (hd : d < 4503599627370496) (hw0 : floatOfInt .f64 (d : Int) = k0) (hun : Op.unary UnOp.neg (.float .f64 k0) = pure (.float .f64 x0)) (hp : p = 0) (b off : Nat) (w : World) (hT : TE64 b off w) :
 Calls Tryz.prog 164 #[.int .u64 (d : Int), .int .i64 p, .bool true] w fun en w' => en = .returned (.tuple #[.float .f64 x0, .bool true]) ∧ Keeps (fun _ => False) w w' := by
 have g1 := hT.info
 have g2 := hT.tab
 have hq : ((d : Int) / 4503599627370496 != 0) = false := by simp; omega
 have hq2 : (d : Int) / 4503599627370496 = 0 := by omega
 subst hp
 clear hT hd
 go_enter Tryz.func164, Tryz.ntmps164
 go_wp2_with (fail)
 go_ret2
 exact ⟨rfl, by repeat (first | exact Keeps.refl _ _ | apply Keeps.drew)⟩
set_option maxRecDepth 1000000 in
set_option maxHeartbeats 4000000 in
theorem ex64w_div_true (d k0 x0 : Nat) (p : Int) (hd : d < 4503599627370496) (hw0 : floatOfInt .f64 (d : Int) = k0) (hun : Op.unary UnOp.neg (.float .f64 k0) = pure (.float .f64 x0)) (x1 i : Nat) (hi : 1 ≤ i) (hi2 : i ≤ 22) (hp : p = -(i : Int)) (hf : floatBits .quo .f64 x0 (Fl.tenWords64.getD i 0) = some x1) (b off : Nat) (w : World) (hT : TE64 b off w) :
 Calls Tryz.prog 164 #[.int .u64 (d : Int), .int .i64 p, .bool true] w fun en w' => en = .returned (.tuple #[.float .f64 x1, .bool true]) ∧ Keeps (fun _ => False) w w' := by
 have g1 := hT.info
 have g2 := hT.tab
 have hq : ((d : Int) / 4503599627370496 != 0) = false := by simp; omega
 have hq2 : (d : Int) / 4503599627370496 = 0 := by omega
 subst hp
 obtain ⟨t, ht⟩ : ∃ t, Fl.tenWords64.getD i 0 = t := ⟨_, rfl⟩
 have g3 := hT.row i (by omega)
 rw [ht] at g3 hf
 clear ht
 have hm : ∀ w', (binOp .quo 83 (.float .f64 x0) (.float .f64 t)).run Tryz.prog w' = .ok (.float .f64 x1) w' := fun w' => run_float_arith w' .quo 83 .f64 x0 t x1 hf
 have n1 : ¬ (0 : Int) < -(i : Int) := by omega
 have n2 : -(i : Int) < 0 := by omega
 have n3 : -22 ≤ -(i : Int) := by omega
 have n4 : ((-(i : Int)) == 0) = false := by simp; omega
 have n5 : ¬ i = 0 := by omega
 clear hf
 clear hT hd
 go_enter Tryz.func164, Tryz.ntmps164
 go_wp2_with (fail)
 go_ret2
 exact ⟨rfl, by repeat (first | exact Keeps.refl _ _ | apply Keeps.drew)⟩
set_option maxRecDepth 1000000 in
set_option maxHeartbeats 4000000 in
theorem ex64w_mul_ok_false (d x0 : Nat) (p : Int) (hd : d < 4503599627370496) (hw0 : floatOfInt .f64 (d : Int) = x0) (i : Nat) (hi : 1 ≤ i) (hi2 : i ≤ 22) (hp : p = (i : Int)) (hgt : (FloatKind.f64.format.order x0 4831355200913801216 == some Ordering.gt) = false) (hlt : (FloatKind.f64.format.order x0 14054727237768577024 == some Ordering.lt) = false) (x1 : Nat) (hf : floatBits .mul .f64 x0 (Fl.tenWords64.getD i 0) = some x1) (b off : Nat) (w : World) (hT : TE64 b off w) :
 Calls Tryz.prog 164 #[.int .u64 (d : Int), .int .i64 p, .bool false] w fun en w' => en = .returned (.tuple #[.float .f64 x1, .bool true]) ∧ Keeps (fun _ => False) w w' := by
 have g1 := hT.info
 have g2 := hT.tab
 have hq : ((d : Int) / 4503599627370496 != 0) = false := by simp; omega
 have hq2 : (d : Int) / 4503599627370496 = 0 := by omega
 subst hp
 obtain ⟨t, ht⟩ : ∃ t, Fl.tenWords64.getD i 0 = t := ⟨_, rfl⟩
 have g3 := hT.row i (by omega)
 rw [ht] at g3 hf
 clear ht
 have hm : ∀ w', (binOp .mul 83 (.float .f64 x0) (.float .f64 t)).run Tryz.prog w' = .ok (.float .f64 x1) w' := fun w' => run_float_arith w' .mul 83 .f64 x0 t x1 hf
 clear hf
 have n1 : (0 : Int) < (i : Int) := by omega
 have n2 : (i : Int) ≤ 37 := by omega
 have n3 : ¬ 22 < (i : Int) := by omega
 have n4 : ((i : Int) == 0) = false := by simp; omega
 have n5 : ¬ i = 0 := by omega
 clear hT hd
 go_enter Tryz.func164, Tryz.ntmps164
 go_wp2_with (fail)
 go_ret2
 exact ⟨rfl, by repeat (first | exact Keeps.refl _ _ | apply Keeps.drew)⟩
set_option maxRecDepth 1000000 in
set_option maxHeartbeats 4000000 in
theorem ex64w_mul2_ok_false (d x0 : Nat) (p : Int) (hd : d < 4503599627370496) (hw0 : floatOfInt .f64 (d : Int) = x0) (i : Nat) (hi : 1 ≤ i) (hi2 : i ≤ 15) (hp : p = (i : Int) + 22) (x1 : Nat) (hf : floatBits .mul .f64 x0 (Fl.tenWords64.getD i 0) = some x1) (hgt : (FloatKind.f64.format.order x1 4831355200913801216 == some Ordering.gt) = false) (hlt : (FloatKind.f64.format.order x1 14054727237768577024 == some Ordering.lt) = false) (x2 : Nat) (hf2 : floatBits .mul .f64 x1 (Fl.tenWords64.getD 22 0) = some x2) (b off : Nat) (w : World) (hT : TE64 b off w) :
 Calls Tryz.prog 164 #[.int .u64 (d : Int), .int .i64 p, .bool false] w fun en w' => en = .returned (.tuple #[.float .f64 x2, .bool true]) ∧ Keeps (fun _ => False) w w' := by
 have g1 := hT.info
 have g2 := hT.tab
 have hq : ((d : Int) / 4503599627370496 != 0) = false := by simp; omega
 have hq2 : (d : Int) / 4503599627370496 = 0 := by omega
 obtain ⟨j, hj⟩ : ∃ j : Nat, i + 22 = j := ⟨_, rfl⟩
 obtain rfl : p = (j : Int) := by omega
 obtain ⟨t, ht⟩ : ∃ t, Fl.tenWords64.getD i 0 = t := ⟨_, rfl⟩
 have g3 := hT.row i (by omega)
 rw [ht] at g3 hf
 clear ht
 have hm : ∀ w', (binOp .mul 83 (.float .f64 x0) (.float .f64 t)).run Tryz.prog w' = .ok (.float .f64 x1) w' := fun w' => run_float_arith w' .mul 83 .f64 x0 t x1 hf
 clear hf
 obtain ⟨u, ht⟩ : ∃ u, Fl.tenWords64.getD 22 0 = u := ⟨_, rfl⟩
 have g4 := hT.row 22 (by omega)
 rw [ht] at g4 hf2
 clear ht
 have hm2 : ∀ w', (binOp .mul 83 (.float .f64 x1) (.float .f64 u)).run Tryz.prog w' = .ok (.float .f64 x2) w' := fun w' => run_float_arith w' .mul 83 .f64 x1 u x2 hf2
 clear hf2
 have n1 : (0 : Int) < (j : Int) := by omega
 have n2 : (j : Int) ≤ 37 := by omega
 have n3 : 22 < (j : Int) := by omega
 have n4 : ((j : Int) == 0) = false := by simp; omega
 have n5 : ¬ j = 0 := by omega
 have n6 : (j : Int) - 22 = (i : Int) := by omega
 clear hp hj
 clear hT hd
 go_enter Tryz.func164, Tryz.ntmps164
 go_wp2_with (fail)
 go_ret2
 exact ⟨rfl, by repeat (first | exact Keeps.refl _ _ | apply Keeps.drew)⟩
set_option maxRecDepth 1000000 in
set_option maxHeartbeats 4000000 in
theorem ex64w_mul_gt_false (d x0 : Nat) (p : Int) (hd : d < 4503599627370496) (hw0 : floatOfInt .f64 (d : Int) = x0) (i : Nat) (hi : 1 ≤ i) (hi2 : i ≤ 22) (hp : p = (i : Int)) (hgt : (FloatKind.f64.format.order x0 4831355200913801216 == some Ordering.gt) = true) (b off : Nat) (w : World) (hT : TE64 b off w) :
 Calls Tryz.prog 164 #[.int .u64 (d : Int), .int .i64 p, .bool false] w fun en w' => en = .returned (.tuple #[.float .f64 x0, .bool false]) ∧ Keeps (fun _ => False) w w' := by
 have g1 := hT.info
 have g2 := hT.tab
 have hq : ((d : Int) / 4503599627370496 != 0) = false := by simp; omega
 have hq2 : (d : Int) / 4503599627370496 = 0 := by omega
 subst hp
 have n1 : (0 : Int) < (i : Int) := by omega
 have n2 : (i : Int) ≤ 37 := by omega
 have n3 : ¬ 22 < (i : Int) := by omega
 have n4 : ((i : Int) == 0) = false := by simp; omega
 have n5 : ¬ i = 0 := by omega
 clear hT hd
 go_enter Tryz.func164, Tryz.ntmps164
 go_wp2_with (fail)
 go_ret2
 exact ⟨rfl, by repeat (first | exact Keeps.refl _ _ | apply Keeps.drew)⟩
set_option maxRecDepth 1000000 in
set_option maxHeartbeats 4000000 in
theorem ex64w_mul2_gt_false (d x0 : Nat) (p : Int) (hd : d < 4503599627370496) (hw0 : floatOfInt .f64 (d : Int) = x0) (i : Nat) (hi : 1 ≤ i) (hi2 : i ≤ 15) (hp : p = (i : Int) + 22) (x1 : Nat) (hf : floatBits .mul .f64 x0 (Fl.tenWords64.getD i 0) = some x1) (hgt : (FloatKind.f64.format.order x1 4831355200913801216 == some Ordering.gt) = true) (b off : Nat) (w : World) (hT : TE64 b off w) :
 Calls Tryz.prog 164 #[.int .u64 (d : Int), .int .i64 p, .bool false] w fun en w' => en = .returned (.tuple #[.float .f64 x1, .bool false]) ∧ Keeps (fun _ => False) w w' := by
 have g1 := hT.info
 have g2 := hT.tab
 have hq : ((d : Int) / 4503599627370496 != 0) = false := by simp; omega
 have hq2 : (d : Int) / 4503599627370496 = 0 := by omega
 obtain ⟨j, hj⟩ : ∃ j : Nat, i + 22 = j := ⟨_, rfl⟩
 obtain rfl : p = (j : Int) := by omega
 obtain ⟨t, ht⟩ : ∃ t, Fl.tenWords64.getD i 0 = t := ⟨_, rfl⟩
 have g3 := hT.row i (by omega)
 rw [ht] at g3 hf
 clear ht
 have hm : ∀ w', (binOp .mul 83 (.float .f64 x0) (.float .f64 t)).run Tryz.prog w' = .ok (.float .f64 x1) w' := fun w' => run_float_arith w' .mul 83 .f64 x0 t x1 hf
 clear hf
 have n1 : (0 : Int) < (j : Int) := by omega
 have n2 : (j : Int) ≤ 37 := by omega
 have n3 : 22 < (j : Int) := by omega
 have n4 : ((j : Int) == 0) = false := by simp; omega
 have n5 : ¬ j = 0 := by omega
 have n6 : (j : Int) - 22 = (i : Int) := by omega
 clear hp hj
 clear hT hd
 go_enter Tryz.func164, Tryz.ntmps164
 go_wp2_with (fail)
 go_ret2
 exact ⟨rfl, by repeat (first | exact Keeps.refl _ _ | apply Keeps.drew)⟩
set_option maxRecDepth 1000000 in
set_option maxHeartbeats 4000000 in
theorem ex64w_mul_lt_false (d x0 : Nat) (p : Int) (hd : d < 4503599627370496) (hw0 : floatOfInt .f64 (d : Int) = x0) (i : Nat) (hi : 1 ≤ i) (hi2 : i ≤ 22) (hp : p = (i : Int)) (hgt : (FloatKind.f64.format.order x0 4831355200913801216 == some Ordering.gt) = false) (hlt : (FloatKind.f64.format.order x0 14054727237768577024 == some Ordering.lt) = true) (b off : Nat) (w : World) (hT : TE64 b off w) :
 Calls Tryz.prog 164 #[.int .u64 (d : Int), .int .i64 p, .bool false] w fun en w' => en = .returned (.tuple #[.float .f64 x0, .bool false]) ∧ Keeps (fun _ => False) w w' := by
 have g1 := hT.info
 have g2 := hT.tab
 have hq : ((d : Int) / 4503599627370496 != 0) = false := by simp; omega
 have hq2 : (d : Int) / 4503599627370496 = 0 := by omega
 subst hp
 have n1 : (0 : Int) < (i : Int) := by omega
 have n2 : (i : Int) ≤ 37 := by omega
 have n3 : ¬ 22 < (i : Int) := by omega
 have n4 : ((i : Int) == 0) = false := by simp; omega
 have n5 : ¬ i = 0 := by omega
 clear hT hd
 go_enter Tryz.func164, Tryz.ntmps164
 go_wp2_with (fail)
 go_ret2
 exact ⟨rfl, by repeat (first | exact Keeps.refl _ _ | apply Keeps.drew)⟩
set_option maxRecDepth 1000000 in
set_option maxHeartbeats 4000000 in
theorem ex64w_mul2_lt_false (d x0 : Nat) (p : Int) (hd : d < 4503599627370496) (hw0 : floatOfInt .f64 (d : Int) = x0) (i : Nat) (hi : 1 ≤ i) (hi2 : i ≤ 15) (hp : p = (i : Int) + 22) (x1 : Nat) (hf : floatBits .mul .f64 x0 (Fl.tenWords64.getD i 0) = some x1) (hgt : (FloatKind.f64.format.order x1 4831355200913801216 == some Ordering.gt) = false) (hlt : (FloatKind.f64.format.order x1 14054727237768577024 == some Ordering.lt) = true) (b off : Nat) (w : World) (hT : TE64 b off w) :
 Calls Tryz.prog 164 #[.int .u64 (d : Int), .int .i64 p, .bool false] w fun en w' => en = .returned (.tuple #[.float .f64 x1, .bool false]) ∧ Keeps (fun _ => False) w w' := by
 have g1 := hT.info
 have g2 := hT.tab
 have hq : ((d : Int) / 4503599627370496 != 0) = false := by simp; omega
 have hq2 : (d : Int) / 4503599627370496 = 0 := by omega
 obtain ⟨j, hj⟩ : ∃ j : Nat, i + 22 = j := ⟨_, rfl⟩
 obtain rfl : p = (j : Int) := by omega
 obtain ⟨t, ht⟩ : ∃ t, Fl.tenWords64.getD i 0 = t := ⟨_, rfl⟩
 have g3 := hT.row i (by omega)
 rw [ht] at g3 hf
 clear ht
 have hm : ∀ w', (binOp .mul 83 (.float .f64 x0) (.float .f64 t)).run Tryz.prog w' = .ok (.float .f64 x1) w' := fun w' => run_float_arith w' .mul 83 .f64 x0 t x1 hf
 clear hf
 have n1 : (0 : Int) < (j : Int) := by omega
 have n2 : (j : Int) ≤ 37 := by omega
 have n3 : 22 < (j : Int) := by omega
 have n4 : ((j : Int) == 0) = false := by simp; omega
 have n5 : ¬ j = 0 := by omega
 have n6 : (j : Int) - 22 = (i : Int) := by omega
 clear hp hj
 clear hT hd
 go_enter Tryz.func164, Tryz.ntmps164
 go_wp2_with (fail)
 go_ret2
 exact ⟨rfl, by repeat (first | exact Keeps.refl _ _ | apply Keeps.drew)⟩
set_option maxRecDepth 1000000 in
set_option maxHeartbeats 4000000 in
theorem ex64w_far_false (d x0 : Nat) (p : Int) (hd : d < 4503599627370496) (hw0 : floatOfInt .f64 (d : Int) = x0) (hp : 37 < p) (b off : Nat) (w : World) (hT : TE64 b off w) :
 Calls Tryz.prog 164 #[.int .u64 (d : Int), .int .i64 p, .bool false] w fun en w' => en = .returned (.tuple #[.float .f64 x0, .bool false]) ∧ Keeps (fun _ => False) w w' := by
 have g1 := hT.info
 have g2 := hT.tab
 have hq : ((d : Int) / 4503599627370496 != 0) = false := by simp; omega
 have hq2 : (d : Int) / 4503599627370496 = 0 := by omega
 have n1 : (0 : Int) < p := by omega
 have n2 : ¬ p ≤ 37 := by omega
 have n4 : (p == 0) = false := by simp; omega
 have n5 : ¬ p = 0 := by omega
 have n6 : ¬ p < 0 := by omega
 clear hp
 clear hT hd
 go_enter Tryz.func164, Tryz.ntmps164
 go_wp2_with (fail)
 go_ret2
 exact ⟨rfl, by repeat (first | exact Keeps.refl _ _ | apply Keeps.drew)⟩
set_option maxRecDepth 1000000 in
set_option maxHeartbeats 4000000 in
theorem ex64w_deep_false (d x0 : Nat) (p : Int) (hd : d < 4503599627370496) (hw0 : floatOfInt .f64 (d : Int) = x0) (hp : p < -22) (b off : Nat) (w : World) (hT : TE64 b off w) :
 Calls Tryz.prog 164 #[.int .u64 (d : Int), .int .i64 p, .bool false] w fun en w' => en = .returned (.tuple #[.float .f64 x0, .bool false]) ∧ Keeps (fun _ => False) w w' := by
 have g1 := hT.info
 have g2 := hT.tab
 have hq : ((d : Int) / 4503599627370496 != 0) = false := by simp; omega
 have hq2 : (d : Int) / 4503599627370496 = 0 := by omega
 have n1 : ¬ (0 : Int) < p := by omega
 have n2 : ¬ -22 ≤ p := by omega
 have n4 : (p == 0) = false := by simp; omega
 have n5 : ¬ p = 0 := by omega
 have n6 : p < 0 := by omega
 clear hp
 clear hT hd
 go_enter Tryz.func164, Tryz.ntmps164
 go_wp2_with (fail)
 go_ret2
 exact ⟨rfl, by repeat (first | exact Keeps.refl _ _ | apply Keeps.drew)⟩
set_option maxRecDepth 1000000 in
set_option maxHeartbeats 4000000 in
theorem ex64w_mul_ok_true (d k0 x0 : Nat) (p : Int) (hd : d < 4503599627370496) (hw0 : floatOfInt .f64 (d : Int) = k0) (hun : Op.unary UnOp.neg (.float .f64 k0) = pure (.float .f64 x0)) (i : Nat) (hi : 1 ≤ i) (hi2 : i ≤ 22) (hp : p = (i : Int)) (hgt : (FloatKind.f64.format.order x0 4831355200913801216 == some Ordering.gt) = false) (hlt : (FloatKind.f64.format.order x0 14054727237768577024 == some Ordering.lt) = false) (x1 : Nat) (hf : floatBits .mul .f64 x0 (Fl.tenWords64.getD i 0) = some x1) (b off : Nat) (w : World) (hT : TE64 b off w) :
 Calls Tryz.prog 164 #[.int .u64 (d : Int), .int .i64 p, .bool true] w fun en w' => en = .returned (.tuple #[.float .f64 x1, .bool true]) ∧ Keeps (fun _ => False) w w' := by
 have g1 := hT.info
 have g2 := hT.tab
 have hq : ((d : Int) / 4503599627370496 != 0) = false := by simp; omega
 have hq2 : (d : Int) / 4503599627370496 = 0 := by omega
 subst hp
 obtain ⟨t, ht⟩ : ∃ t, Fl.tenWords64.getD i 0 = t := ⟨_, rfl⟩
 have g3 := hT.row i (by omega)
 rw [ht] at g3 hf
 clear ht
 have hm : ∀ w', (binOp .mul 83 (.float .f64 x0) (.float .f64 t)).run Tryz.prog w' = .ok (.float .f64 x1) w' := fun w' => run_float_arith w' .mul 83 .f64 x0 t x1 hf
 clear hf
 have n1 : (0 : Int) < (i : Int) := by omega
 have n2 : (i : Int) ≤ 37 := by omega
 have n3 : ¬ 22 < (i : Int) := by omega
 have n4 : ((i : Int) == 0) = false := by simp; omega
 have n5 : ¬ i = 0 := by omega
 clear hT hd
 go_enter Tryz.func164, Tryz.ntmps164
 go_wp2_with (fail)
 go_ret2
 exact ⟨rfl, by repeat (first | exact Keeps.refl _ _ | apply Keeps.drew)⟩
set_option maxRecDepth 1000000 in
set_option maxHeartbeats 4000000 in
theorem ex64w_mul2_ok_true (d k0 x0 : Nat) (p : Int) (hd : d < 4503599627370496) (hw0 : floatOfInt .f64 (d : Int) = k0) (hun : Op.unary UnOp.neg (.float .f64 k0) = pure (.float .f64 x0)) (i : Nat) (hi : 1 ≤ i) (hi2 : i ≤ 15) (hp : p = (i : Int) + 22) (x1 : Nat) (hf : floatBits .mul .f64 x0 (Fl.tenWords64.getD i 0) = some x1) (hgt : (FloatKind.f64.format.order x1 4831355200913801216 == some Ordering.gt) = false) (hlt : (FloatKind.f64.format.order x1 14054727237768577024 == some Ordering.lt) = false) (x2 : Nat) (hf2 : floatBits .mul .f64 x1 (Fl.tenWords64.getD 22 0) = some x2) (b off : Nat) (w : World) (hT : TE64 b off w) :
 Calls Tryz.prog 164 #[.int .u64 (d : Int), .int .i64 p, .bool true] w fun en w' => en = .returned (.tuple #[.float .f64 x2, .bool true]) ∧ Keeps (fun _ => False) w w' := by
 have g1 := hT.info
 have g2 := hT.tab
 have hq : ((d : Int) / 4503599627370496 != 0) = false := by simp; omega
 have hq2 : (d : Int) / 4503599627370496 = 0 := by omega
 obtain ⟨j, hj⟩ : ∃ j : Nat, i + 22 = j := ⟨_, rfl⟩
 obtain rfl : p = (j : Int) := by omega
 obtain ⟨t, ht⟩ : ∃ t, Fl.tenWords64.getD i 0 = t := ⟨_, rfl⟩
 have g3 := hT.row i (by omega)
 rw [ht] at g3 hf
 clear ht
 have hm : ∀ w', (binOp .mul 83 (.float .f64 x0) (.float .f64 t)).run Tryz.prog w' = .ok (.float .f64 x1) w' := fun w' => run_float_arith w' .mul 83 .f64 x0 t x1 hf
 clear hf
 obtain ⟨u, ht⟩ : ∃ u, Fl.tenWords64.getD 22 0 = u := ⟨_, rfl⟩
 have g4 := hT.row 22 (by omega)
 rw [ht] at g4 hf2
 clear ht
 have hm2 : ∀ w', (binOp .mul 83 (.float .f64 x1) (.float .f64 u)).run Tryz.prog w' = .ok (.float .f64 x2) w' := fun w' => run_float_arith w' .mul 83 .f64 x1 u x2 hf2
 clear hf2
 have n1 : (0 : Int) < (j : Int) := by omega
 have n2 : (j : Int) ≤ 37 := by omega
 have n3 : 22 < (j : Int) := by omega
 have n4 : ((j : Int) == 0) = false := by simp; omega
 have n5 : ¬ j = 0 := by omega
 have n6 : (j : Int) - 22 = (i : Int) := by omega
 clear hp hj
 clear hT hd
 go_enter Tryz.func164, Tryz.ntmps164
 go_wp2_with (fail)
 go_ret2
 exact ⟨rfl, by repeat (first | exact Keeps.refl _ _ | apply Keeps.drew)⟩
set_option maxRecDepth 1000000 in
set_option maxHeartbeats 4000000 in
theorem ex64w_mul_gt_true (d k0 x0 : Nat) (p : Int) (hd : d < 4503599627370496) (hw0 : floatOfInt .f64 (d : Int) = k0) (hun : Op.unary UnOp.neg (.float .f64 k0) = pure (.float .f64 x0)) (i : Nat) (hi : 1 ≤ i) (hi2 : i ≤ 22) (hp : p = (i : Int)) (hgt : (FloatKind.f64.format.order x0 4831355200913801216 == some Ordering.gt) = true) (b off : Nat) (w : World) (hT : TE64 b off w) :
 Calls Tryz.prog 164 #[.int .u64 (d : Int), .int .i64 p, .bool true] w fun en w' => en = .returned (.tuple #[.float .f64 x0, .bool false]) ∧ Keeps (fun _ => False) w w' := by
 have g1 := hT.info
 have g2 := hT.tab
 have hq : ((d : Int) / 4503599627370496 != 0) = false := by simp; omega
 have hq2 : (d : Int) / 4503599627370496 = 0 := by omega
 subst hp
 have n1 : (0 : Int) < (i : Int) := by omega
 have n2 : (i : Int) ≤ 37 := by omega
 have n3 : ¬ 22 < (i : Int) := by omega
 have n4 : ((i : Int) == 0) = false := by simp; omega
 have n5 : ¬ i = 0 := by omega
 clear hT hd
 go_enter Tryz.func164, Tryz.ntmps164
 go_wp2_with (fail)
 go_ret2
 exact ⟨rfl, by repeat (first | exact Keeps.refl _ _ | apply Keeps.drew)⟩
set_option maxRecDepth 1000000 in
set_option maxHeartbeats 4000000 in
theorem ex64w_mul2_gt_true (d k0 x0 : Nat) (p : Int) (hd : d < 4503599627370496) (hw0 : floatOfInt .f64 (d : Int) = k0) (hun : Op.unary UnOp.neg (.float .f64 k0) = pure (.float .f64 x0)) (i : Nat) (hi : 1 ≤ i) (hi2 : i ≤ 15) (hp : p = (i : Int) + 22) (x1 : Nat) (hf : floatBits .mul .f64 x0 (Fl.tenWords64.getD i 0) = some x1) (hgt : (FloatKind.f64.format.order x1 4831355200913801216 == some Ordering.gt) = true) (b off : Nat) (w : World) (hT : TE64 b off w) :
 Calls Tryz.prog 164 #[.int .u64 (d : Int), .int .i64 p, .bool true] w fun en w' => en = .returned (.tuple #[.float .f64 x1, .bool false]) ∧ Keeps (fun _ => False) w w' := by
 have g1 := hT.info
 have g2 := hT.tab
 have hq : ((d : Int) / 4503599627370496 != 0) = false := by simp; omega
 have hq2 : (d : Int) / 4503599627370496 = 0 := by omega
 obtain ⟨j, hj⟩ : ∃ j : Nat, i + 22 = j := ⟨_, rfl⟩
 obtain rfl : p = (j : Int) := by omega
 obtain ⟨t, ht⟩ : ∃ t, Fl.tenWords64.getD i 0 = t := ⟨_, rfl⟩
 have g3 := hT.row i (by omega)
 rw [ht] at g3 hf
 clear ht
 have hm : ∀ w', (binOp .mul 83 (.float .f64 x0) (.float .f64 t)).run Tryz.prog w' = .ok (.float .f64 x1) w' := fun w' => run_float_arith w' .mul 83 .f64 x0 t x1 hf
 clear hf
 have n1 : (0 : Int) < (j : Int) := by omega
 have n2 : (j : Int) ≤ 37 := by omega
 have n3 : 22 < (j : Int) := by omega
 have n4 : ((j : Int) == 0) = false := by simp; omega
 have n5 : ¬ j = 0 := by omega
 have n6 : (j : Int) - 22 = (i : Int) := by omega
 clear hp hj
 clear hT hd
 go_enter Tryz.func164, Tryz.ntmps164
 go_wp2_with (fail)
 go_ret2
 exact ⟨rfl, by repeat (first | exact Keeps.refl _ _ | apply Keeps.drew)⟩
set_option maxRecDepth 1000000 in
set_option maxHeartbeats 4000000 in
theorem ex64w_mul_lt_true (d k0 x0 : Nat) (p : Int) (hd : d < 4503599627370496) (hw0 : floatOfInt .f64 (d : Int) = k0) (hun : Op.unary UnOp.neg (.float .f64 k0) = pure (.float .f64 x0)) (i : Nat) (hi : 1 ≤ i) (hi2 : i ≤ 22) (hp : p = (i : Int)) (hgt : (FloatKind.f64.format.order x0 4831355200913801216 == some Ordering.gt) = false) (hlt : (FloatKind.f64.format.order x0 14054727237768577024 == some Ordering.lt) = true) (b off : Nat) (w : World) (hT : TE64 b off w) :
 Calls Tryz.prog 164 #[.int .u64 (d : Int), .int .i64 p, .bool true] w fun en w' => en = .returned (.tuple #[.float .f64 x0, .bool false]) ∧ Keeps (fun _ => False) w w' := by
 have g1 := hT.info
 have g2 := hT.tab
 have hq : ((d : Int) / 4503599627370496 != 0) = false := by simp; omega
 have hq2 : (d : Int) / 4503599627370496 = 0 := by omega
 subst hp
 have n1 : (0 : Int) < (i : Int) := by omega
 have n2 : (i : Int) ≤ 37 := by omega
 have n3 : ¬ 22 < (i : Int) := by omega
 have n4 : ((i : Int) == 0) = false := by simp; omega
 have n5 : ¬ i = 0 := by omega
 clear hT hd
 go_enter Tryz.func164, Tryz.ntmps164
 go_wp2_with (fail)
 go_ret2
 exact ⟨rfl, by repeat (first | exact Keeps.refl _ _ | apply Keeps.drew)⟩
set_option maxRecDepth 1000000 in
set_option maxHeartbeats 4000000 in
theorem ex64w_mul2_lt_true (d k0 x0 : Nat) (p : Int) (hd : d < 4503599627370496) (hw0 : floatOfInt .f64 (d : Int) = k0) (hun : Op.unary UnOp.neg (.float .f64 k0) = pure (.float .f64 x0)) (i : Nat) (hi : 1 ≤ i) (hi2 : i ≤ 15) (hp : p = (i : Int) + 22) (x1 : Nat) (hf : floatBits .mul .f64 x0 (Fl.tenWords64.getD i 0) = some x1) (hgt : (FloatKind.f64.format.order x1 4831355200913801216 == some Ordering.gt) = false) (hlt : (FloatKind.f64.format.order x1 14054727237768577024 == some Ordering.lt) = true) (b off : Nat) (w : World) (hT : TE64 b off w) :
 Calls Tryz.prog 164 #[.int .u64 (d : Int), .int .i64 p, .bool true] w fun en w' => en = .returned (.tuple #[.float .f64 x1, .bool false]) ∧ Keeps (fun _ => False) w w' := by
 have g1 := hT.info
 have g2 := hT.tab
 have hq : ((d : Int) / 4503599627370496 != 0) = false := by simp; omega
 have hq2 : (d : Int) / 4503599627370496 = 0 := by omega
 obtain ⟨j, hj⟩ : ∃ j : Nat, i + 22 = j := ⟨_, rfl⟩
 obtain rfl : p = (j : Int) := by omega
 obtain ⟨t, ht⟩ : ∃ t, Fl.tenWords64.getD i 0 = t := ⟨_, rfl⟩
 have g3 := hT.row i (by omega)
 rw [ht] at g3 hf
 clear ht
 have hm : ∀ w', (binOp .mul 83 (.float .f64 x0) (.float .f64 t)).run Tryz.prog w' = .ok (.float .f64 x1) w' := fun w' => run_float_arith w' .mul 83 .f64 x0 t x1 hf
 clear hf
 have n1 : (0 : Int) < (j : Int) := by omega
 have n2 : (j : Int) ≤ 37 := by omega
 have n3 : 22 < (j : Int) := by omega
 have n4 : ((j : Int) == 0) = false := by simp; omega
 have n5 : ¬ j = 0 := by omega
 have n6 : (j : Int) - 22 = (i : Int) := by omega
 clear hp hj
 clear hT hd
 go_enter Tryz.func164, Tryz.ntmps164
 go_wp2_with (fail)
 go_ret2
 exact ⟨rfl, by repeat (first | exact Keeps.refl _ _ | apply Keeps.drew)⟩
set_option maxRecDepth 1000000 in
set_option maxHeartbeats 4000000 in
theorem ex64w_far_true (d k0 x0 : Nat) (p : Int) (hd : d < 4503599627370496) (hw0 : floatOfInt .f64 (d : Int) = k0) (hun : Op.unary UnOp.neg (.float .f64 k0) = pure (.float .f64 x0)) (hp : 37 < p) (b off : Nat) (w : World) (hT : TE64 b off w) :
 Calls Tryz.prog 164 #[.int .u64 (d : Int), .int .i64 p, .bool true] w fun en w' => en = .returned (.tuple #[.float .f64 x0, .bool false]) ∧ Keeps (fun _ => False) w w' := by
 have g1 := hT.info
 have g2 := hT.tab
 have hq : ((d : Int) / 4503599627370496 != 0) = false := by simp; omega
 have hq2 : (d : Int) / 4503599627370496 = 0 := by omega
 have n1 : (0 : Int) < p := by omega
 have n2 : ¬ p ≤ 37 := by omega
 have n4 : (p == 0) = false := by simp; omega
 have n5 : ¬ p = 0 := by omega
 have n6 : ¬ p < 0 := by omega
 clear hp
 clear hT hd
 go_enter Tryz.func164, Tryz.ntmps164
 go_wp2_with (fail)
 go_ret2
 exact ⟨rfl, by repeat (first | exact Keeps.refl _ _ | apply Keeps.drew)⟩
set_option maxRecDepth 1000000 in
set_option maxHeartbeats 4000000 in
theorem ex64w_deep_true (d k0 x0 : Nat) (p : Int) (hd : d < 4503599627370496) (hw0 : floatOfInt .f64 (d : Int) = k0) (hun : Op.unary UnOp.neg (.float .f64 k0) = pure (.float .f64 x0)) (hp : p < -22) (b off : Nat) (w : World) (hT : TE64 b off w) :
 Calls Tryz.prog 164 #[.int .u64 (d : Int), .int .i64 p, .bool true] w fun en w' => en = .returned (.tuple #[.float .f64 x0, .bool false]) ∧ Keeps (fun _ => False) w w' := by
 have g1 := hT.info
 have g2 := hT.tab
 have hq : ((d : Int) / 4503599627370496 != 0) = false := by simp; omega
 have hq2 : (d : Int) / 4503599627370496 = 0 := by omega
 have n1 : ¬ (0 : Int) < p := by omega
 have n2 : ¬ -22 ≤ p := by omega
 have n4 : (p == 0) = false := by simp; omega
 have n5 : ¬ p = 0 := by omega
 have n6 : p < 0 := by omega
 clear hp
 clear hT hd
 go_enter Tryz.func164, Tryz.ntmps164
 go_wp2_with (fail)
 go_ret2
 exact ⟨rfl, by repeat (first | exact Keeps.refl _ _ | apply Keeps.drew)⟩
theorem tw64_lt (i : Nat) (h : i < 23) : Fl.tenWords64.getD i 0 < 9218868437227405312 := by
 have h1 : (List.range 23).all (fun i => decide (Fl.tenWords64.getD i 0 < 9218868437227405312)) = true := by decide
 exact of_decide_eq_true (List.all_eq_true.1 h1 i (List.mem_range.2 h))
theorem foi64 (d k0 : Nat) (h : Ieee.double.write (.number false d 0) = sgn64 false + k0) : floatOfInt .f64 (d : Int) = k0 := by
 have e : floatOfInt .f64 (d : Int) = Ieee.double.write (.number (decide ((d : Int) < 0)) (d : Int).natAbs 0) := rfl
 rw [e, show decide ((d : Int) < 0) = false by simp, Int.natAbs_natCast, h]
 simp [sgn64]
set_option exponentiation.threshold 3000 in
theorem mulw64 (neg : Bool) (k a i : Nat) (hk : k < 9218868437227405312) (hf : Fl.fin 52 k = a * 2 ^ 1074) (ha : 0 < a) (hab : a * 10 ^ i ≤ 2 ^ 127) (hi : i < 23) :
 ∃ k1, k1 < 9218868437227405312 ∧ Fl.Near 52 k1 (a * 10 ^ i * 2 ^ 1074) 1 ∧ floatBits .mul .f64 (sgn64 neg + k) (Fl.tenWords64.getD i 0) = some (sgn64 neg + k1) := by
 obtain ⟨k1, h1, h2⟩ := Fl.mul_near Ieee.double neg 52 1074 k (Fl.tenWords64.getD i 0) a (10 ^ i) rfl (by decide) rfl (by rw [inf64]; exact hk) (by rw [inf64]; exact tw64_lt i hi) hf (Fl.ten64 i hi) ha (Nat.pow_pos (by omega))
 have h3 : k1 < 9218868437227405312 := Fl.near_below h1 (by omega) (1150 * 2 ^ 52) Fl.r64 (by decide) (by rw [Nat.mul_one]; exact Nat.mul_le_mul_right _ hab)
 refine ⟨k1, h3, h1, ?_⟩
 rw [word64, word64, word64, inf64, Nat.min_eq_left (Nat.le_of_lt h3), show sgn64 false = 0 from rfl, Nat.zero_add] at h2
 exact h2
set_option exponentiation.threshold 3000 in
theorem divw64 (neg : Bool) (k a i : Nat) (hk : k < 9218868437227405312) (hf : Fl.fin 52 k = a * 2 ^ 1074) (ha : 0 < a) (hab : a ≤ 2 ^ 127) (hi : i < 23) :
 ∃ k1, k1 < 9218868437227405312 ∧ Fl.Near 52 k1 (a * 2 ^ 1074) (10 ^ i) ∧ floatBits .quo .f64 (sgn64 neg + k) (Fl.tenWords64.getD i 0) = some (sgn64 neg + k1) := by
 obtain ⟨k1, h1, h2⟩ := Fl.div_near Ieee.double neg 52 1074 k (Fl.tenWords64.getD i 0) a (10 ^ i) rfl (by decide) rfl (by rw [inf64]; exact hk) (by rw [inf64]; exact tw64_lt i hi) hf (Fl.ten64 i hi) ha (Nat.pow_pos (by omega))
 have hp : 1 ≤ 10 ^ i := Nat.pow_pos (by omega)
 have h3 : k1 < 9218868437227405312 := Fl.near_below h1 hp (1150 * 2 ^ 52) Fl.r64 (by decide) (by
  refine Nat.le_trans (Nat.mul_le_mul_right _ hab) ?_
  exact Nat.le_mul_of_pos_right _ hp)
 refine ⟨k1, h3, h1, ?_⟩
 rw [word64, word64, word64, inf64, Nat.min_eq_left (Nat.le_of_lt h3), show sgn64 false = 0 from rfl, Nat.zero_add] at h2
 exact h2
theorem lim64 (neg : Bool) (k : Nat) (hk : k < 9218868437227405312) (h1 : (FloatKind.f64.format.order (sgn64 neg + k) 4831355200913801216 == some Ordering.gt) = false) (h2 : (FloatKind.f64.format.order (sgn64 neg + k) 14054727237768577024 == some Ordering.lt) = false) :
 Fl.fin 52 k ≤ 10 ^ 15 * 2 ^ 1074 := by
 have hl : Fl.fin 52 4831355200913801216 = 10 ^ 15 * 2 ^ 1074 := Fl.ten64 15 (by decide)
 have e1 : FloatKind.f64.format.order (sgn64 neg + k) 4831355200913801216 = some (compare (Fl.sg neg (Fl.fin 52 k)) (Fl.sg false (Fl.fin 52 4831355200913801216))) := by
  have := Fl.order_word Ieee.double neg false 52 1074 k 4831355200913801216 rfl rfl (by rw [inf64]; exact hk) (by decide)
  rw [word64, word64, show sgn64 false = 0 from rfl, Nat.zero_add] at this
  exact this
 have e2 : FloatKind.f64.format.order (sgn64 neg + k) 14054727237768577024 = some (compare (Fl.sg neg (Fl.fin 52 k)) (Fl.sg true (Fl.fin 52 4831355200913801216))) := by
  have := Fl.order_word Ieee.double neg true 52 1074 k 4831355200913801216 rfl rfl (by rw [inf64]; exact hk) (by decide)
  rw [word64, word64] at this
  exact this
 rw [e1] at h1
 rw [e2] at h2
 rw [← hl]
 generalize Fl.fin 52 k = x at *
 generalize Fl.fin 52 4831355200913801216 = y at *
 refine Nat.le_of_not_lt fun hc => ?_
 cases neg
 · have : compare (Fl.sg false x) (Fl.sg false y) = .gt := Int.compare_eq_gt.2 (by simp [Fl.sg]; omega)
   rw [this] at h1
   exact absurd h1 (by decide)
 · have : compare (Fl.sg true x) (Fl.sg true y) = .lt := Int.compare_eq_lt.2 (by simp [Fl.sg]; omega)
   rw [this] at h2
   exact absurd h2 (by decide)
set_option exponentiation.threshold 3000 in
theorem exact64_ex (neg : Bool) (d : Nat) (p : Int) (hd0 : 0 < d) (hd : d < 18446744073709551616) : ∃ r : Option Nat, (∀ k, r = some k → k < 9218868437227405312 ∧ Fl.Near 52 k (Fl.decN 1074 d p) (Fl.decD p)) ∧
 ∀ (b off : Nat) (w : World), TE64 b off w → Calls Tryz.prog 164 #[.int .u64 (d : Int), .int .i64 p, .bool neg] w (Ex64 neg w r) := by
 rcases Nat.lt_or_ge d 4503599627370496 with hd2 | hd2
 case inr => exact ⟨none, (fun k h => by cases h), fun b off w hT => (ex64w_wide neg d p hd hd2 b off w hT).mono (by rintro en w' ⟨rfl, hk⟩; exact ⟨hk, _, rfl⟩)⟩
 obtain ⟨k0, hk0, hf0, hw⟩ := conv64_ex false d hd0 hd2
 have hw0 := foi64 d k0 hw
 have hun : Op.unary UnOp.neg (.float .f64 k0) = pure (.float .f64 (sgn64 true + k0)) := congrArg (fun x => pure (Value.float .f64 x)) (neg64_word k0 (by omega))
 have hx0 : sgn64 false + k0 = k0 := by simp [sgn64]
 have hw0t := hw0
 rw [← hx0] at hw0
 rcases Int.lt_trichotomy p 0 with hp | hp | hp
 · rcases Int.lt_or_le p (-22) with hp2 | hp2
   · refine ⟨none, (fun k h => by cases h), fun b off w hT => by
     cases neg
     · exact (ex64w_deep_false d (sgn64 false + k0) p hd2 hw0 hp2 b off w hT).mono (by rintro en w' ⟨rfl, hk⟩; exact ⟨hk, _, rfl⟩)
     · exact (ex64w_deep_true d k0 (sgn64 true + k0) p hd2 hw0t hun hp2 b off w hT).mono (by rintro en w' ⟨rfl, hk⟩; exact ⟨hk, _, rfl⟩)⟩
   · obtain ⟨i, hi⟩ : ∃ i : Nat, p = -(i : Int) := ⟨(-p).toNat, by omega⟩
     obtain ⟨k1, q1, q2, q3⟩ := divw64 neg k0 d i hk0 hf0 hd0 (by have : (2 : Nat) ^ 127 = 170141183460469231731687303715884105728 := rfl; omega) (by omega)
     refine ⟨some k1, (fun k h => by cases h; rw [hi, (Fl.dec_down 1074 d i).1, (Fl.dec_down 1074 d i).2]; exact ⟨q1, q2⟩), fun b off w hT => by
     cases neg
     · exact (ex64w_div_false d (sgn64 false + k0) p hd2 hw0 _ i (by omega) (by omega) hi q3 b off w hT).mono (by rintro en w' ⟨rfl, hk⟩; exact ⟨hk, rfl⟩)
     · exact (ex64w_div_true d k0 (sgn64 true + k0) p hd2 hw0t hun _ i (by omega) (by omega) hi q3 b off w hT).mono (by rintro en w' ⟨rfl, hk⟩; exact ⟨hk, rfl⟩)⟩
 · refine ⟨some k0, (fun k h => by
    cases h
    refine ⟨hk0, ?_⟩
    have := Fl.Near.of_fin 52 k0 1 (by omega)
    rw [hf0] at this
    rw [hp]
    simpa [Fl.decN, Fl.decD] using this), fun b off w hT => by
    cases neg
    · exact (ex64w_int_false d (sgn64 false + k0) p hd2 hw0 hp b off w hT).mono (by rintro en w' ⟨rfl, hk⟩; exact ⟨hk, rfl⟩)
    · exact (ex64w_int_true d k0 (sgn64 true + k0) p hd2 hw0t hun hp b off w hT).mono (by rintro en w' ⟨rfl, hk⟩; exact ⟨hk, rfl⟩)⟩
 · have hab : ∀ i, i ≤ 37 → d * 10 ^ i ≤ 2 ^ 127 → True := fun _ _ _ => trivial
   rcases Int.lt_or_le 37 p with hp2 | hp2
   · exact ⟨none, (fun k h => by cases h), fun b off w hT => by
     cases neg
     · exact (ex64w_far_false d (sgn64 false + k0) p hd2 hw0 hp2 b off w hT).mono (by rintro en w' ⟨rfl, hk⟩; exact ⟨hk, _, rfl⟩)
     · exact (ex64w_far_true d k0 (sgn64 true + k0) p hd2 hw0t hun hp2 b off w hT).mono (by rintro en w' ⟨rfl, hk⟩; exact ⟨hk, _, rfl⟩)⟩
   rcases Int.lt_or_le 22 p with hp3 | hp3
   · obtain ⟨i, hi⟩ : ∃ i : Nat, p = (i : Int) + 22 := ⟨(p - 22).toNat, by omega⟩
     have hi1 : 10 ^ i ≤ 10 ^ 15 := Nat.pow_le_pow_right (by omega) (by omega)
     have hi2 : d * 10 ^ i ≤ 4503599627370496 * 10 ^ 15 := Nat.mul_le_mul (Nat.le_of_lt hd2) hi1
     obtain ⟨k1, q1, q2, q3⟩ := mulw64 neg k0 d i hk0 hf0 hd0 (Nat.le_trans hi2 (by decide)) (by omega)
     cases hg : (FloatKind.f64.format.order (sgn64 neg + k1) 4831355200913801216 == some Ordering.gt)
     case true => exact ⟨none, (fun k h => by cases h), fun b off w hT => by
     cases neg
     · exact (ex64w_mul2_gt_false d (sgn64 false + k0) p hd2 hw0 i (by omega) (by omega) hi _ q3 hg b off w hT).mono (by rintro en w' ⟨rfl, hk⟩; exact ⟨hk, _, rfl⟩)
     · exact (ex64w_mul2_gt_true d k0 (sgn64 true + k0) p hd2 hw0t hun i (by omega) (by omega) hi _ q3 hg b off w hT).mono (by rintro en w' ⟨rfl, hk⟩; exact ⟨hk, _, rfl⟩)⟩
     cases hl : (FloatKind.f64.format.order (sgn64 neg + k1) 14054727237768577024 == some Ordering.lt)
     case true => exact ⟨none, (fun k h => by cases h), fun b off w hT => by
     cases neg
     · exact (ex64w_mul2_lt_false d (sgn64 false + k0) p hd2 hw0 i (by omega) (by omega) hi _ q3 hg hl b off w hT).mono (by rintro en w' ⟨rfl, hk⟩; exact ⟨hk, _, rfl⟩)
     · exact (ex64w_mul2_lt_true d k0 (sgn64 true + k0) p hd2 hw0t hun i (by omega) (by omega) hi _ q3 hg hl b off w hT).mono (by rintro en w' ⟨rfl, hk⟩; exact ⟨hk, _, rfl⟩)⟩
     have hle := lim64 neg k1 q1 hg hl
     have hpos : 0 < d * 10 ^ i := Nat.mul_pos hd0 (Nat.pow_pos (by omega))
     have hai := Fl.near_int q2 hle (by decide) (by decide)
     have hfe := Fl.near_exact_int q2 hpos (Nat.lt_of_le_of_lt hai (by decide)) (by decide)
     obtain ⟨k2, r1, r2, r3⟩ := mulw64 neg k1 (d * 10 ^ i) 22 q1 hfe hpos (Nat.le_trans (Nat.mul_le_mul_right _ hai) (by decide)) (by decide)
     refine ⟨some k2, (fun k h => by
      cases h
      refine ⟨r1, ?_⟩
      rw [hi, show (i : Int) + 22 = ((i + 22 : Nat) : Int) by omega, (Fl.dec_up 1074 d (i + 22)).1, (Fl.dec_up 1074 d (i + 22)).2, Nat.pow_add, ← Nat.mul_assoc d]
      exact r2), fun b off w hT => by
     cases neg
     · exact (ex64w_mul2_ok_false d (sgn64 false + k0) p hd2 hw0 i (by omega) (by omega) hi _ q3 hg hl _ r3 b off w hT).mono (by rintro en w' ⟨rfl, hk⟩; exact ⟨hk, rfl⟩)
     · exact (ex64w_mul2_ok_true d k0 (sgn64 true + k0) p hd2 hw0t hun i (by omega) (by omega) hi _ q3 hg hl _ r3 b off w hT).mono (by rintro en w' ⟨rfl, hk⟩; exact ⟨hk, rfl⟩)⟩
   · obtain ⟨i, hi⟩ : ∃ i : Nat, p = (i : Int) := ⟨p.toNat, by omega⟩
     have hi1 : 10 ^ i ≤ 10 ^ 22 := Nat.pow_le_pow_right (by omega) (by omega)
     have hi2 : d * 10 ^ i ≤ 4503599627370496 * 10 ^ 22 := Nat.mul_le_mul (Nat.le_of_lt hd2) hi1
     obtain ⟨k1, q1, q2, q3⟩ := mulw64 neg k0 d i hk0 hf0 hd0 (Nat.le_trans hi2 (by decide)) (by omega)
     cases hg : (FloatKind.f64.format.order (sgn64 neg + k0) 4831355200913801216 == some Ordering.gt)
     case true => exact ⟨none, (fun k h => by cases h), fun b off w hT => by
     cases neg
     · exact (ex64w_mul_gt_false d (sgn64 false + k0) p hd2 hw0 i (by omega) (by omega) hi hg b off w hT).mono (by rintro en w' ⟨rfl, hk⟩; exact ⟨hk, _, rfl⟩)
     · exact (ex64w_mul_gt_true d k0 (sgn64 true + k0) p hd2 hw0t hun i (by omega) (by omega) hi hg b off w hT).mono (by rintro en w' ⟨rfl, hk⟩; exact ⟨hk, _, rfl⟩)⟩
     cases hl : (FloatKind.f64.format.order (sgn64 neg + k0) 14054727237768577024 == some Ordering.lt)
     case true => exact ⟨none, (fun k h => by cases h), fun b off w hT => by
     cases neg
     · exact (ex64w_mul_lt_false d (sgn64 false + k0) p hd2 hw0 i (by omega) (by omega) hi hg hl b off w hT).mono (by rintro en w' ⟨rfl, hk⟩; exact ⟨hk, _, rfl⟩)
     · exact (ex64w_mul_lt_true d k0 (sgn64 true + k0) p hd2 hw0t hun i (by omega) (by omega) hi hg hl b off w hT).mono (by rintro en w' ⟨rfl, hk⟩; exact ⟨hk, _, rfl⟩)⟩
     refine ⟨some k1, (fun k h => by
      cases h
      refine ⟨q1, ?_⟩
      rw [hi, (Fl.dec_up 1074 d i).1, (Fl.dec_up 1074 d i).2]
      exact q2), fun b off w hT => by
     cases neg
     · exact (ex64w_mul_ok_false d (sgn64 false + k0) p hd2 hw0 i (by omega) (by omega) hi hg hl _ q3 b off w hT).mono (by rintro en w' ⟨rfl, hk⟩; exact ⟨hk, rfl⟩)
     · exact (ex64w_mul_ok_true d k0 (sgn64 true + k0) p hd2 hw0t hun i (by omega) (by omega) hi hg hl _ q3 b off w hT).mono (by rintro en w' ⟨rfl, hk⟩; exact ⟨hk, rfl⟩)⟩
end Go.Proofs.YtonegoemmologaaGreatDoor
