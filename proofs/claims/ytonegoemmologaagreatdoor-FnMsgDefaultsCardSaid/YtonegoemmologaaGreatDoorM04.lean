/-
  The pieces of the shortest float: log10Pow2, uscale, prescale and their like. Each is total, and a function of its numbers alone.
-/
import Derived.Test.YtonegoemmologaaGreatDoorM01
import Derived.Test.YtonegoemmologaaGreatDoorM02
import Derived.BigQuiet
import Derived.Test.YtonegoemmologaaGreatDoorM03
set_option linter.unusedVariables false
set_option linter.unusedSimpArgs false
namespace Go.Proofs.YtonegoemmologaaGreatDoor
open Go.RowKit
def Says (w : World) (v : Value) (e : Ending) (w' : World) : Prop := e = .returned v ∧ Keeps (fun _ => False) w w'
theorem mul_any (x y : Nat) (hx : x < 18446744073709551616) (hy : y < 18446744073709551616) (w : World) :
 Calls Tryz.prog 174 #[.int .u64 x, .int .u64 y] w fun e w' => e = .returned (.tuple #[.int .u64 ((x * y / 18446744073709551616 : Nat) : Int), .int .u64 ((x * y % 18446744073709551616 : Nat) : Int)]) ∧ w' = w := Any.bits_Mul64 Tryz.lays264 x y hx hy w
theorem len64_any (x : Nat) (hx : x < 18446744073709551616) (w : World) : Calls Tryz.prog 103 #[.int .u64 x] w fun e w' => e = .returned (.int .i64 (Lib.bitLen x)) ∧ w' = w := by
 have h := Any.bits_Len64 Tryz.lays129 (x : Int) w (by omega) (by omega)
 exact h
theorem u64_nat (E : Int) (h0 : 0 ≤ E) (h1 : E < 18446744073709551616) : ∃ r : Nat, r < 18446744073709551616 ∧ E = (r : Int) := ⟨E.toNat, by omega, by omega⟩
theorem and63 (n : Int) : bits .and .i64 n 63 = n % 64 := by
 have h127 : (BitVec.ofInt 64 63).toNat = 2 ^ 6 - 1 := by decide
 have key : (BitVec.ofInt 64 n &&& BitVec.ofInt 64 63).toNat = (n % ((2 ^ 64 : Nat) : Int)).toNat % 2 ^ 6 := by
  rw [BitVec.toNat_and, BitVec.toNat_ofInt, h127, Nat.and_two_pow_sub_one_eq_mod]
 show IntKind.i64.wrap ((BitVec.ofInt 64 n &&& BitVec.ofInt 64 63).toNat : Nat) = n % 64
 rw [key, IntKind.wrap_i64]
 omega
theorem wrapu_range (E : Int) : 0 ≤ IntKind.u64.wrap E ∧ IntKind.u64.wrap E < 18446744073709551616 := by
 rw [IntKind.wrap_u64]
 omega
set_option maxRecDepth 1000000 in
set_option maxHeartbeats 4000000 in
theorem bool2_any (b : Bool) (w : World) : Calls Tryz.prog 162 #[.bool b] w fun e w' => e = .returned (.int .u64 (if b then 1 else 0)) ∧ w' = w := by
 go_enter Tryz.func162, Tryz.ntmps162
 cases b
 all_goals go_wp2_with (fail)
 all_goals go_ret
 all_goals exact ⟨rfl, rfl⟩
set_option maxRecDepth 1000000 in
theorem log10_any (x : Int) (h0 : -5000 ≤ x) (h1 : x ≤ 5000) (w : World) : Calls Tryz.prog 102 #[.int .i64 x] w fun e w' => e = .returned (.int .i64 (x * 78913 / 262144)) ∧ w' = w := by
 go_enter Tryz.func102, Tryz.ntmps102
 go_wp2_with (fail)
 go_ret
 exact ⟨rfl, rfl⟩
set_option maxRecDepth 1000000 in
theorem log2_any (x : Int) (h0 : -5000 ≤ x) (h1 : x ≤ 5000) (w : World) : Calls Tryz.prog 138 #[.int .i64 x] w fun e w' => e = .returned (.int .i64 (x * 108853 / 32768)) ∧ w' = w := by
 go_enter Tryz.func138, Tryz.ntmps138
 go_wp2_with (fail)
 go_ret
 exact ⟨rfl, rfl⟩
set_option maxRecDepth 1000000 in
theorem skewed_any (x : Int) (h0 : -5000 ≤ x) (h1 : x ≤ 5000) (w : World) : Calls Tryz.prog 136 #[.int .i64 x] w fun e w' => e = .returned (.int .i64 ((x * 631305 - 261663) / 2097152)) ∧ w' = w := by
 go_enter Tryz.func136, Tryz.ntmps136
 go_wp2_with (fail)
 go_ret
 exact ⟨rfl, rfl⟩
theorem or_one (n : Nat) (h : n < 18446744073709551616) : bits .or .u64 (n : Int) 1 = ((n / 2 * 2 + 1 : Nat) : Int) := by
 have key : (BitVec.ofInt 64 (n : Int) ||| BitVec.ofInt 64 1).toNat = n / 2 * 2 + 1 := by
  rw [BitVec.toNat_or, BitVec.toNat_ofInt, show (BitVec.ofInt 64 1).toNat = 1 by decide]
  have e : ((n : Int) % ((2 ^ 64 : Nat) : Int)).toNat = n := by omega
  rw [e]
  have h1 : (n ||| 1) / 2 = n / 2 := by rw [Nat.or_div_two]; simp
  have h2 : (n ||| 1) % 2 = 1 := by rw [Nat.or_mod_two_eq_one]; omega
  omega
 show IntKind.u64.wrap ((BitVec.ofInt 64 (n : Int) ||| BitVec.ofInt 64 1).toNat : Nat) = _
 rw [key, IntKind.wrap_u64]
 omega
theorem or_zero (n : Nat) (h : n < 18446744073709551616) : bits .or .u64 (n : Int) 0 = (n : Int) := by
 have key : (BitVec.ofInt 64 (n : Int) ||| BitVec.ofInt 64 0).toNat = n := by
  rw [BitVec.toNat_or, BitVec.toNat_ofInt, show (BitVec.ofInt 64 0).toNat = 0 by decide]
  have e : ((n : Int) % ((2 ^ 64 : Nat) : Int)).toNat = n := by omega
  rw [e, Nat.or_zero]
 show IntKind.u64.wrap ((BitVec.ofInt 64 (n : Int) ||| BitVec.ofInt 64 0).toNat : Nat) = _
 rw [key, IntKind.wrap_u64]
 omega
theorem and_one (n : Nat) (h : n < 18446744073709551616) : bits .and .u64 (n : Int) 1 = ((n % 2 : Nat) : Int) := by
 have key : (BitVec.ofInt 64 (n : Int) &&& BitVec.ofInt 64 1).toNat = n % 2 := by
  rw [BitVec.toNat_and, BitVec.toNat_ofInt, show (BitVec.ofInt 64 1).toNat = 2 ^ 1 - 1 by decide, Nat.and_two_pow_sub_one_eq_mod]
  have e : ((n : Int) % ((2 ^ 64 : Nat) : Int)).toNat = n := by omega
  rw [e]
 show IntKind.u64.wrap ((BitVec.ofInt 64 (n : Int) &&& BitVec.ofInt 64 1).toNat : Nat) = _
 rw [key, IntKind.wrap_u64]
 omega
set_option maxRecDepth 1000000 in
theorem ceil_ex (x : Nat) (hx : x < 18446744073709551616) : ∃ r : Nat, r < 18446744073709551616 ∧ (x + 3 < 18446744073709551616 → r = (x + 3) / 4) ∧ ∀ w, Calls Tryz.prog 141 #[.int .u64 (x : Int)] w fun e w' => e = .returned (.int .u64 (r : Int)) ∧ w' = w := by
 obtain ⟨r, hr, he⟩ := u64_nat (IntKind.u64.wrap ((x : Int) + 3) / 4) (by have := wrapu_range ((x : Int) + 3); omega) (by have := wrapu_range ((x : Int) + 3); omega)
 refine ⟨r, hr, fun h => by rw [IntKind.wrap_u64] at he; omega, fun w => ?_⟩
 have HE := Lib.hid he
 clear he
 go_enter Tryz.func141, Tryz.ntmps141
 go_wp2_with (fail)
 go_ret
 rw [← HE.out]
 exact ⟨rfl, rfl⟩
set_option maxRecDepth 1000000 in
theorem floor_ex (x : Nat) (hx : x < 18446744073709551616) : ∃ r : Nat, r < 18446744073709551616 ∧ r = x / 4 ∧ ∀ w, Calls Tryz.prog 142 #[.int .u64 (x : Int)] w fun e w' => e = .returned (.int .u64 (r : Int)) ∧ w' = w := by
 obtain ⟨r, hr, he⟩ := u64_nat ((x : Int) / 4) (by omega) (by omega)
 refine ⟨r, hr, by omega, fun w => ?_⟩
 have HE := Lib.hid he
 clear he
 go_enter Tryz.func142, Tryz.ntmps142
 go_wp2_with (fail)
 go_ret
 rw [← HE.out]
 exact ⟨rfl, rfl⟩
set_option maxRecDepth 1000000 in
theorem round_ex (x : Nat) (hx : x < 18446744073709551616) : ∃ r : Nat, r < 18446744073709551616 ∧ (x + 2 < 18446744073709551616 → r = Fl.rnd x) ∧ ∀ w, Calls Tryz.prog 143 #[.int .u64 (x : Int)] w fun e w' => e = .returned (.int .u64 (r : Int)) ∧ w' = w := by
 obtain ⟨r, hr, he⟩ := u64_nat (IntKind.u64.wrap (IntKind.u64.wrap ((x : Int) + 1) + bits .and .u64 ((x : Int) / 4) 1) / 4) (by have := wrapu_range (IntKind.u64.wrap ((x : Int) + 1) + bits .and .u64 ((x : Int) / 4) 1); omega) (by have := wrapu_range (IntKind.u64.wrap ((x : Int) + 1) + bits .and .u64 ((x : Int) / 4) 1); omega)
 refine ⟨r, hr, fun h => by
  rw [show (x : Int) / 4 = ((x / 4 : Nat) : Int) by omega, and_one (x / 4) (by omega), IntKind.wrap_u64, IntKind.wrap_u64] at he
  unfold Fl.rnd
  omega, fun w => ?_⟩
 have HE := Lib.hid he
 clear he
 go_enter Tryz.func143, Tryz.ntmps143
 go_wp2_with (fail)
 go_ret
 rw [← HE.out]
 exact ⟨rfl, rfl⟩
set_option maxRecDepth 1000000 in
theorem nudge_ex (x : Nat) (d : Int) : ∃ r : Nat, r < 18446744073709551616 ∧ (0 ≤ (x : Int) + d → (x : Int) + d < 18446744073709551616 → (r : Int) = (x : Int) + d) ∧ ∀ w, Calls Tryz.prog 140 #[.int .u64 (x : Int), .int .i64 d] w fun e w' => e = .returned (.int .u64 (r : Int)) ∧ w' = w := by
 obtain ⟨r, hr, he⟩ := u64_nat (IntKind.u64.wrap ((x : Int) + IntKind.u64.wrap d)) (wrapu_range _).1 (wrapu_range _).2
 refine ⟨r, hr, fun h1 h2 => by rw [IntKind.wrap_u64, IntKind.wrap_u64] at he; omega, fun w => ?_⟩
 have HE := Lib.hid he
 clear he
 go_enter Tryz.func140, Tryz.ntmps140
 go_wp2_with (fail)
 go_ret
 rw [← HE.out]
 exact ⟨rfl, rfl⟩
set_option maxRecDepth 1000000 in
set_option maxHeartbeats 4000000 in
theorem uscale_ex (x hi lo : Nat) (S : Int) (hx : x < 18446744073709551616) (hhi : hi < 18446744073709551616) (hlo : lo < 18446744073709551616) : ∃ r : Nat, r < 18446744073709551616 ∧ (18446744073709551616 ≤ x * hi → r = Fl.usc x hi lo (S % 64).toNat) ∧ ∀ (w : World) (c : Nat),
 w.cell? ⟨c, 0, none⟩ = some (.int .u64 (hi : Int)) → w.cell? ⟨c, 1, none⟩ = some (.int .u64 (lo : Int)) → w.cell? ⟨c, 2, none⟩ = some (.int .i64 S) →
 Calls Tryz.prog 139 #[.int .u64 (x : Int), .pointer (some ⟨c, 0, none⟩)] w (Says w (.int .u64 (r : Int))) := by
 obtain ⟨a, ha⟩ : ∃ a, x * hi / 18446744073709551616 = a := ⟨_, rfl⟩
 obtain ⟨b, hb⟩ : ∃ a, x * hi % 18446744073709551616 = a := ⟨_, rfl⟩
 obtain ⟨g, hg⟩ : ∃ a, x * lo / 18446744073709551616 = a := ⟨_, rfl⟩
 obtain ⟨k, hk⟩ : ∃ a, x * lo % 18446744073709551616 = a := ⟨_, rfl⟩
 have M1 := Lib.hid (mul_any x hi hx hhi)
 have M2 := Lib.hid (mul_any x lo hx hlo)
 rw [ha, hb] at M1
 rw [hg, hk] at M2
 have hval : ∀ s : Nat, Fl.usc x hi lo s = if a % 2 ^ s ≠ 0 then a / 2 ^ s / 2 * 2 + 1 else if b < g then (a - 1) / 2 ^ s / 2 * 2 + 1 else if 1 < b - g then a / 2 ^ s / 2 * 2 + 1 else a / 2 ^ s := by
  intro s
  unfold Fl.usc
  rw [show (2 : Nat) ^ 64 = 18446744073709551616 from rfl, ha, hb, hg]
 have ha64 : a < 18446744073709551616 := by
  rw [← ha]
  refine (Nat.div_lt_iff_lt_mul (by omega)).2 ?_
  exact Nat.lt_of_le_of_lt (Nat.mul_le_mul_right hi (Nat.le_of_lt hx)) (Nat.mul_lt_mul_of_pos_left hhi (by omega))
 have hb64 : b < 18446744073709551616 := by rw [← hb]; exact Nat.mod_lt _ (by omega)
 have hg64 : g < 18446744073709551615 := by
  rw [← hg]
  refine (Nat.div_lt_iff_lt_mul (by omega)).2 ?_
  have h1 : x * lo ≤ 18446744073709551615 * lo := Nat.mul_le_mul_right lo (by omega)
  omega
 have ha1 : 18446744073709551616 ≤ x * hi → 1 ≤ a := by
  intro h
  rw [← ha]
  exact (Nat.le_div_iff_mul_le (by omega)).2 (by omega)
 clear ha hb hg hk
 obtain ⟨s, hs⟩ : ∃ s : Nat, S % 64 = (s : Int) := ⟨(S % 64).toNat, by omega⟩
 have hsn : bits .and .i64 S 63 = (s : Int) := by rw [and63, hs]
 by_cases h1 : (IntKind.u64.wrap ((a : Int) / 2 ^ s * 2 ^ s) != (a : Int)) = true
 · obtain ⟨r, hr, he⟩ := u64_nat (bits .or .u64 ((a : Int) / 2 ^ s) 1) (wrapu_range _).1 (wrapu_range _).2
   refine ⟨r, hr, fun _ => ?_, fun w c c0 c1 c2 => ?_⟩
   · rw [hs, hval, show (s : Int).toNat = s from rfl]
     have hps := Nat.two_pow_pos s
     have e1 : (a : Int) / 2 ^ s = ((a / 2 ^ s : Nat) : Int) := by push_cast; rfl
     have hm : a / 2 ^ s ≤ a := Nat.div_le_self _ _
     rw [e1, or_one _ (by omega)] at he
     have h2 : a % 2 ^ s ≠ 0 := by
      intro h0
      have h3 : a / 2 ^ s * 2 ^ s = a := by have := Nat.div_add_mod a (2 ^ s); rw [Nat.mul_comm] at this; omega
      rw [e1, show ((a / 2 ^ s : Nat) : Int) * 2 ^ s = ((a / 2 ^ s * 2 ^ s : Nat) : Int) by push_cast; rfl, h3, IntKind.wrap_u64] at h1
      simp at h1
      omega
     rw [if_pos h2]
     omega
   have HE := Lib.hid he
   clear he hval ha64 hb64 hg64 ha1
   go_enter Tryz.func139, Tryz.ntmps139
   go_wp2_with (first | (go_at_call 174; with_reducible refine (M1.out _).mono ?_; rintro e w' ⟨rfl, rfl⟩))
   go_ret
   rw [← HE.out]
   exact ⟨rfl, Keeps.refl _ _⟩
 · have h1f : (IntKind.u64.wrap ((a : Int) / 2 ^ s * 2 ^ s) != (a : Int)) = false := by simpa using h1
   clear h1
   obtain ⟨t, ht⟩ : ∃ t : Int, (if decide (b < g) = true then 1 else 0) = t := ⟨_, rfl⟩
   have B1 := Lib.hid (bool2_any (decide (b < g)))
   rw [ht] at B1
   obtain ⟨q, hq⟩ : ∃ q : Bool, decide (1 < IntKind.u64.wrap ((b : Int) - (g : Int))) = q := ⟨_, rfl⟩
   have hfin : ∀ (r : Nat), 1 ≤ a → (r : Int) = bits .or .u64 (IntKind.u64.wrap ((a : Int) - t) / 2 ^ s) (if q then 1 else 0) → r = Fl.usc x hi lo (S % 64).toNat := by
    intro r h1a he
    rw [hs, hval, show (s : Int).toNat = s from rfl]
    have hps := Nat.two_pow_pos s
    have h0 : a % 2 ^ s = 0 := by
     have e1 : (a : Int) / 2 ^ s = ((a / 2 ^ s : Nat) : Int) := by push_cast; rfl
     have h3 := Nat.div_add_mod a (2 ^ s)
     rw [e1, show ((a / 2 ^ s : Nat) : Int) * 2 ^ s = ((a / 2 ^ s * 2 ^ s : Nat) : Int) by push_cast; rfl, IntKind.wrap_u64] at h1f
     have h4 : a / 2 ^ s * 2 ^ s ≤ a := Nat.div_mul_le_self _ _
     simp only [bne_eq_false_iff_eq] at h1f
     rw [Nat.mul_comm] at h3
     omega
    rw [if_neg (by omega)]
    by_cases hbg : b < g
    · rw [if_pos hbg]
      rw [if_pos (by simpa using hbg)] at ht
      have hq1 : q = true := by rw [← hq, decide_eq_true_eq, IntKind.wrap_u64]; omega
      rw [hq1, ← ht, IntKind.wrap_u64, if_pos rfl] at he
      have e2 : ((a : Int) - 1) % 18446744073709551616 / 2 ^ s = (((a - 1) / 2 ^ s : Nat) : Int) := by
       rw [show ((a : Int) - 1) % 18446744073709551616 = ((a - 1 : Nat) : Int) by omega]; push_cast; rfl
      have hm : (a - 1) / 2 ^ s ≤ a - 1 := Nat.div_le_self _ _
      rw [e2, or_one _ (by omega)] at he
      omega
    · rw [if_neg hbg]
      rw [if_neg (by simpa using hbg)] at ht
      have e2 : IntKind.u64.wrap ((a : Int) - t) / 2 ^ s = ((a / 2 ^ s : Nat) : Int) := by
       rw [← ht, IntKind.wrap_u64, show ((a : Int) - 0) % 18446744073709551616 = (a : Int) by omega]; push_cast; rfl
      have hm : a / 2 ^ s ≤ a := Nat.div_le_self _ _
      rw [e2] at he
      by_cases h2 : 1 < b - g
      · have hq1 : q = true := by rw [← hq, decide_eq_true_eq, IntKind.wrap_u64]; omega
        rw [if_pos h2]
        rw [hq1, if_pos rfl, or_one _ (by omega)] at he
        omega
      · have hq1 : q = false := by rw [← hq, decide_eq_false_iff_not, IntKind.wrap_u64]; omega
        rw [if_neg h2]
        rw [hq1] at he
        simp only [Bool.false_eq_true, if_false] at he
        rw [or_zero _ (by omega)] at he
        omega
   clear ht
   cases q
   · obtain ⟨r, hr, he⟩ := u64_nat (bits .or .u64 (IntKind.u64.wrap ((a : Int) - t) / 2 ^ s) 0) (wrapu_range _).1 (wrapu_range _).2
     refine ⟨r, hr, fun h => hfin r (ha1 h) (by simpa using he.symm), fun w c c0 c1 c2 => ?_⟩
     clear hfin hval ha64 hb64 hg64 ha1
     have HE := Lib.hid he
     clear he
     go_enter Tryz.func139, Tryz.ntmps139
     go_wp2_with (first | (go_at_call 174; with_reducible refine (M1.out _).mono ?_; rintro e w' ⟨rfl, rfl⟩)  | (go_at_call 174; with_reducible refine (M2.out _).mono ?_; rintro e w' ⟨rfl, rfl⟩) | (go_at_call 162; with_reducible refine (B1.out _).mono ?_; rintro e w' ⟨rfl, rfl⟩))
     go_quiet ((go_at_call 162; exact Calls.quiet_of_same (bool2_any _ _)))
     go_wp2_with (fail)
     go_ret
     rw [← HE.out]
     exact ⟨rfl, (Keeps.refl _ _).drewN _⟩
   · obtain ⟨r, hr, he⟩ := u64_nat (bits .or .u64 (IntKind.u64.wrap ((a : Int) - t) / 2 ^ s) 1) (wrapu_range _).1 (wrapu_range _).2
     refine ⟨r, hr, fun h => hfin r (ha1 h) (by simpa using he.symm), fun w c c0 c1 c2 => ?_⟩
     clear hfin hval ha64 hb64 hg64 ha1
     have HE := Lib.hid he
     clear he
     go_enter Tryz.func139, Tryz.ntmps139
     go_wp2_with (first | (go_at_call 174; with_reducible refine (M1.out _).mono ?_; rintro e w' ⟨rfl, rfl⟩)  | (go_at_call 174; with_reducible refine (M2.out _).mono ?_; rintro e w' ⟨rfl, rfl⟩) | (go_at_call 162; with_reducible refine (B1.out _).mono ?_; rintro e w' ⟨rfl, rfl⟩))
     go_quiet ((go_at_call 162; exact Calls.quiet_of_same (bool2_any _ _)))
     go_wp2_with (fail)
     go_ret
     rw [← HE.out]
     exact ⟨rfl, (Keeps.refl _ _).drewN _⟩
def P10At (PT : Nat → Nat × Nat) (w : World) : Prop := ∀ i, i < 696 → w.cell? ⟨10, i * 2, none⟩ = some (.int .u64 ((PT i).1 : Int)) ∧ w.cell? ⟨10, i * 2 + 1, none⟩ = some (.int .u64 ((PT i).2 : Int)) ∧ (PT i).1 < 18446744073709551616 ∧ (PT i).2 < 18446744073709551616
set_option maxRecDepth 1000000 in
set_option maxHeartbeats 4000000 in
theorem prescale_any (PT : Nat → Nat × Nat) (c : Nat) (v0 v1 v2 : Value) (e lp : Int) (i : Nat) (hi : i < 696) (he : -5000 ≤ e) (he2 : e ≤ 5000) (hl : -5000 ≤ lp) (hl2 : lp ≤ 5000) (w : World) (hT : P10At PT w) (hc : w.heap[c]? = some (.cells #[v0, v1, v2] 209 (0, 0))) (hcg : 10 ≠ c) :
 Calls Tryz.prog 137 #[.pointer (some ⟨c, 0, none⟩), .int .i64 e, .int .i64 ((i : Int) - 348), .int .i64 lp] w fun en w' => en = .returned (.tuple #[]) ∧ w'.heap[c]? = some (.cells #[.int .u64 ((PT i).1 : Int), .int .u64 ((PT i).2 : Int), .int .i64 (-(e + lp + 3))] 209 (0, 0)) ∧ Keeps (fun k => k = c) w w' := by
 obtain ⟨g0, g1, g2, g3⟩ := hT i hi
 have f0 := frozen_row (j := 0) hc
 have f1 := frozen_row (j := 1) hc
 have f2 := frozen_row (j := 2) hc
 have l0 := cell_row (j := 0) hc
 have l1 := cell_row (j := 1) hc
 have l2 := cell_row (j := 2) hc
 simp at l0 l1 l2
 go_enter Tryz.func137, Tryz.ntmps137
 go_wp2_with (fail)
 go_end0
 refine ⟨rfl, ?_, ?_⟩
 · rw [setCell_row (setCell_row (setCell_row hc _) _) _]
   rfl
 · exact ((((Keeps.refl (fun k => k = c) w).setCell ⟨c, 0, none⟩ (fun _ => rfl) _).setCell ⟨c, 1, none⟩ (fun _ => rfl) _).setCell ⟨c, 2, none⟩ (fun _ => rfl) _)
end Go.Proofs.YtonegoemmologaaGreatDoor
