/-
  pack64, pack32: a rung's word, with its sign; too great a rung is refused.
-/
import Derived.Test.YtonegoemmologaaGreatDoorM04
import Derived.Test.YtonegoemmologaaGreatDoorM06
import Derived.Laws.BitsAllLaws
set_option linter.unusedVariables false
set_option linter.unusedSimpArgs false
namespace Go.Proofs.YtonegoemmologaaGreatDoor
open Go.RowKit
theorem f64from_run (f : Nat) (w : World) : (callFunc 163 #[.int .u64 (f : Int)]).run Tryz.prog w = .ok (.value (.float .f64 f)) w := by
 rw [run_callFunc_extern Tryz.func163 (e := Extern.MathFloatBits.float64frombits) (by kernel_rfl) (by kernel_rfl) (by kernel_rfl) (by kernel_rfl)]
 rfl
def sgn64 (neg : Bool) : Nat := if neg then 9223372036854775808 else 0
def sgn32 (neg : Bool) : Nat := if neg then 2147483648 else 0
def Prs64 (neg : Bool) : Option Nat → Value
 | some k => .tuple #[.float .f64 (sgn64 neg + k), .nilIface]
 | none => .tuple #[.float .f64 (sgn64 neg + 9218868437227405312), .iface 156 (.int .i64 1)]
set_option maxRecDepth 1000000 in
set_option maxHeartbeats 4000000 in
theorem pack64_any (neg : Bool) (M J : Nat) (hM : M < 9007199254740992) (hJ : J ≤ 4000) (h : 4503599627370496 ≤ M ∨ J = 0) (w : World) :
 Calls Tryz.prog 182 #[.int .u64 ((sgn64 neg + M : Nat) : Int), .int .i64 ((J : Int) - 1074)] w fun en w' => en = .returned (Prs64 neg (Fl.cutInf 9218868437227405312 (M + J * 4503599627370496))) ∧ w' = w := by
 obtain ⟨g, hg⟩ : ∃ g, sgn64 neg = g := ⟨_, rfl⟩
 obtain ⟨x, hx⟩ : ∃ x, g + M = x := ⟨_, rfl⟩
 have hs : g = 0 ∨ g = 9223372036854775808 := by rw [← hg]; cases neg <;> simp [sgn64]
 have hx64 : x < 18446744073709551616 := by omega
 have hm : bits .and .u64 (x : Int) 4503599627370496 = ((x / 4503599627370496 % 2 * 4503599627370496 : Nat) : Int) := by
  have h1 := u64_and_nat x 4503599627370496 hx64 (by omega)
  have h2 := nat_bit 52 x
  rw [show (2 : Nat) ^ 52 = 4503599627370496 from rfl] at h2
  rw [show (4503599627370496 : Int) = ((4503599627370496 : Nat) : Int) from rfl, h1, h2]
 rw [hg, hx]
 by_cases c : M < 4503599627370496
 · have hJ0 : J = 0 := by omega
   rw [show x / 4503599627370496 % 2 * 4503599627370496 = 0 by omega] at hm
   have e : Prs64 neg (Fl.cutInf 9218868437227405312 (M + J * 4503599627370496)) = .tuple #[.float .f64 x, .nilIface] := by
    rw [hJ0, ← hx, ← hg]; unfold Fl.cutInf; rw [if_pos (by omega)]; simp [Prs64]
   rw [e]
   have hfr : ∀ w', (callFunc 163 #[.int .u64 (x : Int)]).run Tryz.prog w' = .ok (.value (.float .f64 x)) w' := f64from_run x
   clear e hx hs hg
   go_enter Tryz.func182, Tryz.ntmps182
   go_wp2_with (fail)
   go_ret2
   exact ⟨rfl, rfl⟩
 · rw [show x / 4503599627370496 % 2 * 4503599627370496 = 4503599627370496 by omega] at hm
   by_cases c2 : 2046 ≤ J
   · have e : Prs64 neg (Fl.cutInf 9218868437227405312 (M + J * 4503599627370496)) = .tuple #[.float .f64 (g + 9218868437227405312), .iface 156 (.int .i64 1)] := by
      rw [← hg]; unfold Fl.cutInf; rw [if_neg (by omega)]; simp [Prs64]
     rw [e]
     have hm2 : bits .and .u64 (x : Int) 9223372036854775808 = (g : Int) := by
      have h1 := u64_and_nat x 9223372036854775808 hx64 (by omega)
      have h2 := nat_bit 63 x
      rw [show (2 : Nat) ^ 63 = 9223372036854775808 from rfl] at h2
      rw [show (9223372036854775808 : Int) = ((9223372036854775808 : Nat) : Int) from rfl, h1, h2]
      congr 1; omega
     have hm3 : bits .or .u64 (g : Int) 9218868437227405312 = ((g + 9218868437227405312 : Nat) : Int) := by
      have h1 := u64_or_nat g 9218868437227405312 (by omega) (by omega)
      rw [show (9218868437227405312 : Int) = ((9218868437227405312 : Nat) : Int) from rfl, h1, nat_join 63 g 9218868437227405312 (by rcases hs with e | e <;> rw [e]) (by decide)]
     obtain ⟨y, hy⟩ : ∃ y, g + 9218868437227405312 = y := ⟨_, rfl⟩
     rw [hy] at hm3 ⊢
     have hfr : ∀ w', (callFunc 163 #[.int .u64 (y : Int)]).run Tryz.prog w' = .ok (.value (.float .f64 y)) w' := f64from_run y
     have hge : 972 ≤ (J : Int) - 1074 := by omega
     clear e hx hs hg hy
     go_enter Tryz.func182, Tryz.ntmps182
     go_wp2_with (fail)
     go_ret2
     exact ⟨rfl, rfl⟩
   · have e : Prs64 neg (Fl.cutInf 9218868437227405312 (M + J * 4503599627370496)) = .tuple #[.float .f64 (g + (M + J * 4503599627370496)), .nilIface] := by
      rw [← hg]; unfold Fl.cutInf; rw [if_pos (by omega)]; simp [Prs64]
     rw [e]
     obtain ⟨z, hz⟩ : ∃ z, g + (M - 4503599627370496) = z := ⟨_, rfl⟩
     have hm2 : bits .andNot .u64 (x : Int) 4503599627370496 = (z : Int) := by
      have h1 := u64_andNot_nat x 4503599627370496 hx64 (by omega)
      rw [show (4503599627370496 : Int) = ((4503599627370496 : Nat) : Int) from rfl, h1]
      have hz3 : z % 9007199254740992 < 4503599627370496 := by omega
      have h5 : z &&& 4503599627370496 = 0 := by
       have h2 := nat_bit 52 z
       rw [show (2 : Nat) ^ 52 = 4503599627370496 from rfl] at h2
       rw [h2, show z / 4503599627370496 % 2 = 0 by omega, Nat.zero_mul]
      have h3 : x = z ||| 4503599627370496 := by
       have hz2 : (z / 9007199254740992 * 9007199254740992) ||| (z % 9007199254740992) = z := by rw [nat_join 53 _ _ (by simp [Nat.mul_mod_left]) (by rw [show (2 : Nat) ^ 53 = 9007199254740992 from rfl]; omega)]; omega
       have h4 : (z % 9007199254740992) ||| 4503599627370496 = z % 9007199254740992 + 4503599627370496 := by rw [Nat.or_comm, nat_join 52 _ _ (by decide) (by simpa using hz3)]; omega
       have h6 : z ||| 4503599627370496 = (z / 9007199254740992 * 9007199254740992) ||| ((z % 9007199254740992) ||| 4503599627370496) := by rw [← Nat.or_assoc, hz2]
       rw [h6, h4, nat_join 53 _ _ (by simp [Nat.mul_mod_left]) (by rw [show (2 : Nat) ^ 53 = 9007199254740992 from rfl]; omega)]
       omega
      have h7 : z &&& (18446744073709551615 - 4503599627370496) = z := by
       have e1 : z &&& 18446744073709551615 = z := by
        have := Nat.and_two_pow_sub_one_eq_mod z 64
        rw [show (2 : Nat) ^ 64 - 1 = 18446744073709551615 from rfl] at this
        rw [this]; exact Nat.mod_eq_of_lt (by rw [show (2 : Nat) ^ 64 = 18446744073709551616 from rfl]; omega)
       have e2 : z &&& 18446744073709551615 = (z &&& (18446744073709551615 - 4503599627370496)) ||| (z &&& 4503599627370496) := by
        rw [← Nat.and_or_distrib_left]; rfl
       rw [h5, Nat.or_zero, e1] at e2
       exact e2.symm
      rw [h3, Nat.and_or_distrib_right, h7, show (4503599627370496 : Nat) &&& (18446744073709551615 - 4503599627370496) = 0 from rfl, Nat.or_zero]
     obtain ⟨y, hy⟩ : ∃ y, g + (M + J * 4503599627370496) = y := ⟨_, rfl⟩
     have hm3 : bits .or .u64 (z : Int) ((1075 + ((J : Int) - 1074)) * 4503599627370496) = (y : Int) := by
      obtain ⟨q, hq⟩ : ∃ q, (J + 1) * 4503599627370496 = q := ⟨_, rfl⟩
      obtain ⟨f, hf⟩ : ∃ f, M - 4503599627370496 = f := ⟨_, rfl⟩
      have hqi : (1075 + ((J : Int) - 1074)) * 4503599627370496 = (q : Int) := by omega
      have hq2 : q % 4503599627370496 = 0 := by rw [← hq]; exact Nat.mul_mod_left _ _
      have hqb : q + 4503599627370496 ≤ 9223372036854775808 := by omega
      have hq0 : q = J * 4503599627370496 + 4503599627370496 := by omega
      rw [hf] at hz
      rw [hqi, u64_or_nat z q (by omega) (by omega)]
      have z1 : g ||| f = z := by rw [nat_join 63 g f (by rcases hs with e | e <;> rw [e]) (by rw [show (2 : Nat) ^ 63 = 9223372036854775808 from rfl]; omega)]; exact hz
      have z2 : f ||| q = q + f := by rw [Nat.or_comm, nat_join 52 q f (by simpa using hq2) (by rw [show (2 : Nat) ^ 52 = 4503599627370496 from rfl]; omega)]
      have z3 : g + (q + f) = y := by omega
      rw [← z1, Nat.or_assoc, z2, nat_join 63 g (q + f) (by rcases hs with e | e <;> rw [e]) (by rw [show (2 : Nat) ^ 63 = 9223372036854775808 from rfl]; omega), z3]
     rw [hy]
     have hfr : ∀ w', (callFunc 163 #[.int .u64 (y : Int)]).run Tryz.prog w' = .ok (.value (.float .f64 y)) w' := f64from_run y
     have hge : ¬ 972 ≤ (J : Int) - 1074 := by omega
     clear e hx hs hg hz hy
     go_enter Tryz.func182, Tryz.ntmps182
     go_wp2_with (fail)
     go_ret2
     exact ⟨rfl, rfl⟩
end Go.Proofs.YtonegoemmologaaGreatDoor
