/-
  Contracts of Go's library at the numbers of this seat: written by the shelf's tool in plain words.
  The pieces of the shortest float: log10Pow2, uscale, prescale and their like. Each is total, and a function of its numbers alone.
-/
import Derived.Shelf.Bits.Mul64
import Derived.Shelf.Strconv.Itoa0
import Derived.Shelf.Strconv.Itoa1
import Derived.Shelf.Strconv.Itoa2
import Derived.Shelf.LaysM
import Derived.Test.YtmijjppjodpagaaGreatDoorProg
import Derived.Test.YtmijjppjodpagaaGreatDoorM01
import Derived.BigQuiet
set_option linter.unusedVariables false
set_option linter.unusedSimpArgs false
namespace Go.Proofs
open Go.Shelf
def Tryz.lays264_ren : Go.Shelf.Ren := ⟨fun | 264 => 216 | n => n, fun | 53 => 49 | 46 => 166 | n => n, fun | n => n⟩
theorem Tryz.lays264 : Go.Proofs.Lays.n264 Tryz.prog Tryz.lays264_ren := {
  mixed := by kernel_rfl
  f264 := Tryz.func216.trans (congrArg some (by kernel_rfl))
  t46 := Tryz.underlying166
  a46 := Tryz.isAgg166
  z46 := Tryz.sizeOf166
  v46 := Tryz.zeroValue166
  t53 := Tryz.underlying49
  a53 := Tryz.isAgg49
  z53 := Tryz.sizeOf49
  v53 := Tryz.zeroValue49 }
def Tryz.lays129_ren : Go.Shelf.Ren := ⟨fun | 129 => 133 | n => n, fun | 53 => 49 | 3 => 3 | 4 => 4 | 46 => 166 | 5 => 5 | 9 => 9 | n => n, fun | n => n⟩
theorem Tryz.lays129 : Go.Proofs.Lays.n129 Tryz.prog Tryz.lays129_ren := {
  mixed := by kernel_rfl
  f129 := Tryz.func133.trans (congrArg some (by kernel_rfl))
  t3 := Tryz.underlying3
  a3 := Tryz.isAgg3
  z3 := Tryz.sizeOf3
  v3 := Tryz.zeroValue3
  t4 := Tryz.underlying4
  a4 := Tryz.isAgg4
  z4 := Tryz.sizeOf4
  v4 := Tryz.zeroValue4
  t5 := Tryz.underlying5
  a5 := Tryz.isAgg5
  z5 := Tryz.sizeOf5
  v5 := Tryz.zeroValue5
  t9 := Tryz.underlying9
  a9 := Tryz.isAgg9
  z9 := Tryz.sizeOf9
  v9 := Tryz.zeroValue9
  t46 := Tryz.underlying166
  a46 := Tryz.isAgg166
  z46 := Tryz.sizeOf166
  v46 := Tryz.zeroValue166
  t53 := Tryz.underlying49
  a53 := Tryz.isAgg49
  z53 := Tryz.sizeOf49
  v53 := Tryz.zeroValue49 }
def Tryz.lays283_ren : Go.Shelf.Ren := ⟨fun | 283 => 109 | n => n, fun | 3 => 3 | 9 => 9 | 4 => 4 | n => n, fun | n => n⟩
theorem Tryz.lays283 : Go.Proofs.Lays.n283 Tryz.prog Tryz.lays283_ren := {
  mixed := by kernel_rfl
  f283 := Tryz.func109.trans (congrArg some (by kernel_rfl))
  t3 := Tryz.underlying3
  a3 := Tryz.isAgg3
  z3 := Tryz.sizeOf3
  v3 := Tryz.zeroValue3
  t4 := Tryz.underlying4
  a4 := Tryz.isAgg4
  z4 := Tryz.sizeOf4
  v4 := Tryz.zeroValue4
  t9 := Tryz.underlying9
  a9 := Tryz.isAgg9
  z9 := Tryz.sizeOf9
  v9 := Tryz.zeroValue9 }
def Tryz.laysM284_ren : Go.Shelf.Ren := ⟨fun | 284 => 110 | 129 => 133 | 317 => 132 | 318 => 134 | n => n, fun | 53 => 49 | 3 => 3 | 212 => 197 | 0 => 0 | 4 => 4 | 46 => 166 | 5 => 5 | 9 => 9 | n => n, fun | 17 => 5 | n => n⟩
theorem Tryz.laysM284 : Go.Proofs.LaysM.n284 Tryz.prog Tryz.laysM284_ren := {
  mixed := by kernel_rfl
  f129 := Tryz.func133.trans (congrArg some (by kernel_rfl))
  f284 := Tryz.func110.trans (congrArg some (by kernel_rfl))
  f317 := Tryz.func132.trans (congrArg some (by kernel_rfl))
  f318 := Tryz.func134.trans (congrArg some (by kernel_rfl))
  t0 := Tryz.underlying0
  a0 := Tryz.isAgg0
  z0 := Tryz.sizeOf0
  v0 := Tryz.zeroValue0
  t3 := Tryz.underlying3
  a3 := Tryz.isAgg3
  z3 := Tryz.sizeOf3
  v3 := Tryz.zeroValue3
  t4 := Tryz.underlying4
  a4 := Tryz.isAgg4
  z4 := Tryz.sizeOf4
  v4 := Tryz.zeroValue4
  t5 := Tryz.underlying5
  a5 := Tryz.isAgg5
  z5 := Tryz.sizeOf5
  v5 := Tryz.zeroValue5
  t9 := Tryz.underlying9
  a9 := Tryz.isAgg9
  z9 := Tryz.sizeOf9
  v9 := Tryz.zeroValue9
  t46 := Tryz.underlying166
  a46 := Tryz.isAgg166
  z46 := Tryz.sizeOf166
  v46 := Tryz.zeroValue166
  t53 := Tryz.underlying49
  a53 := Tryz.isAgg49
  z53 := Tryz.sizeOf49
  v53 := Tryz.zeroValue49
  t212 := Tryz.underlying197
  a212 := Tryz.isAgg197
  z212 := Tryz.sizeOf197
  v212 := Tryz.zeroValue197
  g17 := by kernel_rfl
  i0 := by kernel_rfl
  i3 := by kernel_rfl
  i4 := by kernel_rfl
  i5 := by kernel_rfl
  i9 := by kernel_rfl
  i46 := by kernel_rfl
  i53 := by kernel_rfl
  i212 := by kernel_rfl
  m17 := by kernel_rfl }
def Tryz.lays285_ren : Go.Shelf.Ren := ⟨fun | 285 => 111 | n => n, fun | 37 => 31 | 53 => 49 | 3 => 3 | 4 => 4 | 51 => 153 | 9 => 9 | 5 => 5 | 0 => 0 | n => n, fun | n => n⟩
theorem Tryz.lays285 : Go.Proofs.Lays.n285 Tryz.prog Tryz.lays285_ren := {
  mixed := by kernel_rfl
  f285 := Tryz.func111.trans (congrArg some (by kernel_rfl))
  t0 := Tryz.underlying0
  a0 := Tryz.isAgg0
  z0 := Tryz.sizeOf0
  v0 := Tryz.zeroValue0
  t3 := Tryz.underlying3
  a3 := Tryz.isAgg3
  z3 := Tryz.sizeOf3
  v3 := Tryz.zeroValue3
  t4 := Tryz.underlying4
  a4 := Tryz.isAgg4
  z4 := Tryz.sizeOf4
  v4 := Tryz.zeroValue4
  t5 := Tryz.underlying5
  a5 := Tryz.isAgg5
  z5 := Tryz.sizeOf5
  v5 := Tryz.zeroValue5
  t9 := Tryz.underlying9
  a9 := Tryz.isAgg9
  z9 := Tryz.sizeOf9
  v9 := Tryz.zeroValue9
  t37 := Tryz.underlying31
  a37 := Tryz.isAgg31
  z37 := Tryz.sizeOf31
  v37 := Tryz.zeroValue31
  t51 := Tryz.underlying153
  a51 := Tryz.isAgg153
  z51 := Tryz.sizeOf153
  v51 := Tryz.zeroValue153
  t53 := Tryz.underlying49
  a53 := Tryz.isAgg49
  z53 := Tryz.sizeOf49
  v53 := Tryz.zeroValue49 }
end Go.Proofs

namespace Go.Proofs.YtmijjppjodpagaaGreatDoor
open Go.RowKit
/-- A call returns v; the world grows. -/
def Says (w : World) (v : Value) (e : Ending) (w' : World) : Prop := e = .returned v ∧ Keeps (fun _ => False) w w'

theorem mul_any (x y : Nat) (hx : x < 18446744073709551616) (hy : y < 18446744073709551616) (w : World) : 
    Calls Tryz.prog 216 #[.int .u64 x, .int .u64 y] w fun e w' => e = .returned (.tuple #[.int .u64 ((x * y / 18446744073709551616 : Nat) : Int), .int .u64 ((x * y % 18446744073709551616 : Nat) : Int)]) ∧ w' = w := Any.bits_Mul64 Tryz.lays264 x y hx hy w
theorem len64_any (x : Nat) (hx : x < 18446744073709551616) (w : World) : Calls Tryz.prog 133 #[.int .u64 x] w fun e w' => e = .returned (.int .i64 (Lib.bitLen x)) ∧ w' = w := by
  have h := Any.bits_Len64 Tryz.lays129 (x : Int) w (by omega) (by omega)
  exact h
theorem u64_nat (E : Int) (h0 : 0 ≤ E) (h1 : E < 18446744073709551616) : ∃ r : Nat, r < 18446744073709551616 ∧ E = (r : Int) := ⟨E.toNat, by omega, by omega⟩
theorem and63 (n : Int) : bits .and .i64 n 63 = n % 64 := by
  have h127 : (BitVec.ofInt 64 63).toNat = 2 ^ 6 - 1 := by decide
  have key : (BitVec.ofInt 64 n &&& BitVec.ofInt 64 63).toNat = (n % ((2 ^ 64 : Nat) : Int)).toNat % 2 ^ 6 := by
    rw [BitVec.toNat_and, BitVec.toNat_ofInt, h127, Nat.and_two_pow_sub_one_eq_mod]
  show IntKind.i64.wrap ((BitVec.ofInt 64 n &&& BitVec.ofInt 64 63).toNat : Nat) = n % 64
  rw [key, IntKind.wrap_i64]
  omega
theorem wrapu_range (E : Int) : 0 ≤ IntKind.u64.wrap E ∧ IntKind.u64.wrap E < 18446744073709551616 := by
  rw [IntKind.wrap_u64]
  omega
set_option maxRecDepth 1000000 in
set_option maxHeartbeats 4000000 in
theorem bool2_any (b : Bool) (w : World) : Calls Tryz.prog 217 #[.bool b] w fun e w' => e = .returned (.int .u64 (if b then 1 else 0)) ∧ w' = w := by
  go_enter Tryz.func217, Tryz.ntmps217
  cases b
  all_goals go_wp2_with (fail)
  all_goals go_ret
  all_goals exact ⟨rfl, rfl⟩
set_option maxRecDepth 1000000 in
theorem log10_any (x : Int) (h0 : -5000 ≤ x) (h1 : x ≤ 5000) (w : World) : Calls Tryz.prog 132 #[.int .i64 x] w fun e w' => e = .returned (.int .i64 (x * 78913 / 262144)) ∧ w' = w := by
  go_enter Tryz.func132, Tryz.ntmps132
  go_wp2_with (fail)
  go_ret
  exact ⟨rfl, rfl⟩
set_option maxRecDepth 1000000 in
theorem log2_any (x : Int) (h0 : -5000 ≤ x) (h1 : x ≤ 5000) (w : World) : Calls Tryz.prog 190 #[.int .i64 x] w fun e w' => e = .returned (.int .i64 (x * 108853 / 32768)) ∧ w' = w := by
  go_enter Tryz.func190, Tryz.ntmps190
  go_wp2_with (fail)
  go_ret
  exact ⟨rfl, rfl⟩
set_option maxRecDepth 1000000 in
theorem skewed_any (x : Int) (h0 : -5000 ≤ x) (h1 : x ≤ 5000) (w : World) : Calls Tryz.prog 188 #[.int .i64 x] w fun e w' => e = .returned (.int .i64 ((x * 631305 - 261663) / 2097152)) ∧ w' = w := by
  go_enter Tryz.func188, Tryz.ntmps188
  go_wp2_with (fail)
  go_ret
  exact ⟨rfl, rfl⟩
set_option maxRecDepth 1000000 in
theorem ceil_ex (x : Nat) (hx : x < 18446744073709551616) : ∃ r : Nat, r < 18446744073709551616 ∧ ∀ w, Calls Tryz.prog 193 #[.int .u64 (x : Int)] w fun e w' => e = .returned (.int .u64 (r : Int)) ∧ w' = w := by
  obtain ⟨r, hr, he⟩ := u64_nat (IntKind.u64.wrap ((x : Int) + 3) / 4) (by have := wrapu_range ((x : Int) + 3); omega) (by have := wrapu_range ((x : Int) + 3); omega)
  refine ⟨r, hr, fun w => ?_⟩
  have HE := Lib.hid he
  clear he
  go_enter Tryz.func193, Tryz.ntmps193
  go_wp2_with (fail)
  go_ret
  rw [← HE.out]
  exact ⟨rfl, rfl⟩
set_option maxRecDepth 1000000 in
theorem floor_ex (x : Nat) (hx : x < 18446744073709551616) : ∃ r : Nat, r < 18446744073709551616 ∧ ∀ w, Calls Tryz.prog 194 #[.int .u64 (x : Int)] w fun e w' => e = .returned (.int .u64 (r : Int)) ∧ w' = w := by
  obtain ⟨r, hr, he⟩ := u64_nat ((x : Int) / 4) (by omega) (by omega)
  refine ⟨r, hr, fun w => ?_⟩
  have HE := Lib.hid he
  clear he
  go_enter Tryz.func194, Tryz.ntmps194
  go_wp2_with (fail)
  go_ret
  rw [← HE.out]
  exact ⟨rfl, rfl⟩
set_option maxRecDepth 1000000 in
theorem round_ex (x : Nat) (hx : x < 18446744073709551616) : ∃ r : Nat, r < 18446744073709551616 ∧ ∀ w, Calls Tryz.prog 195 #[.int .u64 (x : Int)] w fun e w' => e = .returned (.int .u64 (r : Int)) ∧ w' = w := by
  obtain ⟨r, hr, he⟩ := u64_nat (IntKind.u64.wrap (IntKind.u64.wrap ((x : Int) + 1) + bits .and .u64 ((x : Int) / 4) 1) / 4) (by have := wrapu_range (IntKind.u64.wrap ((x : Int) + 1) + bits .and .u64 ((x : Int) / 4) 1); omega) (by have := wrapu_range (IntKind.u64.wrap ((x : Int) + 1) + bits .and .u64 ((x : Int) / 4) 1); omega)
  refine ⟨r, hr, fun w => ?_⟩
  have HE := Lib.hid he
  clear he
  go_enter Tryz.func195, Tryz.ntmps195
  go_wp2_with (fail)
  go_ret
  rw [← HE.out]
  exact ⟨rfl, rfl⟩
set_option maxRecDepth 1000000 in
theorem nudge_ex (x : Nat) (d : Int) : ∃ r : Nat, r < 18446744073709551616 ∧ ∀ w, Calls Tryz.prog 192 #[.int .u64 (x : Int), .int .i64 d] w fun e w' => e = .returned (.int .u64 (r : Int)) ∧ w' = w := by
  obtain ⟨r, hr, he⟩ := u64_nat (IntKind.u64.wrap ((x : Int) + IntKind.u64.wrap d)) (wrapu_range _).1 (wrapu_range _).2
  refine ⟨r, hr, fun w => ?_⟩
  have HE := Lib.hid he
  clear he
  go_enter Tryz.func192, Tryz.ntmps192
  go_wp2_with (fail)
  go_ret
  rw [← HE.out]
  exact ⟨rfl, rfl⟩
set_option maxRecDepth 1000000 in
set_option maxHeartbeats 4000000 in
theorem uscale_ex (x hi lo : Nat) (S : Int) (hx : x < 18446744073709551616) (hhi : hi < 18446744073709551616) (hlo : lo < 18446744073709551616) : ∃ r : Nat, r < 18446744073709551616 ∧ ∀ (w : World) (c : Nat),
   w.cell? ⟨c, 0, none⟩ = some (.int .u64 (hi : Int)) → w.cell? ⟨c, 1, none⟩ = some (.int .u64 (lo : Int)) → w.cell? ⟨c, 2, none⟩ = some (.int .i64 S) → 
   Calls Tryz.prog 191 #[.int .u64 (x : Int), .pointer (some ⟨c, 0, none⟩)] w (Says w (.int .u64 (r : Int))) := by
  obtain ⟨a, ha⟩ : ∃ a, x * hi / 18446744073709551616 = a := ⟨_, rfl⟩
  obtain ⟨b, hb⟩ : ∃ a, x * hi % 18446744073709551616 = a := ⟨_, rfl⟩
  obtain ⟨g, hg⟩ : ∃ a, x * lo / 18446744073709551616 = a := ⟨_, rfl⟩
  obtain ⟨k, hk⟩ : ∃ a, x * lo % 18446744073709551616 = a := ⟨_, rfl⟩
  have M1 := Lib.hid (mul_any x hi hx hhi)
  have M2 := Lib.hid (mul_any x lo hx hlo)
  rw [ha, hb] at M1
  rw [hg, hk] at M2
  clear ha hb hg hk
  obtain ⟨s, hs⟩ : ∃ s : Nat, S % 64 = (s : Int) := ⟨(S % 64).toNat, by omega⟩
  have hsn : bits .and .i64 S 63 = (s : Int) := by rw [and63, hs]
  by_cases h1 : (IntKind.u64.wrap ((a : Int) / 2 ^ s * 2 ^ s) != (a : Int)) = true
  · obtain ⟨r, hr, he⟩ := u64_nat (bits .or .u64 ((a : Int) / 2 ^ s) 1) (wrapu_range _).1 (wrapu_range _).2
    refine ⟨r, hr, fun w c c0 c1 c2 => ?_⟩
    have HE := Lib.hid he
    clear he
    go_enter Tryz.func191, Tryz.ntmps191
    go_wp2_with (first | (go_at_call 216; with_reducible refine (M1.out _).mono ?_; rintro e w' ⟨rfl, rfl⟩))
    go_ret
    rw [← HE.out]
    exact ⟨rfl, Keeps.refl _ _⟩
  · have h1f : (IntKind.u64.wrap ((a : Int) / 2 ^ s * 2 ^ s) != (a : Int)) = false := by simpa using h1
    clear h1
    obtain ⟨t, ht⟩ : ∃ t : Int, (if decide (b < g) = true then 1 else 0) = t := ⟨_, rfl⟩
    have B1 := Lib.hid (bool2_any (decide (b < g)))
    rw [ht] at B1
    clear ht
    obtain ⟨q, hq⟩ : ∃ q : Bool, decide (1 < IntKind.u64.wrap ((b : Int) - (g : Int))) = q := ⟨_, rfl⟩
    cases q
    · obtain ⟨r, hr, he⟩ := u64_nat (bits .or .u64 (IntKind.u64.wrap ((a : Int) - t) / 2 ^ s) 0) (wrapu_range _).1 (wrapu_range _).2
      refine ⟨r, hr, fun w c c0 c1 c2 => ?_⟩
      have HE := Lib.hid he
      clear he
      go_enter Tryz.func191, Tryz.ntmps191
      go_wp2_with (first | (go_at_call 216; with_reducible refine (M1.out _).mono ?_; rintro e w' ⟨rfl, rfl⟩)  | (go_at_call 216; with_reducible refine (M2.out _).mono ?_; rintro e w' ⟨rfl, rfl⟩) | (go_at_call 217; with_reducible refine (B1.out _).mono ?_; rintro e w' ⟨rfl, rfl⟩))
      go_quiet ((go_at_call 217; exact Calls.quiet_of_same (bool2_any _ _)))
      go_wp2_with (fail)
      go_ret
      rw [← HE.out]
      exact ⟨rfl, (Keeps.refl _ _).drewN _⟩
    · obtain ⟨r, hr, he⟩ := u64_nat (bits .or .u64 (IntKind.u64.wrap ((a : Int) - t) / 2 ^ s) 1) (wrapu_range _).1 (wrapu_range _).2
      refine ⟨r, hr, fun w c c0 c1 c2 => ?_⟩
      have HE := Lib.hid he
      clear he
      go_enter Tryz.func191, Tryz.ntmps191
      go_wp2_with (first | (go_at_call 216; with_reducible refine (M1.out _).mono ?_; rintro e w' ⟨rfl, rfl⟩)  | (go_at_call 216; with_reducible refine (M2.out _).mono ?_; rintro e w' ⟨rfl, rfl⟩) | (go_at_call 217; with_reducible refine (B1.out _).mono ?_; rintro e w' ⟨rfl, rfl⟩))
      go_quiet ((go_at_call 217; exact Calls.quiet_of_same (bool2_any _ _)))
      go_wp2_with (fail)
      go_ret
      rw [← HE.out]
      exact ⟨rfl, (Keeps.refl _ _).drewN _⟩

/-- The table of powers of ten lies as PT. -/
def P10At (PT : Nat → Nat × Nat) (w : World) : Prop := ∀ i, i < 696 → w.cell? ⟨9, i * 2, none⟩ = some (.int .u64 ((PT i).1 : Int)) ∧ w.cell? ⟨9, i * 2 + 1, none⟩ = some (.int .u64 ((PT i).2 : Int)) ∧ (PT i).1 < 18446744073709551616 ∧ (PT i).2 < 18446744073709551616

set_option maxRecDepth 1000000 in
set_option maxHeartbeats 4000000 in
theorem prescale_any (PT : Nat → Nat × Nat) (c : Nat) (v0 v1 v2 : Value) (e lp : Int) (i : Nat) (hi : i < 696) (he : -5000 ≤ e) (he2 : e ≤ 5000) (hl : -5000 ≤ lp) (hl2 : lp ≤ 5000) (w : World) (hT : P10At PT w) (hc : w.heap[c]? = some (.cells #[v0, v1, v2] 239 (0, 0))) (hcg : 9 ≠ c) :
    Calls Tryz.prog 189 #[.pointer (some ⟨c, 0, none⟩), .int .i64 e, .int .i64 ((i : Int) - 348), .int .i64 lp] w fun en w' => en = .returned (.tuple #[]) ∧ w'.heap[c]? = some (.cells #[.int .u64 ((PT i).1 : Int), .int .u64 ((PT i).2 : Int), .int .i64 (-(e + lp + 3))] 239 (0, 0)) ∧ Keeps (fun k => k = c) w w' := by
  obtain ⟨g0, g1, g2, g3⟩ := hT i hi
  have f0 := frozen_row (j := 0) hc
  have f1 := frozen_row (j := 1) hc
  have f2 := frozen_row (j := 2) hc
  have l0 := cell_row (j := 0) hc
  have l1 := cell_row (j := 1) hc
  have l2 := cell_row (j := 2) hc
  simp at l0 l1 l2
  go_enter Tryz.func189, Tryz.ntmps189
  go_wp2_with (fail)
  go_end0
  refine ⟨rfl, ?_, ?_⟩
  · rw [setCell_row (setCell_row (setCell_row hc _) _) _]
    rfl
  · exact ((((Keeps.refl (fun k => k = c) w).setCell ⟨c, 0, none⟩ (fun _ => rfl) _).setCell ⟨c, 1, none⟩ (fun _ => rfl) _).setCell ⟨c, 2, none⟩ (fun _ => rfl) _)
end Go.Proofs.YtmijjppjodpagaaGreatDoor
