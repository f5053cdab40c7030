/-
  ftoa64 and ftoa32 at the form 'g' with as many digits as are needed: total, and functions of the bits (and of the tables).
-/
import Derived.Test.YtmijjppjodpagaaGreatDoorM03
import Derived.Test.YtmijjppjodpagaaGreatDoorM05
import Derived.Test.YtmijjppjodpagaaGreatDoorM06
import Derived.Test.YtmijjppjodpagaaGreatDoorM07
import Derived.Test.YtmijjppjodpagaaGreatDoorM08
import Derived.Test.YtmijjppjodpagaaGreatDoorM09
import Derived.Test.YtmijjppjodpagaaGreatDoorM10
import Derived.Deep.RegionHeld3
import Derived.Laws.BitsAllLaws
set_option linter.unusedVariables false
set_option linter.unusedSimpArgs false
namespace Go.Proofs.YtmijjppjodpagaaGreatDoor
open Go.RowKit
theorem f64bits_run (f : Nat) (w : World) : (callFunc 157 #[.float .f64 f]).run Tryz.prog w = .ok (.value (.int .u64 (f : Int))) w := by
  rw [run_callFunc_extern Tryz.func157 (e := Extern.MathFloatBits.float64bits) (by kernel_rfl) (by kernel_rfl) (by kernel_rfl) (by kernel_rfl)]
  rfl
theorem f32bits_run (f : Nat) (w : World) : (callFunc 156 #[.float .f32 f]).run Tryz.prog w = .ok (.value (.int .u32 (f : Int))) w := by
  rw [run_callFunc_extern Tryz.func156 (e := Extern.MathFloatBits.float32bits) (by kernel_rfl) (by kernel_rfl) (by kernel_rfl) (by kernel_rfl)]
  rfl
/-- fmtEFG at 'g', the digits as they are: a function of its numbers. -/
theorem fmtEFG_ex (neg : Bool) (nd : Nat) (dp : Int) (f : Nat → UInt8) (hnd : nd ≤ 20) (hdp : -500 ≤ dp) (hdp2 : dp ≤ 520) : ∃ T : List UInt8, T.length ≤ 1000 ∧ ∀ (w : World) (v : Value) (l : List UInt8) (B : Nat), Own w v l → ¬ v.ownBlock = some B → Digs w B nd f → l.length ≤ 140737488350000 →
      Calls Tryz.prog 160 #[v, .bool neg, .slice (some ⟨B, 0, none⟩) 32 32, .int .i64 dp, .int .i64 (nd : Int), .int .i64 (nd : Int), .int .u8 103, .bool true] w (OutRes w v (l ++ T)) := by
  rcases Int.lt_or_le (dp - 1) (-4) with h | h
  · obtain ⟨X, hX⟩ : ∃ X : Nat, dp - 1 = -(X : Int) := ⟨(1 - dp).toNat, by omega⟩
    cases neg
    · rcases Nat.lt_trichotomy nd 1 with h1 | h1 | h1
      · exact fmtE_false_0_m false nd dp f rfl hnd hdp hdp2 h (by omega)
      · exact fmtE_false_1_m false nd X dp f rfl hnd hdp hdp2 hX (by omega) h1
      · exact fmtE_false_2_m false nd X dp f rfl hnd hdp hdp2 hX (by omega) h1
    · rcases Nat.lt_trichotomy nd 1 with h1 | h1 | h1
      · exact fmtE_true_0_m true nd dp f rfl hnd hdp hdp2 h (by omega)
      · exact fmtE_true_1_m true nd X dp f rfl hnd hdp hdp2 hX (by omega) h1
      · exact fmtE_true_2_m true nd X dp f rfl hnd hdp hdp2 hX (by omega) h1
  rcases Int.lt_or_le (dp - 1) 6 with h6 | h6
  · rcases Int.lt_or_le 0 dp with h0 | h0
    · obtain ⟨q, rfl⟩ : ∃ q : Nat, dp = (q : Int) := ⟨dp.toNat, by omega⟩
      rcases Nat.lt_or_ge q nd with hq | hq
      · obtain ⟨r, hr⟩ : ∃ r, nd = q + r := ⟨nd - q, by omega⟩
        cases neg
        · exact ⟨_, by simp [ds_length]; omega, fmtF_B_false nd q r f hnd (by omega) (by omega) hr (by omega)⟩
        · exact ⟨_, by simp [ds_length]; omega, fmtF_B_true nd q r f hnd (by omega) (by omega) hr (by omega)⟩
      · obtain ⟨z, hz⟩ : ∃ z, nd + z = q := ⟨q - nd, by omega⟩
        cases neg
        · exact ⟨_, by simp [ds_length]; omega, fmtF_A_false nd q z f hnd (by omega) (by omega) hz⟩
        · exact ⟨_, by simp [ds_length]; omega, fmtF_A_true nd q z f hnd (by omega) (by omega) hz⟩
    · obtain ⟨q, hq⟩ : ∃ q : Nat, dp = -(q : Int) := ⟨(-dp).toNat, by omega⟩
      subst hq
      by_cases hr : nd + q = 0
      · obtain rfl : q = 0 := by omega
        cases neg
        · exact ⟨_, by simp, fmtF_D_false nd 0 f hnd (by omega) rfl⟩
        · exact ⟨_, by simp, fmtF_D_true nd 0 f hnd (by omega) rfl⟩
      · cases neg
        · exact ⟨_, by simp [ds_length]; omega, fmtF_C_false nd q (nd + q) f hnd (by omega) rfl (by omega)⟩
        · exact ⟨_, by simp [ds_length]; omega, fmtF_C_true nd q (nd + q) f hnd (by omega) rfl (by omega)⟩
  · obtain ⟨X, hX⟩ : ∃ X : Nat, dp - 1 = (X : Int) := ⟨(dp - 1).toNat, by omega⟩
    cases neg
    · rcases Nat.lt_trichotomy nd 1 with h1 | h1 | h1
      · exact fmtE_false_0_p false nd dp f rfl hnd hdp hdp2 h6 (by omega)
      · exact fmtE_false_1_p false nd X dp f rfl hnd hdp hdp2 hX (by omega) h1
      · exact fmtE_false_2_p false nd X dp f rfl hnd hdp hdp2 hX (by omega) h1
    · rcases Nat.lt_trichotomy nd 1 with h1 | h1 | h1
      · exact fmtE_true_0_p true nd dp f rfl hnd hdp hdp2 h6 (by omega)
      · exact fmtE_true_1_p true nd X dp f rfl hnd hdp hdp2 hX (by omega) h1
      · exact fmtE_true_2_p true nd X dp f rfl hnd hdp hdp2 hX (by omega) h1

theorem OutRes.rebase {w w3 : World} {v : Value} {L : List UInt8} {e : Ending} {w' : World} (hk : Keeps (fun _ => False) w w3) (h : OutRes w3 v L e w') : OutRes w v L e w' := by
  obtain ⟨v', rfl, ho⟩ := h
  refine ⟨v', rfl, ho.own, (hk.mono (S1 := blk v) (fun _ _ h => h.elim)).trans ho.keeps (fun i _ h => h), fun k hk2 => ?_, fun l0 h0 => ho.pre l0 (h0.below hk)⟩
  rcases ho.moved k hk2 with h | h
  · exact .inl h
  · exact .inr (Nat.le_trans hk.size h)
theorem mask_nat (k : IntKind) : True := trivial
theorem norm_ex (m : Nat) (h1 : 1 ≤ m) (h2 : m < 2 ^ 63) : ∃ s : Nat, Lib.bitLen m + s = 64 ∧ 1 ≤ s ∧ s ≤ 63 ∧ 2 ^ 63 ≤ m * 2 ^ s ∧ m * 2 ^ s < 2 ^ 64 := by
  obtain ⟨a, b, c⟩ := Lib.bitLenAux_bounds 64 m (by omega) (by omega)
  have e : Lib.bitLen m = Lib.bitLenAux 64 m := rfl
  rw [← e] at a b c
  have d := Lib.bitLen_le m 63 (by omega) h2
  obtain ⟨L, hL⟩ : ∃ L, Lib.bitLen m = L := ⟨_, rfl⟩
  rw [hL] at a b c d ⊢
  refine ⟨64 - L, by omega, by omega, by omega, ?_, ?_⟩
  · calc 2 ^ 63 = 2 ^ (L - 1) * 2 ^ (64 - L) := by rw [← Nat.pow_add]; congr 1; omega
      _ ≤ _ := Nat.mul_le_mul_right _ b
  · calc m * 2 ^ (64 - L) < 2 ^ L * 2 ^ (64 - L) := Nat.mul_lt_mul_of_pos_right c (Nat.two_pow_pos _)
      _ = 2 ^ 64 := by rw [← Nat.pow_add]; congr 1; omega
/-- The tables that AppendFloat reads. -/
structure FT2 (PT : Nat → Nat × Nat) (w : World) : Prop where
  p10 : P10At PT w
  ten : Ten w
  size : 9 < w.heap.size ∧ 5 < w.heap.size
theorem FT2.keeps {PT : Nat → Nat × Nat} {w w' : World} (h : FT2 PT w) (hk : Keeps (fun _ => False) w w') : FT2 PT w' := ⟨h.p10.keeps hk, h.ten.keeps hk id, Nat.lt_of_lt_of_le h.size.1 hk.size, Nat.lt_of_lt_of_le h.size.2 hk.size⟩
theorem mask_i64_11 (n : Int) : bits .and .i64 n 2047 = n % 2048 := by
  have h127 : (BitVec.ofInt 64 2047).toNat = 2 ^ 11 - 1 := by decide
  have key : (BitVec.ofInt 64 n &&& BitVec.ofInt 64 2047).toNat = (n % ((2 ^ 64 : Nat) : Int)).toNat % 2 ^ 11 := by
    rw [BitVec.toNat_and, BitVec.toNat_ofInt, h127, Nat.and_two_pow_sub_one_eq_mod]
  show IntKind.i64.wrap ((BitVec.ofInt 64 n &&& BitVec.ofInt 64 2047).toNat : Nat) = n % 2048
  rw [key, IntKind.wrap_i64]
  omega
theorem mask_i64_8 (n : Int) : bits .and .i64 n 255 = n % 256 := by
  have h127 : (BitVec.ofInt 64 255).toNat = 2 ^ 8 - 1 := by decide
  have key : (BitVec.ofInt 64 n &&& BitVec.ofInt 64 255).toNat = (n % ((2 ^ 64 : Nat) : Int)).toNat % 2 ^ 8 := by
    rw [BitVec.toNat_and, BitVec.toNat_ofInt, h127, Nat.and_two_pow_sub_one_eq_mod]
  show IntKind.i64.wrap ((BitVec.ofInt 64 n &&& BitVec.ofInt 64 255).toNat : Nat) = n % 256
  rw [key, IntKind.wrap_i64]
  omega
theorem mask_u64_52 (n : Int) (h0 : 0 ≤ n) (h1 : n < 18446744073709551616) : bits .and .u64 n 4503599627370495 = n % 4503599627370496 := by
  have h127 : (BitVec.ofInt 64 4503599627370495).toNat = 2 ^ 52 - 1 := by decide
  have key : (BitVec.ofInt 64 n &&& BitVec.ofInt 64 4503599627370495).toNat = (n % ((2 ^ 64 : Nat) : Int)).toNat % 2 ^ 52 := by
    rw [BitVec.toNat_and, BitVec.toNat_ofInt, h127, Nat.and_two_pow_sub_one_eq_mod]
  show IntKind.u64.wrap ((BitVec.ofInt 64 n &&& BitVec.ofInt 64 4503599627370495).toNat : Nat) = n % 4503599627370496
  rw [key, IntKind.wrap_u64]
  omega
theorem mask_u64_23 (n : Int) (h0 : 0 ≤ n) (h1 : n < 18446744073709551616) : bits .and .u64 n 8388607 = n % 8388608 := by
  have h127 : (BitVec.ofInt 64 8388607).toNat = 2 ^ 23 - 1 := by decide
  have key : (BitVec.ofInt 64 n &&& BitVec.ofInt 64 8388607).toNat = (n % ((2 ^ 64 : Nat) : Int)).toNat % 2 ^ 23 := by
    rw [BitVec.toNat_and, BitVec.toNat_ofInt, h127, Nat.and_two_pow_sub_one_eq_mod]
  show IntKind.u64.wrap ((BitVec.ofInt 64 n &&& BitVec.ofInt 64 8388607).toNat : Nat) = n % 8388608
  rw [key, IntKind.wrap_u64]
  omega
set_option maxRecDepth 1000000 in
set_option maxHeartbeats 40000000 in
theorem ftoa64_norm (PT : Nat → Nat × Nat) (hPT : ∀ i, i < 696 → (PT i).1 < 18446744073709551616 ∧ (PT i).2 < 18446744073709551616) (b : Nat) (hb64 : b < 18446744073709551616) (E M : Nat) (neg : Bool) (hE : bits .and .i64 ((b : Int) / 4503599627370496) 2047 = (E : Int)) (hM : bits .and .u64 (b : Int) 4503599627370495 = (M : Int)) (hN : ((b : Int) / 9223372036854775808 != 0) = neg) (hE2 : E ≤ 2047) (hM2 : M < 4503599627370496) (h1 : ¬ (E : Int) = 2047) (h2 : ¬ (E : Int) = 0) : ∃ T : List UInt8, T.length ≤ 1000 ∧ ∀ (w : World) (v : Value) (l : List UInt8), FT2 PT w → Own w v l → l.length ≤ 140737488350000 →
      Calls Tryz.prog 131 #[v, .float .f64 b, .int .u8 103, .int .i64 (-1)] w (OutRes w v (l ++ T)) := by
  have h1' : ((E : Int) == 2047) = false := by simpa using h1
  have h2' : ((E : Int) == 0) = false := by simpa using h2
  obtain ⟨m, hm0⟩ : ∃ m, M ||| 4503599627370496 = m := ⟨_, rfl⟩
  have hm3 : bits .or .u64 (M : Int) 4503599627370496 = (m : Int) := by rw [← hm0]; exact u64_or_nat M 4503599627370496 (by omega) (by omega)
  have hm1 : 1 ≤ m := by rw [← hm0]; exact Nat.le_trans (by omega) Nat.right_le_or
  have hm2 : m < 2 ^ 63 := by rw [← hm0]; exact Nat.lt_of_lt_of_le (Nat.or_lt_two_pow (n := 53) (by omega) (by omega)) (by omega)
  have hm4 : ((m : Int) == 0) = false := by simp; omega
  clear hm0
  obtain ⟨x, hx⟩ : ∃ x : Int, (E : Int) + -1023 = x := ⟨_, rfl⟩
  obtain ⟨s, hs1, hs2, hs3, hs4, hs5⟩ := norm_ex m hm1 hm2
  obtain ⟨mm, hmm⟩ : ∃ mm, m * 2 ^ s = mm := ⟨_, rfl⟩
  rw [hmm] at hs4 hs5
  obtain ⟨L, hL⟩ : ∃ L, Lib.bitLen m = L := ⟨_, rfl⟩
  obtain ⟨e, he⟩ : ∃ e : Int, x - (s : Int) - 52 = e := ⟨_, rfl⟩
  obtain ⟨d, p, hd, hp1, hp2, hsf⟩ := short64_ex PT hPT mm e hs4 (by omega) (by omega) (by omega)
  obtain ⟨nd, hnd, hnd2, hnum⟩ := numDigits_ex d hd
  obtain ⟨fd, hfd⟩ : ∃ fd : Nat → UInt8, (fun j => Lib.dg d (nd - 1 - j)) = fd := ⟨_, rfl⟩
  obtain ⟨nz, hnz⟩ : ∃ nz, strip nd fd = nz := ⟨_, rfl⟩
  have hnzl : nz ≤ nd := by rw [← hnz]; exact strip_le nd fd
  obtain ⟨T, hT, hfmt⟩ := fmtEFG_ex neg nz ((nd : Int) + p) fd (by omega) (by omega) (by omega)
  have hset : Hid (∀ (w : World) (B : Nat), ZeroRow w B 32 → Calls Tryz.prog 162 #[.slice (some ⟨B, 0, none⟩) 32 32, .int .u64 (d : Int), .int .i64 p, .int .i64 (nd : Int)] w fun e w' => e = .returned (.tuple #[.int .i64 ((nd : Int) + p), .int .i64 (nz : Int)]) ∧ Keeps (fun k => k = B) w w' ∧ Digs w' B nz fd) := fun w B hz => (setDigits_any d nd p hd hnd hnd2 (by omega) (by omega) w B hz).mono fun e w' h => by
    rw [hfd, hnz] at h
    exact ⟨h.1, h.2.1, fun j hj => by rw [h.2.2 j (by omega)]; rw [← hfd]⟩
  have HLEN := Lib.hid (len64_any m (by omega))
  rw [hL] at HLEN
  have HNUM := Lib.hid hnum
  have HSF := Lib.hid hsf
  have HFMT := Lib.hid hfmt
  have hsub : (64 : Int) - (L : Int) = (s : Int) := by omega
  have hs64 : s < 64 := by omega
  have hsh : IntKind.u64.wrap ((m : Int) * 2 ^ s) = (mm : Int) := by
    rw [← hmm, IntKind.wrap_u64]
    have : ((m * 2 ^ s : Nat) : Int) = (m : Int) * 2 ^ s := by push_cast; rfl
    rw [← this]
    omega
  clear hL hs1 hs2 hs3 hs4 hfd hnz hsf hnum hfmt hmm
  refine ⟨T, hT, fun w v l hTab hown hb => ?_⟩
  have HOWN := Lib.hid hown
  have HTAB := Lib.hid hTab
  clear hown hTab
  have hfb := f64bits_run b
  go_enter Tryz.func131, Tryz.ntmps131
  go_wp2_with (fail)
  go_quiet (fail)
  go_upto_region 34 with (fail)
  obtain ⟨W1, hW1⟩ : ∃ W, (w.drewN nq).alloc (.cells #[.int .u8 0, .int .u8 0, .int .u8 0, .int .u8 0, .int .u8 0, .int .u8 0, .int .u8 0, .int .u8 0, .int .u8 0, .int .u8 0, .int .u8 0, .int .u8 0, .int .u8 0, .int .u8 0, .int .u8 0, .int .u8 0, .int .u8 0, .int .u8 0, .int .u8 0, .int .u8 0, .int .u8 0, .int .u8 0, .int .u8 0, .int .u8 0, .int .u8 0, .int .u8 0, .int .u8 0, .int .u8 0, .int .u8 0, .int .u8 0, .int .u8 0, .int .u8 0] 219) = W := ⟨_, rfl⟩
  have hk1 : Keeps (fun _ => False) w W1 := by rw [← hW1]; exact ((Keeps.refl _ w).drewN _).alloc _
  have hz1 : ZeroRow W1 w.heap.size 32 := by rw [← hW1]; exact ⟨_, heap_alloc_new (w.drewN nq) _⟩
  have hlt1 : w.heap.size < W1.heap.size := by rw [← hW1]; simp [World.drewN]
  rw [hW1]
  have hvb : ∀ k, v.ownBlock = some k → k < w.heap.size := HOWN.out.lt
  obtain ⟨K, hK⟩ : ∃ K, w.heap.size = K := ⟨_, rfl⟩
  have hKw : w.heap.size ≤ K := Nat.le_of_eq hK
  rw [hK] at hz1 hlt1 hvb ⊢
  have HKW := Lib.hid hKw
  have HVB : Hid (¬ v.ownBlock = some K) := fun e => absurd (hvb K e) (Nat.lt_irrefl _)
  have HK1 := Lib.hid hk1
  have HZ1 := Lib.hid hz1
  have HLT1 := Lib.hid hlt1
  clear hW1 hk1 hz1 hK hKw hvb hlt1
  go_wp2_with (first
    | (go_at_call 133; refine (HLEN.out _).mono ?_; rintro en w' ⟨rfl, hww⟩; obtain rfl := hww.symm)
    | (go_at_call 167; refine (HSF.out _ ((HTAB.out.keeps HK1.out).p10) (HTAB.out.keeps HK1.out).size.1).mono ?_; rintro en w2 ⟨rfl, k2⟩; have K2 := Lib.hid k2; clear k2))
  have HTEN : Hid (∀ wx, Keeps (fun _ => False) w2 wx → Ten wx) := fun wx h => (((HTAB.out.keeps HK1.out).keeps K2.out).keeps h).ten
  have HZZ : Hid (∀ wx, Keeps (fun _ => False) w2 wx → ZeroRow wx K 32) := fun wx h => by
    obtain ⟨T, ht⟩ := HZ1.out
    exact ⟨T, (K2.out.trans h (fun _ _ h => h)).row ht id⟩
  go_region_held3 (fun _ => True) (trivial) (first
    | ((go_at_call 110; refine (HNUM.out _ (HTEN.out _ (by repeat (first | exact Keeps.refl _ _ | apply Keeps.drew)))).mono ?_; rintro en w' ⟨rfl, hww⟩; obtain rfl := hww.symm))
    | ((go_at_call 162; refine (hset.out _ _ (HZZ.out _ (by repeat (first | exact Keeps.refl _ _ | apply Keeps.drew)))).mono ?_; rintro en w3 ⟨rfl, k3, d3⟩; have K3 : Hid (Keeps (fun _ => False) w w3) := ((HK1.out.trans K2.out (fun _ _ h => h)).trans (by repeat (first | exact Keeps.refl _ _ | apply Keeps.drew)) (fun _ _ (h : False) => h)).trans k3 (fun i hi e => by have := HKW.out; omega); have D3 := Lib.hid d3; clear k3 d3)))
  all_goals go_wp2_with (go_at_call 160; refine (HFMT.out _ v l K (HOWN.out.below K3.out) HVB.out D3.out hb).mono ?_; rintro en w4 ⟨v4, rfl, o4⟩; have O4 := Lib.hid o4; clear o4)
  all_goals go_ret
  all_goals exact OutRes.rebase K3.out ⟨v4, rfl, O4.out⟩

set_option maxRecDepth 1000000 in
set_option maxHeartbeats 40000000 in
theorem ftoa64_sub (PT : Nat → Nat × Nat) (hPT : ∀ i, i < 696 → (PT i).1 < 18446744073709551616 ∧ (PT i).2 < 18446744073709551616) (b : Nat) (hb64 : b < 18446744073709551616) (E M : Nat) (neg : Bool) (hE : bits .and .i64 ((b : Int) / 4503599627370496) 2047 = (E : Int)) (hM : bits .and .u64 (b : Int) 4503599627370495 = (M : Int)) (hN : ((b : Int) / 9223372036854775808 != 0) = neg) (hE2 : E ≤ 2047) (hM2 : M < 4503599627370496) (h1 : ¬ (E : Int) = 2047) (h2 : (E : Int) = 0) (h3 : ¬ (M : Int) = 0) : ∃ T : List UInt8, T.length ≤ 1000 ∧ ∀ (w : World) (v : Value) (l : List UInt8), FT2 PT w → Own w v l → l.length ≤ 140737488350000 →
      Calls Tryz.prog 131 #[v, .float .f64 b, .int .u8 103, .int .i64 (-1)] w (OutRes w v (l ++ T)) := by
  have h1' : ((E : Int) == 2047) = false := by simpa using h1
  have h2' : ((E : Int) == 0) = true := by simpa using h2
  obtain ⟨m, hm0⟩ : ∃ m, M = m := ⟨_, rfl⟩
  subst hm0
  have hm1 : 1 ≤ M := by omega
  have hm2 : M < 2 ^ 63 := by omega
  have hm4 : ((M : Int) == 0) = false := by simp; omega
  obtain ⟨s, hs1, hs2, hs3, hs4, hs5⟩ := norm_ex M hm1 hm2
  obtain ⟨mm, hmm⟩ : ∃ mm, M * 2 ^ s = mm := ⟨_, rfl⟩
  rw [hmm] at hs4 hs5
  obtain ⟨L, hL⟩ : ∃ L, Lib.bitLen M = L := ⟨_, rfl⟩
  obtain ⟨e, he⟩ : ∃ e : Int, (-1022) - (s : Int) - 52 = e := ⟨_, rfl⟩
  obtain ⟨d, p, hd, hp1, hp2, hsf⟩ := short64_ex PT hPT mm e hs4 (by omega) (by omega) (by omega)
  obtain ⟨nd, hnd, hnd2, hnum⟩ := numDigits_ex d hd
  obtain ⟨fd, hfd⟩ : ∃ fd : Nat → UInt8, (fun j => Lib.dg d (nd - 1 - j)) = fd := ⟨_, rfl⟩
  obtain ⟨nz, hnz⟩ : ∃ nz, strip nd fd = nz := ⟨_, rfl⟩
  have hnzl : nz ≤ nd := by rw [← hnz]; exact strip_le nd fd
  obtain ⟨T, hT, hfmt⟩ := fmtEFG_ex neg nz ((nd : Int) + p) fd (by omega) (by omega) (by omega)
  have hset : Hid (∀ (w : World) (B : Nat), ZeroRow w B 32 → Calls Tryz.prog 162 #[.slice (some ⟨B, 0, none⟩) 32 32, .int .u64 (d : Int), .int .i64 p, .int .i64 (nd : Int)] w fun e w' => e = .returned (.tuple #[.int .i64 ((nd : Int) + p), .int .i64 (nz : Int)]) ∧ Keeps (fun k => k = B) w w' ∧ Digs w' B nz fd) := fun w B hz => (setDigits_any d nd p hd hnd hnd2 (by omega) (by omega) w B hz).mono fun e w' h => by
    rw [hfd, hnz] at h
    exact ⟨h.1, h.2.1, fun j hj => by rw [h.2.2 j (by omega)]; rw [← hfd]⟩
  have HLEN := Lib.hid (len64_any M (by omega))
  rw [hL] at HLEN
  have HNUM := Lib.hid hnum
  have HSF := Lib.hid hsf
  have HFMT := Lib.hid hfmt
  have hsub : (64 : Int) - (L : Int) = (s : Int) := by omega
  have hs64 : s < 64 := by omega
  have hsh : IntKind.u64.wrap ((M : Int) * 2 ^ s) = (mm : Int) := by
    rw [← hmm, IntKind.wrap_u64]
    have : ((M * 2 ^ s : Nat) : Int) = (M : Int) * 2 ^ s := by push_cast; rfl
    rw [← this]
    omega
  clear hL hs1 hs2 hs3 hs4 hfd hnz hsf hnum hfmt hmm
  refine ⟨T, hT, fun w v l hTab hown hb => ?_⟩
  have HOWN := Lib.hid hown
  have HTAB := Lib.hid hTab
  clear hown hTab
  have hfb := f64bits_run b
  go_enter Tryz.func131, Tryz.ntmps131
  go_wp2_with (fail)
  go_quiet (fail)
  go_upto_region 34 with (fail)
  obtain ⟨W1, hW1⟩ : ∃ W, (w.drewN nq).alloc (.cells #[.int .u8 0, .int .u8 0, .int .u8 0, .int .u8 0, .int .u8 0, .int .u8 0, .int .u8 0, .int .u8 0, .int .u8 0, .int .u8 0, .int .u8 0, .int .u8 0, .int .u8 0, .int .u8 0, .int .u8 0, .int .u8 0, .int .u8 0, .int .u8 0, .int .u8 0, .int .u8 0, .int .u8 0, .int .u8 0, .int .u8 0, .int .u8 0, .int .u8 0, .int .u8 0, .int .u8 0, .int .u8 0, .int .u8 0, .int .u8 0, .int .u8 0, .int .u8 0] 219) = W := ⟨_, rfl⟩
  have hk1 : Keeps (fun _ => False) w W1 := by rw [← hW1]; exact ((Keeps.refl _ w).drewN _).alloc _
  have hz1 : ZeroRow W1 w.heap.size 32 := by rw [← hW1]; exact ⟨_, heap_alloc_new (w.drewN nq) _⟩
  have hlt1 : w.heap.size < W1.heap.size := by rw [← hW1]; simp [World.drewN]
  rw [hW1]
  have hvb : ∀ k, v.ownBlock = some k → k < w.heap.size := HOWN.out.lt
  obtain ⟨K, hK⟩ : ∃ K, w.heap.size = K := ⟨_, rfl⟩
  have hKw : w.heap.size ≤ K := Nat.le_of_eq hK
  rw [hK] at hz1 hlt1 hvb ⊢
  have HKW := Lib.hid hKw
  have HVB : Hid (¬ v.ownBlock = some K) := fun e => absurd (hvb K e) (Nat.lt_irrefl _)
  have HK1 := Lib.hid hk1
  have HZ1 := Lib.hid hz1
  have HLT1 := Lib.hid hlt1
  clear hW1 hk1 hz1 hK hKw hvb hlt1
  go_wp2_with (first
    | (go_at_call 133; refine (HLEN.out _).mono ?_; rintro en w' ⟨rfl, hww⟩; obtain rfl := hww.symm)
    | (go_at_call 167; refine (HSF.out _ ((HTAB.out.keeps HK1.out).p10) (HTAB.out.keeps HK1.out).size.1).mono ?_; rintro en w2 ⟨rfl, k2⟩; have K2 := Lib.hid k2; clear k2))
  have HTEN : Hid (∀ wx, Keeps (fun _ => False) w2 wx → Ten wx) := fun wx h => (((HTAB.out.keeps HK1.out).keeps K2.out).keeps h).ten
  have HZZ : Hid (∀ wx, Keeps (fun _ => False) w2 wx → ZeroRow wx K 32) := fun wx h => by
    obtain ⟨T, ht⟩ := HZ1.out
    exact ⟨T, (K2.out.trans h (fun _ _ h => h)).row ht id⟩
  go_region_held3 (fun _ => True) (trivial) (first
    | ((go_at_call 110; refine (HNUM.out _ (HTEN.out _ (by repeat (first | exact Keeps.refl _ _ | apply Keeps.drew)))).mono ?_; rintro en w' ⟨rfl, hww⟩; obtain rfl := hww.symm))
    | ((go_at_call 162; refine (hset.out _ _ (HZZ.out _ (by repeat (first | exact Keeps.refl _ _ | apply Keeps.drew)))).mono ?_; rintro en w3 ⟨rfl, k3, d3⟩; have K3 : Hid (Keeps (fun _ => False) w w3) := ((HK1.out.trans K2.out (fun _ _ h => h)).trans (by repeat (first | exact Keeps.refl _ _ | apply Keeps.drew)) (fun _ _ (h : False) => h)).trans k3 (fun i hi e => by have := HKW.out; omega); have D3 := Lib.hid d3; clear k3 d3)))
  all_goals go_wp2_with (go_at_call 160; refine (HFMT.out _ v l K (HOWN.out.below K3.out) HVB.out D3.out hb).mono ?_; rintro en w4 ⟨v4, rfl, o4⟩; have O4 := Lib.hid o4; clear o4)
  all_goals go_ret
  all_goals exact OutRes.rebase K3.out ⟨v4, rfl, O4.out⟩

set_option maxRecDepth 1000000 in
set_option maxHeartbeats 40000000 in
theorem ftoa64_zero_true (PT : Nat → Nat × Nat) (hPT : ∀ i, i < 696 → (PT i).1 < 18446744073709551616 ∧ (PT i).2 < 18446744073709551616) (b : Nat) (hb64 : b < 18446744073709551616) (E M : Nat) (neg : Bool) (hE : bits .and .i64 ((b : Int) / 4503599627370496) 2047 = (E : Int)) (hM : bits .and .u64 (b : Int) 4503599627370495 = (M : Int)) (hN : ((b : Int) / 9223372036854775808 != 0) = neg) (hE2 : E ≤ 2047) (hM2 : M < 4503599627370496) (h1 : ¬ (E : Int) = 2047) (h2 : (E : Int) = 0) (h3 : (M : Int) = 0) (hng : neg = true) : ∃ T : List UInt8, T.length ≤ 1000 ∧ ∀ (w : World) (v : Value) (l : List UInt8), FT2 PT w → Own w v l → l.length ≤ 140737488350000 →
      Calls Tryz.prog 131 #[v, .float .f64 b, .int .u8 103, .int .i64 (-1)] w (OutRes w v (l ++ T)) := by
  subst hng
  have h1' : ((E : Int) == 2047) = false := by simpa using h1
  have h2' : ((E : Int) == 0) = true := by simpa using h2
  have h3' : ((M : Int) == 0) = true := by simpa using h3
  refine ⟨[45] ++ [48], by simp, fun w v l hTab hown hb => ?_⟩
  have HOWN := Lib.hid hown
  clear hown hTab
  have hfb := f64bits_run b
  go_enter Tryz.func131, Tryz.ntmps131
  go_wp2_with (fail)
  go_quiet (fail)
  go_wp2_with (go_at_call 160; refine (fmtF_zero_true _ v l (HOWN.out.below (by repeat (first | exact Keeps.refl _ _ | apply Keeps.drewN | apply Keeps.drew))) hb).mono ?_; rintro en w4 ⟨v4, rfl, o4⟩; have O4 := Lib.hid o4; clear o4)
  go_ret
  exact OutRes.rebase ((Keeps.refl _ w).drewN _) ⟨v4, rfl, O4.out⟩
set_option maxRecDepth 1000000 in
set_option maxHeartbeats 40000000 in
theorem ftoa64_zero_false (PT : Nat → Nat × Nat) (hPT : ∀ i, i < 696 → (PT i).1 < 18446744073709551616 ∧ (PT i).2 < 18446744073709551616) (b : Nat) (hb64 : b < 18446744073709551616) (E M : Nat) (neg : Bool) (hE : bits .and .i64 ((b : Int) / 4503599627370496) 2047 = (E : Int)) (hM : bits .and .u64 (b : Int) 4503599627370495 = (M : Int)) (hN : ((b : Int) / 9223372036854775808 != 0) = neg) (hE2 : E ≤ 2047) (hM2 : M < 4503599627370496) (h1 : ¬ (E : Int) = 2047) (h2 : (E : Int) = 0) (h3 : (M : Int) = 0) (hng : neg = false) : ∃ T : List UInt8, T.length ≤ 1000 ∧ ∀ (w : World) (v : Value) (l : List UInt8), FT2 PT w → Own w v l → l.length ≤ 140737488350000 →
      Calls Tryz.prog 131 #[v, .float .f64 b, .int .u8 103, .int .i64 (-1)] w (OutRes w v (l ++ T)) := by
  subst hng
  have h1' : ((E : Int) == 2047) = false := by simpa using h1
  have h2' : ((E : Int) == 0) = true := by simpa using h2
  have h3' : ((M : Int) == 0) = true := by simpa using h3
  refine ⟨[] ++ [48], by simp, fun w v l hTab hown hb => ?_⟩
  have HOWN := Lib.hid hown
  clear hown hTab
  have hfb := f64bits_run b
  go_enter Tryz.func131, Tryz.ntmps131
  go_wp2_with (fail)
  go_quiet (fail)
  go_wp2_with (go_at_call 160; refine (fmtF_zero_false _ v l (HOWN.out.below (by repeat (first | exact Keeps.refl _ _ | apply Keeps.drewN | apply Keeps.drew))) hb).mono ?_; rintro en w4 ⟨v4, rfl, o4⟩; have O4 := Lib.hid o4; clear o4)
  go_ret
  exact OutRes.rebase ((Keeps.refl _ w).drewN _) ⟨v4, rfl, O4.out⟩
set_option maxRecDepth 1000000 in
set_option maxHeartbeats 40000000 in
theorem ftoa64_nan (PT : Nat → Nat × Nat) (hPT : ∀ i, i < 696 → (PT i).1 < 18446744073709551616 ∧ (PT i).2 < 18446744073709551616) (b : Nat) (hb64 : b < 18446744073709551616) (E M : Nat) (neg : Bool) (hE : bits .and .i64 ((b : Int) / 4503599627370496) 2047 = (E : Int)) (hM : bits .and .u64 (b : Int) 4503599627370495 = (M : Int)) (hN : ((b : Int) / 9223372036854775808 != 0) = neg) (hE2 : E ≤ 2047) (hM2 : M < 4503599627370496) (h1 : (E : Int) = 2047) (h3 : ¬ (M : Int) = 0) : ∃ T : List UInt8, T.length ≤ 1000 ∧ ∀ (w : World) (v : Value) (l : List UInt8), FT2 PT w → Own w v l → l.length ≤ 140737488350000 →
      Calls Tryz.prog 131 #[v, .float .f64 b, .int .u8 103, .int .i64 (-1)] w (OutRes w v (l ++ T)) := by
  have h1' : ((E : Int) == 2047) = true := by simpa using h1
  have h3' : ((M : Int) != 0) = true := by simpa using h3

  refine ⟨[78, 97, 78], by simp, fun w v l hTab hown hb => ?_⟩
  have H0 := Lib.hid (Out.start hown)
  clear hown hTab
  have hfb := f64bits_run b
  go_enter Tryz.func131, Tryz.ntmps131
  go_wp2_with (fail)
  go_quiet (fail)
  have H1 := Lib.hid (H0.out.drewN nq)
  go_wp2_with (at_builtin; refine at_out_str H1.out (.tmp 70) (.const (.string (mk [78, 97, 78]))) [78, 97, 78] (by simp; omega) rfl rfl rfl rfl ?_; intro v2 w2 o2; have H2 := Lib.hid o2; clear o2)
  go_ret
  exact ⟨_, rfl, H2.out⟩
set_option maxRecDepth 1000000 in
set_option maxHeartbeats 40000000 in
theorem ftoa64_ninf (PT : Nat → Nat × Nat) (hPT : ∀ i, i < 696 → (PT i).1 < 18446744073709551616 ∧ (PT i).2 < 18446744073709551616) (b : Nat) (hb64 : b < 18446744073709551616) (E M : Nat) (neg : Bool) (hE : bits .and .i64 ((b : Int) / 4503599627370496) 2047 = (E : Int)) (hM : bits .and .u64 (b : Int) 4503599627370495 = (M : Int)) (hN : ((b : Int) / 9223372036854775808 != 0) = neg) (hE2 : E ≤ 2047) (hM2 : M < 4503599627370496) (h1 : (E : Int) = 2047) (h3 : (M : Int) = 0) (hng : neg = true) : ∃ T : List UInt8, T.length ≤ 1000 ∧ ∀ (w : World) (v : Value) (l : List UInt8), FT2 PT w → Own w v l → l.length ≤ 140737488350000 →
      Calls Tryz.prog 131 #[v, .float .f64 b, .int .u8 103, .int .i64 (-1)] w (OutRes w v (l ++ T)) := by
  have h1' : ((E : Int) == 2047) = true := by simpa using h1
  have h3' : ((M : Int) != 0) = false := by simpa using h3
  subst hng
  refine ⟨[45, 73, 110, 102], by simp, fun w v l hTab hown hb => ?_⟩
  have H0 := Lib.hid (Out.start hown)
  clear hown hTab
  have hfb := f64bits_run b
  go_enter Tryz.func131, Tryz.ntmps131
  go_wp2_with (fail)
  go_quiet (fail)
  have H1 := Lib.hid (H0.out.drewN nq)
  go_wp2_with (at_builtin; refine at_out_str H1.out (.tmp 73) (.const (.string (mk [45, 73, 110, 102]))) [45, 73, 110, 102] (by simp; omega) rfl rfl rfl rfl ?_; intro v2 w2 o2; have H2 := Lib.hid o2; clear o2)
  go_ret
  exact ⟨_, rfl, H2.out⟩
set_option maxRecDepth 1000000 in
set_option maxHeartbeats 40000000 in
theorem ftoa64_pinf (PT : Nat → Nat × Nat) (hPT : ∀ i, i < 696 → (PT i).1 < 18446744073709551616 ∧ (PT i).2 < 18446744073709551616) (b : Nat) (hb64 : b < 18446744073709551616) (E M : Nat) (neg : Bool) (hE : bits .and .i64 ((b : Int) / 4503599627370496) 2047 = (E : Int)) (hM : bits .and .u64 (b : Int) 4503599627370495 = (M : Int)) (hN : ((b : Int) / 9223372036854775808 != 0) = neg) (hE2 : E ≤ 2047) (hM2 : M < 4503599627370496) (h1 : (E : Int) = 2047) (h3 : (M : Int) = 0) (hng : neg = false) : ∃ T : List UInt8, T.length ≤ 1000 ∧ ∀ (w : World) (v : Value) (l : List UInt8), FT2 PT w → Own w v l → l.length ≤ 140737488350000 →
      Calls Tryz.prog 131 #[v, .float .f64 b, .int .u8 103, .int .i64 (-1)] w (OutRes w v (l ++ T)) := by
  have h1' : ((E : Int) == 2047) = true := by simpa using h1
  have h3' : ((M : Int) != 0) = false := by simpa using h3
  subst hng
  refine ⟨[43, 73, 110, 102], by simp, fun w v l hTab hown hb => ?_⟩
  have H0 := Lib.hid (Out.start hown)
  clear hown hTab
  have hfb := f64bits_run b
  go_enter Tryz.func131, Tryz.ntmps131
  go_wp2_with (fail)
  go_quiet (fail)
  have H1 := Lib.hid (H0.out.drewN nq)
  go_wp2_with (at_builtin; refine at_out_str H1.out (.tmp 75) (.const (.string (mk [43, 73, 110, 102]))) [43, 73, 110, 102] (by simp; omega) rfl rfl rfl rfl ?_; intro v2 w2 o2; have H2 := Lib.hid o2; clear o2)
  go_ret
  exact ⟨_, rfl, H2.out⟩
theorem ftoa64_ex (PT : Nat → Nat × Nat) (hPT : ∀ i, i < 696 → (PT i).1 < 18446744073709551616 ∧ (PT i).2 < 18446744073709551616) (b : Nat) (hb64 : b < 18446744073709551616) : ∃ T : List UInt8, T.length ≤ 1000 ∧ ∀ (w : World) (v : Value) (l : List UInt8), FT2 PT w → Own w v l → l.length ≤ 140737488350000 →
      Calls Tryz.prog 131 #[v, .float .f64 b, .int .u8 103, .int .i64 (-1)] w (OutRes w v (l ++ T)) := by
  obtain ⟨E, hE, hE2⟩ : ∃ E : Nat, bits .and .i64 ((b : Int) / 4503599627370496) 2047 = (E : Int) ∧ E ≤ 2047 := ⟨(bits .and .i64 ((b : Int) / 4503599627370496) 2047).toNat, by rw [mask_i64_11]; omega, by rw [mask_i64_11]; omega⟩
  obtain ⟨M, hM, hM2⟩ : ∃ M : Nat, bits .and .u64 (b : Int) 4503599627370495 = (M : Int) ∧ M < 4503599627370496 := ⟨(bits .and .u64 (b : Int) 4503599627370495).toNat, by rw [mask_u64_52 _ (by omega) (by omega)]; omega, by rw [mask_u64_52 _ (by omega) (by omega)]; omega⟩
  obtain ⟨neg, hN⟩ : ∃ neg, ((b : Int) / 9223372036854775808 != 0) = neg := ⟨_, rfl⟩
  by_cases h1 : (E : Int) = 2047
  · by_cases h3 : (M : Int) = 0
    · cases neg
      · exact ftoa64_pinf PT hPT b hb64 E M _ hE hM hN hE2 hM2 h1 h3 rfl
      · exact ftoa64_ninf PT hPT b hb64 E M _ hE hM hN hE2 hM2 h1 h3 rfl
    · exact ftoa64_nan PT hPT b hb64 E M _ hE hM hN hE2 hM2 h1 h3
  · by_cases h2 : (E : Int) = 0
    · by_cases h3 : (M : Int) = 0
      · cases neg
        · exact ftoa64_zero_false PT hPT b hb64 E M _ hE hM hN hE2 hM2 h1 h2 h3 rfl
        · exact ftoa64_zero_true PT hPT b hb64 E M _ hE hM hN hE2 hM2 h1 h2 h3 rfl
      · exact ftoa64_sub PT hPT b hb64 E M _ hE hM hN hE2 hM2 h1 h2 h3
    · exact ftoa64_norm PT hPT b hb64 E M _ hE hM hN hE2 hM2 h1 h2
set_option maxRecDepth 1000000 in
set_option maxHeartbeats 40000000 in
theorem ftoa32_norm (PT : Nat → Nat × Nat) (hPT : ∀ i, i < 696 → (PT i).1 < 18446744073709551616 ∧ (PT i).2 < 18446744073709551616) (b : Nat) (hb64 : b < 4294967296) (E M : Nat) (neg : Bool) (hE : bits .and .i64 ((b : Int) / 8388608) 255 = (E : Int)) (hM : bits .and .u64 (b : Int) 8388607 = (M : Int)) (hN : ((b : Int) / 2147483648 != 0) = neg) (hE2 : E ≤ 255) (hM2 : M < 8388608) (h1 : ¬ (E : Int) = 255) (h2 : ¬ (E : Int) = 0) : ∃ T : List UInt8, T.length ≤ 1000 ∧ ∀ (w : World) (v : Value) (l : List UInt8), FT2 PT w → Own w v l → l.length ≤ 140737488350000 →
      Calls Tryz.prog 130 #[v, .float .f32 b, .int .u8 103, .int .i64 (-1)] w (OutRes w v (l ++ T)) := by
  have h1' : ((E : Int) == 255) = false := by simpa using h1
  have h2' : ((E : Int) == 0) = false := by simpa using h2
  obtain ⟨m, hm0⟩ : ∃ m, M ||| 8388608 = m := ⟨_, rfl⟩
  have hm3 : bits .or .u64 (M : Int) 8388608 = (m : Int) := by rw [← hm0]; exact u64_or_nat M 8388608 (by omega) (by omega)
  have hm1 : 1 ≤ m := by rw [← hm0]; exact Nat.le_trans (by omega) Nat.right_le_or
  have hm2 : m < 2 ^ 63 := by rw [← hm0]; exact Nat.lt_of_lt_of_le (Nat.or_lt_two_pow (n := 24) (by omega) (by omega)) (by omega)
  have hm4 : ((m : Int) == 0) = false := by simp; omega
  clear hm0
  obtain ⟨x, hx⟩ : ∃ x : Int, (E : Int) + -127 = x := ⟨_, rfl⟩
  obtain ⟨s, hs1, hs2, hs3, hs4, hs5⟩ := norm_ex m hm1 hm2
  obtain ⟨mm, hmm⟩ : ∃ mm, m * 2 ^ s = mm := ⟨_, rfl⟩
  rw [hmm] at hs4 hs5
  obtain ⟨L, hL⟩ : ∃ L, Lib.bitLen m = L := ⟨_, rfl⟩
  obtain ⟨e, he⟩ : ∃ e : Int, x - (s : Int) - 23 = e := ⟨_, rfl⟩
  obtain ⟨d, p, hd, hp1, hp2, hsf⟩ := short32_ex PT hPT mm e hs4 (by omega) (by omega) (by omega)
  obtain ⟨nd, hnd, hnd2, hnum⟩ := numDigits_ex d hd
  obtain ⟨fd, hfd⟩ : ∃ fd : Nat → UInt8, (fun j => Lib.dg d (nd - 1 - j)) = fd := ⟨_, rfl⟩
  obtain ⟨nz, hnz⟩ : ∃ nz, strip nd fd = nz := ⟨_, rfl⟩
  have hnzl : nz ≤ nd := by rw [← hnz]; exact strip_le nd fd
  obtain ⟨T, hT, hfmt⟩ := fmtEFG_ex neg nz ((nd : Int) + p) fd (by omega) (by omega) (by omega)
  have hset : Hid (∀ (w : World) (B : Nat), ZeroRow w B 32 → Calls Tryz.prog 162 #[.slice (some ⟨B, 0, none⟩) 32 32, .int .u64 (d : Int), .int .i64 p, .int .i64 (nd : Int)] w fun e w' => e = .returned (.tuple #[.int .i64 ((nd : Int) + p), .int .i64 (nz : Int)]) ∧ Keeps (fun k => k = B) w w' ∧ Digs w' B nz fd) := fun w B hz => (setDigits_any d nd p hd hnd hnd2 (by omega) (by omega) w B hz).mono fun e w' h => by
    rw [hfd, hnz] at h
    exact ⟨h.1, h.2.1, fun j hj => by rw [h.2.2 j (by omega)]; rw [← hfd]⟩
  have HLEN := Lib.hid (len64_any m (by omega))
  rw [hL] at HLEN
  have HNUM := Lib.hid hnum
  have HSF := Lib.hid hsf
  have HFMT := Lib.hid hfmt
  have hsub : (64 : Int) - (L : Int) = (s : Int) := by omega
  have hs64 : s < 64 := by omega
  have hsh : IntKind.u64.wrap ((m : Int) * 2 ^ s) = (mm : Int) := by
    rw [← hmm, IntKind.wrap_u64]
    have : ((m * 2 ^ s : Nat) : Int) = (m : Int) * 2 ^ s := by push_cast; rfl
    rw [← this]
    omega
  clear hL hs1 hs2 hs3 hs4 hfd hnz hsf hnum hfmt hmm
  refine ⟨T, hT, fun w v l hTab hown hb => ?_⟩
  have HOWN := Lib.hid hown
  have HTAB := Lib.hid hTab
  clear hown hTab
  have hfb := f32bits_run b
  go_enter Tryz.func130, Tryz.ntmps130
  go_wp2_with (fail)
  go_quiet (fail)
  go_upto_region 34 with (fail)
  obtain ⟨W1, hW1⟩ : ∃ W, (w.drewN nq).alloc (.cells #[.int .u8 0, .int .u8 0, .int .u8 0, .int .u8 0, .int .u8 0, .int .u8 0, .int .u8 0, .int .u8 0, .int .u8 0, .int .u8 0, .int .u8 0, .int .u8 0, .int .u8 0, .int .u8 0, .int .u8 0, .int .u8 0, .int .u8 0, .int .u8 0, .int .u8 0, .int .u8 0, .int .u8 0, .int .u8 0, .int .u8 0, .int .u8 0, .int .u8 0, .int .u8 0, .int .u8 0, .int .u8 0, .int .u8 0, .int .u8 0, .int .u8 0, .int .u8 0] 219) = W := ⟨_, rfl⟩
  have hk1 : Keeps (fun _ => False) w W1 := by rw [← hW1]; exact ((Keeps.refl _ w).drewN _).alloc _
  have hz1 : ZeroRow W1 w.heap.size 32 := by rw [← hW1]; exact ⟨_, heap_alloc_new (w.drewN nq) _⟩
  have hlt1 : w.heap.size < W1.heap.size := by rw [← hW1]; simp [World.drewN]
  rw [hW1]
  have hvb : ∀ k, v.ownBlock = some k → k < w.heap.size := HOWN.out.lt
  obtain ⟨K, hK⟩ : ∃ K, w.heap.size = K := ⟨_, rfl⟩
  have hKw : w.heap.size ≤ K := Nat.le_of_eq hK
  rw [hK] at hz1 hlt1 hvb ⊢
  have HKW := Lib.hid hKw
  have HVB : Hid (¬ v.ownBlock = some K) := fun e => absurd (hvb K e) (Nat.lt_irrefl _)
  have HK1 := Lib.hid hk1
  have HZ1 := Lib.hid hz1
  have HLT1 := Lib.hid hlt1
  clear hW1 hk1 hz1 hK hKw hvb hlt1
  go_wp2_with (first
    | (go_at_call 133; refine (HLEN.out _).mono ?_; rintro en w' ⟨rfl, hww⟩; obtain rfl := hww.symm)
    | (go_at_call 161; refine (HSF.out _ ((HTAB.out.keeps HK1.out).p10) (HTAB.out.keeps HK1.out).size.1).mono ?_; rintro en w2 ⟨rfl, k2⟩; have K2 := Lib.hid k2; clear k2))
  have HTEN : Hid (∀ wx, Keeps (fun _ => False) w2 wx → Ten wx) := fun wx h => (((HTAB.out.keeps HK1.out).keeps K2.out).keeps h).ten
  have HZZ : Hid (∀ wx, Keeps (fun _ => False) w2 wx → ZeroRow wx K 32) := fun wx h => by
    obtain ⟨T, ht⟩ := HZ1.out
    exact ⟨T, (K2.out.trans h (fun _ _ h => h)).row ht id⟩
  go_region_held3 (fun _ => True) (trivial) (first
    | ((go_at_call 110; refine (HNUM.out _ (HTEN.out _ (by repeat (first | exact Keeps.refl _ _ | apply Keeps.drew)))).mono ?_; rintro en w' ⟨rfl, hww⟩; obtain rfl := hww.symm))
    | ((go_at_call 162; refine (hset.out _ _ (HZZ.out _ (by repeat (first | exact Keeps.refl _ _ | apply Keeps.drew)))).mono ?_; rintro en w3 ⟨rfl, k3, d3⟩; have K3 : Hid (Keeps (fun _ => False) w w3) := ((HK1.out.trans K2.out (fun _ _ h => h)).trans (by repeat (first | exact Keeps.refl _ _ | apply Keeps.drew)) (fun _ _ (h : False) => h)).trans k3 (fun i hi e => by have := HKW.out; omega); have D3 := Lib.hid d3; clear k3 d3)))
  all_goals go_wp2_with (go_at_call 160; refine (HFMT.out _ v l K (HOWN.out.below K3.out) HVB.out D3.out hb).mono ?_; rintro en w4 ⟨v4, rfl, o4⟩; have O4 := Lib.hid o4; clear o4)
  all_goals go_ret
  all_goals exact OutRes.rebase K3.out ⟨v4, rfl, O4.out⟩

set_option maxRecDepth 1000000 in
set_option maxHeartbeats 40000000 in
theorem ftoa32_sub (PT : Nat → Nat × Nat) (hPT : ∀ i, i < 696 → (PT i).1 < 18446744073709551616 ∧ (PT i).2 < 18446744073709551616) (b : Nat) (hb64 : b < 4294967296) (E M : Nat) (neg : Bool) (hE : bits .and .i64 ((b : Int) / 8388608) 255 = (E : Int)) (hM : bits .and .u64 (b : Int) 8388607 = (M : Int)) (hN : ((b : Int) / 2147483648 != 0) = neg) (hE2 : E ≤ 255) (hM2 : M < 8388608) (h1 : ¬ (E : Int) = 255) (h2 : (E : Int) = 0) (h3 : ¬ (M : Int) = 0) : ∃ T : List UInt8, T.length ≤ 1000 ∧ ∀ (w : World) (v : Value) (l : List UInt8), FT2 PT w → Own w v l → l.length ≤ 140737488350000 →
      Calls Tryz.prog 130 #[v, .float .f32 b, .int .u8 103, .int .i64 (-1)] w (OutRes w v (l ++ T)) := by
  have h1' : ((E : Int) == 255) = false := by simpa using h1
  have h2' : ((E : Int) == 0) = true := by simpa using h2
  obtain ⟨m, hm0⟩ : ∃ m, M = m := ⟨_, rfl⟩
  subst hm0
  have hm1 : 1 ≤ M := by omega
  have hm2 : M < 2 ^ 63 := by omega
  have hm4 : ((M : Int) == 0) = false := by simp; omega
  obtain ⟨s, hs1, hs2, hs3, hs4, hs5⟩ := norm_ex M hm1 hm2
  obtain ⟨mm, hmm⟩ : ∃ mm, M * 2 ^ s = mm := ⟨_, rfl⟩
  rw [hmm] at hs4 hs5
  obtain ⟨L, hL⟩ : ∃ L, Lib.bitLen M = L := ⟨_, rfl⟩
  obtain ⟨e, he⟩ : ∃ e : Int, (-126) - (s : Int) - 23 = e := ⟨_, rfl⟩
  obtain ⟨d, p, hd, hp1, hp2, hsf⟩ := short32_ex PT hPT mm e hs4 (by omega) (by omega) (by omega)
  obtain ⟨nd, hnd, hnd2, hnum⟩ := numDigits_ex d hd
  obtain ⟨fd, hfd⟩ : ∃ fd : Nat → UInt8, (fun j => Lib.dg d (nd - 1 - j)) = fd := ⟨_, rfl⟩
  obtain ⟨nz, hnz⟩ : ∃ nz, strip nd fd = nz := ⟨_, rfl⟩
  have hnzl : nz ≤ nd := by rw [← hnz]; exact strip_le nd fd
  obtain ⟨T, hT, hfmt⟩ := fmtEFG_ex neg nz ((nd : Int) + p) fd (by omega) (by omega) (by omega)
  have hset : Hid (∀ (w : World) (B : Nat), ZeroRow w B 32 → Calls Tryz.prog 162 #[.slice (some ⟨B, 0, none⟩) 32 32, .int .u64 (d : Int), .int .i64 p, .int .i64 (nd : Int)] w fun e w' => e = .returned (.tuple #[.int .i64 ((nd : Int) + p), .int .i64 (nz : Int)]) ∧ Keeps (fun k => k = B) w w' ∧ Digs w' B nz fd) := fun w B hz => (setDigits_any d nd p hd hnd hnd2 (by omega) (by omega) w B hz).mono fun e w' h => by
    rw [hfd, hnz] at h
    exact ⟨h.1, h.2.1, fun j hj => by rw [h.2.2 j (by omega)]; rw [← hfd]⟩
  have HLEN := Lib.hid (len64_any M (by omega))
  rw [hL] at HLEN
  have HNUM := Lib.hid hnum
  have HSF := Lib.hid hsf
  have HFMT := Lib.hid hfmt
  have hsub : (64 : Int) - (L : Int) = (s : Int) := by omega
  have hs64 : s < 64 := by omega
  have hsh : IntKind.u64.wrap ((M : Int) * 2 ^ s) = (mm : Int) := by
    rw [← hmm, IntKind.wrap_u64]
    have : ((M * 2 ^ s : Nat) : Int) = (M : Int) * 2 ^ s := by push_cast; rfl
    rw [← this]
    omega
  clear hL hs1 hs2 hs3 hs4 hfd hnz hsf hnum hfmt hmm
  refine ⟨T, hT, fun w v l hTab hown hb => ?_⟩
  have HOWN := Lib.hid hown
  have HTAB := Lib.hid hTab
  clear hown hTab
  have hfb := f32bits_run b
  go_enter Tryz.func130, Tryz.ntmps130
  go_wp2_with (fail)
  go_quiet (fail)
  go_upto_region 34 with (fail)
  obtain ⟨W1, hW1⟩ : ∃ W, (w.drewN nq).alloc (.cells #[.int .u8 0, .int .u8 0, .int .u8 0, .int .u8 0, .int .u8 0, .int .u8 0, .int .u8 0, .int .u8 0, .int .u8 0, .int .u8 0, .int .u8 0, .int .u8 0, .int .u8 0, .int .u8 0, .int .u8 0, .int .u8 0, .int .u8 0, .int .u8 0, .int .u8 0, .int .u8 0, .int .u8 0, .int .u8 0, .int .u8 0, .int .u8 0, .int .u8 0, .int .u8 0, .int .u8 0, .int .u8 0, .int .u8 0, .int .u8 0, .int .u8 0, .int .u8 0] 219) = W := ⟨_, rfl⟩
  have hk1 : Keeps (fun _ => False) w W1 := by rw [← hW1]; exact ((Keeps.refl _ w).drewN _).alloc _
  have hz1 : ZeroRow W1 w.heap.size 32 := by rw [← hW1]; exact ⟨_, heap_alloc_new (w.drewN nq) _⟩
  have hlt1 : w.heap.size < W1.heap.size := by rw [← hW1]; simp [World.drewN]
  rw [hW1]
  have hvb : ∀ k, v.ownBlock = some k → k < w.heap.size := HOWN.out.lt
  obtain ⟨K, hK⟩ : ∃ K, w.heap.size = K := ⟨_, rfl⟩
  have hKw : w.heap.size ≤ K := Nat.le_of_eq hK
  rw [hK] at hz1 hlt1 hvb ⊢
  have HKW := Lib.hid hKw
  have HVB : Hid (¬ v.ownBlock = some K) := fun e => absurd (hvb K e) (Nat.lt_irrefl _)
  have HK1 := Lib.hid hk1
  have HZ1 := Lib.hid hz1
  have HLT1 := Lib.hid hlt1
  clear hW1 hk1 hz1 hK hKw hvb hlt1
  go_wp2_with (first
    | (go_at_call 133; refine (HLEN.out _).mono ?_; rintro en w' ⟨rfl, hww⟩; obtain rfl := hww.symm)
    | (go_at_call 161; refine (HSF.out _ ((HTAB.out.keeps HK1.out).p10) (HTAB.out.keeps HK1.out).size.1).mono ?_; rintro en w2 ⟨rfl, k2⟩; have K2 := Lib.hid k2; clear k2))
  have HTEN : Hid (∀ wx, Keeps (fun _ => False) w2 wx → Ten wx) := fun wx h => (((HTAB.out.keeps HK1.out).keeps K2.out).keeps h).ten
  have HZZ : Hid (∀ wx, Keeps (fun _ => False) w2 wx → ZeroRow wx K 32) := fun wx h => by
    obtain ⟨T, ht⟩ := HZ1.out
    exact ⟨T, (K2.out.trans h (fun _ _ h => h)).row ht id⟩
  go_region_held3 (fun _ => True) (trivial) (first
    | ((go_at_call 110; refine (HNUM.out _ (HTEN.out _ (by repeat (first | exact Keeps.refl _ _ | apply Keeps.drew)))).mono ?_; rintro en w' ⟨rfl, hww⟩; obtain rfl := hww.symm))
    | ((go_at_call 162; refine (hset.out _ _ (HZZ.out _ (by repeat (first | exact Keeps.refl _ _ | apply Keeps.drew)))).mono ?_; rintro en w3 ⟨rfl, k3, d3⟩; have K3 : Hid (Keeps (fun _ => False) w w3) := ((HK1.out.trans K2.out (fun _ _ h => h)).trans (by repeat (first | exact Keeps.refl _ _ | apply Keeps.drew)) (fun _ _ (h : False) => h)).trans k3 (fun i hi e => by have := HKW.out; omega); have D3 := Lib.hid d3; clear k3 d3)))
  all_goals go_wp2_with (go_at_call 160; refine (HFMT.out _ v l K (HOWN.out.below K3.out) HVB.out D3.out hb).mono ?_; rintro en w4 ⟨v4, rfl, o4⟩; have O4 := Lib.hid o4; clear o4)
  all_goals go_ret
  all_goals exact OutRes.rebase K3.out ⟨v4, rfl, O4.out⟩

set_option maxRecDepth 1000000 in
set_option maxHeartbeats 40000000 in
theorem ftoa32_zero_true (PT : Nat → Nat × Nat) (hPT : ∀ i, i < 696 → (PT i).1 < 18446744073709551616 ∧ (PT i).2 < 18446744073709551616) (b : Nat) (hb64 : b < 4294967296) (E M : Nat) (neg : Bool) (hE : bits .and .i64 ((b : Int) / 8388608) 255 = (E : Int)) (hM : bits .and .u64 (b : Int) 8388607 = (M : Int)) (hN : ((b : Int) / 2147483648 != 0) = neg) (hE2 : E ≤ 255) (hM2 : M < 8388608) (h1 : ¬ (E : Int) = 255) (h2 : (E : Int) = 0) (h3 : (M : Int) = 0) (hng : neg = true) : ∃ T : List UInt8, T.length ≤ 1000 ∧ ∀ (w : World) (v : Value) (l : List UInt8), FT2 PT w → Own w v l → l.length ≤ 140737488350000 →
      Calls Tryz.prog 130 #[v, .float .f32 b, .int .u8 103, .int .i64 (-1)] w (OutRes w v (l ++ T)) := by
  subst hng
  have h1' : ((E : Int) == 255) = false := by simpa using h1
  have h2' : ((E : Int) == 0) = true := by simpa using h2
  have h3' : ((M : Int) == 0) = true := by simpa using h3
  refine ⟨[45] ++ [48], by simp, fun w v l hTab hown hb => ?_⟩
  have HOWN := Lib.hid hown
  clear hown hTab
  have hfb := f32bits_run b
  go_enter Tryz.func130, Tryz.ntmps130
  go_wp2_with (fail)
  go_quiet (fail)
  go_wp2_with (go_at_call 160; refine (fmtF_zero_true _ v l (HOWN.out.below (by repeat (first | exact Keeps.refl _ _ | apply Keeps.drewN | apply Keeps.drew))) hb).mono ?_; rintro en w4 ⟨v4, rfl, o4⟩; have O4 := Lib.hid o4; clear o4)
  go_ret
  exact OutRes.rebase ((Keeps.refl _ w).drewN _) ⟨v4, rfl, O4.out⟩
set_option maxRecDepth 1000000 in
set_option maxHeartbeats 40000000 in
theorem ftoa32_zero_false (PT : Nat → Nat × Nat) (hPT : ∀ i, i < 696 → (PT i).1 < 18446744073709551616 ∧ (PT i).2 < 18446744073709551616) (b : Nat) (hb64 : b < 4294967296) (E M : Nat) (neg : Bool) (hE : bits .and .i64 ((b : Int) / 8388608) 255 = (E : Int)) (hM : bits .and .u64 (b : Int) 8388607 = (M : Int)) (hN : ((b : Int) / 2147483648 != 0) = neg) (hE2 : E ≤ 255) (hM2 : M < 8388608) (h1 : ¬ (E : Int) = 255) (h2 : (E : Int) = 0) (h3 : (M : Int) = 0) (hng : neg = false) : ∃ T : List UInt8, T.length ≤ 1000 ∧ ∀ (w : World) (v : Value) (l : List UInt8), FT2 PT w → Own w v l → l.length ≤ 140737488350000 →
      Calls Tryz.prog 130 #[v, .float .f32 b, .int .u8 103, .int .i64 (-1)] w (OutRes w v (l ++ T)) := by
  subst hng
  have h1' : ((E : Int) == 255) = false := by simpa using h1
  have h2' : ((E : Int) == 0) = true := by simpa using h2
  have h3' : ((M : Int) == 0) = true := by simpa using h3
  refine ⟨[] ++ [48], by simp, fun w v l hTab hown hb => ?_⟩
  have HOWN := Lib.hid hown
  clear hown hTab
  have hfb := f32bits_run b
  go_enter Tryz.func130, Tryz.ntmps130
  go_wp2_with (fail)
  go_quiet (fail)
  go_wp2_with (go_at_call 160; refine (fmtF_zero_false _ v l (HOWN.out.below (by repeat (first | exact Keeps.refl _ _ | apply Keeps.drewN | apply Keeps.drew))) hb).mono ?_; rintro en w4 ⟨v4, rfl, o4⟩; have O4 := Lib.hid o4; clear o4)
  go_ret
  exact OutRes.rebase ((Keeps.refl _ w).drewN _) ⟨v4, rfl, O4.out⟩
set_option maxRecDepth 1000000 in
set_option maxHeartbeats 40000000 in
theorem ftoa32_nan (PT : Nat → Nat × Nat) (hPT : ∀ i, i < 696 → (PT i).1 < 18446744073709551616 ∧ (PT i).2 < 18446744073709551616) (b : Nat) (hb64 : b < 4294967296) (E M : Nat) (neg : Bool) (hE : bits .and .i64 ((b : Int) / 8388608) 255 = (E : Int)) (hM : bits .and .u64 (b : Int) 8388607 = (M : Int)) (hN : ((b : Int) / 2147483648 != 0) = neg) (hE2 : E ≤ 255) (hM2 : M < 8388608) (h1 : (E : Int) = 255) (h3 : ¬ (M : Int) = 0) : ∃ T : List UInt8, T.length ≤ 1000 ∧ ∀ (w : World) (v : Value) (l : List UInt8), FT2 PT w → Own w v l → l.length ≤ 140737488350000 →
      Calls Tryz.prog 130 #[v, .float .f32 b, .int .u8 103, .int .i64 (-1)] w (OutRes w v (l ++ T)) := by
  have h1' : ((E : Int) == 255) = true := by simpa using h1
  have h3' : ((M : Int) != 0) = true := by simpa using h3

  refine ⟨[78, 97, 78], by simp, fun w v l hTab hown hb => ?_⟩
  have H0 := Lib.hid (Out.start hown)
  clear hown hTab
  have hfb := f32bits_run b
  go_enter Tryz.func130, Tryz.ntmps130
  go_wp2_with (fail)
  go_quiet (fail)
  have H1 := Lib.hid (H0.out.drewN nq)
  go_wp2_with (at_builtin; refine at_out_str H1.out (.tmp 70) (.const (.string (mk [78, 97, 78]))) [78, 97, 78] (by simp; omega) rfl rfl rfl rfl ?_; intro v2 w2 o2; have H2 := Lib.hid o2; clear o2)
  go_ret
  exact ⟨_, rfl, H2.out⟩
set_option maxRecDepth 1000000 in
set_option maxHeartbeats 40000000 in
theorem ftoa32_ninf (PT : Nat → Nat × Nat) (hPT : ∀ i, i < 696 → (PT i).1 < 18446744073709551616 ∧ (PT i).2 < 18446744073709551616) (b : Nat) (hb64 : b < 4294967296) (E M : Nat) (neg : Bool) (hE : bits .and .i64 ((b : Int) / 8388608) 255 = (E : Int)) (hM : bits .and .u64 (b : Int) 8388607 = (M : Int)) (hN : ((b : Int) / 2147483648 != 0) = neg) (hE2 : E ≤ 255) (hM2 : M < 8388608) (h1 : (E : Int) = 255) (h3 : (M : Int) = 0) (hng : neg = true) : ∃ T : List UInt8, T.length ≤ 1000 ∧ ∀ (w : World) (v : Value) (l : List UInt8), FT2 PT w → Own w v l → l.length ≤ 140737488350000 →
      Calls Tryz.prog 130 #[v, .float .f32 b, .int .u8 103, .int .i64 (-1)] w (OutRes w v (l ++ T)) := by
  have h1' : ((E : Int) == 255) = true := by simpa using h1
  have h3' : ((M : Int) != 0) = false := by simpa using h3
  subst hng
  refine ⟨[45, 73, 110, 102], by simp, fun w v l hTab hown hb => ?_⟩
  have H0 := Lib.hid (Out.start hown)
  clear hown hTab
  have hfb := f32bits_run b
  go_enter Tryz.func130, Tryz.ntmps130
  go_wp2_with (fail)
  go_quiet (fail)
  have H1 := Lib.hid (H0.out.drewN nq)
  go_wp2_with (at_builtin; refine at_out_str H1.out (.tmp 73) (.const (.string (mk [45, 73, 110, 102]))) [45, 73, 110, 102] (by simp; omega) rfl rfl rfl rfl ?_; intro v2 w2 o2; have H2 := Lib.hid o2; clear o2)
  go_ret
  exact ⟨_, rfl, H2.out⟩
set_option maxRecDepth 1000000 in
set_option maxHeartbeats 40000000 in
theorem ftoa32_pinf (PT : Nat → Nat × Nat) (hPT : ∀ i, i < 696 → (PT i).1 < 18446744073709551616 ∧ (PT i).2 < 18446744073709551616) (b : Nat) (hb64 : b < 4294967296) (E M : Nat) (neg : Bool) (hE : bits .and .i64 ((b : Int) / 8388608) 255 = (E : Int)) (hM : bits .and .u64 (b : Int) 8388607 = (M : Int)) (hN : ((b : Int) / 2147483648 != 0) = neg) (hE2 : E ≤ 255) (hM2 : M < 8388608) (h1 : (E : Int) = 255) (h3 : (M : Int) = 0) (hng : neg = false) : ∃ T : List UInt8, T.length ≤ 1000 ∧ ∀ (w : World) (v : Value) (l : List UInt8), FT2 PT w → Own w v l → l.length ≤ 140737488350000 →
      Calls Tryz.prog 130 #[v, .float .f32 b, .int .u8 103, .int .i64 (-1)] w (OutRes w v (l ++ T)) := by
  have h1' : ((E : Int) == 255) = true := by simpa using h1
  have h3' : ((M : Int) != 0) = false := by simpa using h3
  subst hng
  refine ⟨[43, 73, 110, 102], by simp, fun w v l hTab hown hb => ?_⟩
  have H0 := Lib.hid (Out.start hown)
  clear hown hTab
  have hfb := f32bits_run b
  go_enter Tryz.func130, Tryz.ntmps130
  go_wp2_with (fail)
  go_quiet (fail)
  have H1 := Lib.hid (H0.out.drewN nq)
  go_wp2_with (at_builtin; refine at_out_str H1.out (.tmp 75) (.const (.string (mk [43, 73, 110, 102]))) [43, 73, 110, 102] (by simp; omega) rfl rfl rfl rfl ?_; intro v2 w2 o2; have H2 := Lib.hid o2; clear o2)
  go_ret
  exact ⟨_, rfl, H2.out⟩
theorem ftoa32_ex (PT : Nat → Nat × Nat) (hPT : ∀ i, i < 696 → (PT i).1 < 18446744073709551616 ∧ (PT i).2 < 18446744073709551616) (b : Nat) (hb64 : b < 4294967296) : ∃ T : List UInt8, T.length ≤ 1000 ∧ ∀ (w : World) (v : Value) (l : List UInt8), FT2 PT w → Own w v l → l.length ≤ 140737488350000 →
      Calls Tryz.prog 130 #[v, .float .f32 b, .int .u8 103, .int .i64 (-1)] w (OutRes w v (l ++ T)) := by
  obtain ⟨E, hE, hE2⟩ : ∃ E : Nat, bits .and .i64 ((b : Int) / 8388608) 255 = (E : Int) ∧ E ≤ 255 := ⟨(bits .and .i64 ((b : Int) / 8388608) 255).toNat, by rw [mask_i64_8]; omega, by rw [mask_i64_8]; omega⟩
  obtain ⟨M, hM, hM2⟩ : ∃ M : Nat, bits .and .u64 (b : Int) 8388607 = (M : Int) ∧ M < 8388608 := ⟨(bits .and .u64 (b : Int) 8388607).toNat, by rw [mask_u64_23 _ (by omega) (by omega)]; omega, by rw [mask_u64_23 _ (by omega) (by omega)]; omega⟩
  obtain ⟨neg, hN⟩ : ∃ neg, ((b : Int) / 2147483648 != 0) = neg := ⟨_, rfl⟩
  by_cases h1 : (E : Int) = 255
  · by_cases h3 : (M : Int) = 0
    · cases neg
      · exact ftoa32_pinf PT hPT b hb64 E M _ hE hM hN hE2 hM2 h1 h3 rfl
      · exact ftoa32_ninf PT hPT b hb64 E M _ hE hM hN hE2 hM2 h1 h3 rfl
    · exact ftoa32_nan PT hPT b hb64 E M _ hE hM hN hE2 hM2 h1 h3
  · by_cases h2 : (E : Int) = 0
    · by_cases h3 : (M : Int) = 0
      · cases neg
        · exact ftoa32_zero_false PT hPT b hb64 E M _ hE hM hN hE2 hM2 h1 h2 h3 rfl
        · exact ftoa32_zero_true PT hPT b hb64 E M _ hE hM hN hE2 hM2 h1 h2 h3 rfl
      · exact ftoa32_sub PT hPT b hb64 E M _ hE hM hN hE2 hM2 h1 h2 h3
    · exact ftoa32_norm PT hPT b hb64 E M _ hE hM hN hE2 hM2 h1 h2
end Go.Proofs.YtmijjppjodpagaaGreatDoor
