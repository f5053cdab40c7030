/-
  ftoa64 and ftoa32 at the form 'g' with as many digits as are needed: total, and functions of the bits (and of the tables).
-/
import Derived.Test.YtonegoemmologaaGreatDoorM17
import Derived.Test.YtonegoemmologaaGreatDoorM18
import Derived.Test.YtonegoemmologaaGreatDoorM19
import Derived.Test.YtonegoemmologaaGreatDoorM20
import Derived.Test.YtonegoemmologaaGreatDoorM21
import Derived.Test.YtonegoemmologaaGreatDoorM22
import Derived.Test.YtonegoemmologaaGreatDoorM23
import Derived.Deep.RegionHeld3
import Derived.Laws.BitsAllLaws
set_option linter.unusedVariables false
set_option linter.unusedSimpArgs false
namespace Go.Proofs.YtonegoemmologaaGreatDoor
open Go.RowKit
theorem f64bits_run (f : Nat) (w : World) : (callFunc 108 #[.float .f64 f]).run Tryz.prog w = .ok (.value (.int .u64 (f : Int))) w := by
 rw [run_callFunc_extern Tryz.func108 (e := Extern.MathFloatBits.float64bits) (by kernel_rfl) (by kernel_rfl) (by kernel_rfl) (by kernel_rfl)]
 rfl
theorem f32bits_run (f : Nat) (w : World) : (callFunc 107 #[.float .f32 f]).run Tryz.prog w = .ok (.value (.int .u32 (f : Int))) w := by
 rw [run_callFunc_extern Tryz.func107 (e := Extern.MathFloatBits.float32bits) (by kernel_rfl) (by kernel_rfl) (by kernel_rfl) (by kernel_rfl)]
 rfl
theorem fmtEFG_ex (neg : Bool) (nd : Nat) (dp : Int) (f : Nat → UInt8) (hnd : nd ≤ 20) (hdp : -500 ≤ dp) (hdp2 : dp ≤ 520) : ∃ T : List UInt8, T.length ≤ 1000 ∧ (Fl.Digits f nd → 1 ≤ nd → Fl.nval (Fl.dsq f 0 nd) < 10 ^ 19 → Fl.NumText neg T (Fl.nval (Fl.dsq f 0 nd)) (dp - nd)) ∧ ∀ (w : World) (v : Value) (l : List UInt8) (B : Nat), Own w v l → ¬ v.ownBlock = some B → Digs w B nd f → l.length ≤ 140737488350000 →
 Calls Tryz.prog 111 #[v, .bool neg, .slice (some ⟨B, 0, none⟩) 32 32, .int .i64 dp, .int .i64 (nd : Int), .int .i64 (nd : Int), .int .u8 103, .bool true] w (OutRes w v (l ++ T)) := by
 rcases Int.lt_or_le (dp - 1) (-4) with h | h
 · obtain ⟨X, hX⟩ : ∃ X : Nat, dp - 1 = -(X : Int) := ⟨(1 - dp).toNat, by omega⟩
   cases neg
   · rcases Nat.lt_trichotomy nd 1 with h1 | h1 | h1
     · exact fmtE_false_0_m false nd dp f rfl hnd hdp hdp2 h (by omega)
     · exact fmtE_false_1_m false nd X dp f rfl hnd hdp hdp2 hX (by omega) h1
     · exact fmtE_false_2_m false nd X dp f rfl hnd hdp hdp2 hX (by omega) h1
   · rcases Nat.lt_trichotomy nd 1 with h1 | h1 | h1
     · exact fmtE_true_0_m true nd dp f rfl hnd hdp hdp2 h (by omega)
     · exact fmtE_true_1_m true nd X dp f rfl hnd hdp hdp2 hX (by omega) h1
     · exact fmtE_true_2_m true nd X dp f rfl hnd hdp hdp2 hX (by omega) h1
 rcases Int.lt_or_le (dp - 1) 6 with h6 | h6
 · rcases Int.lt_or_le 0 dp with h0 | h0
   · obtain ⟨q, rfl⟩ : ∃ q : Nat, dp = (q : Int) := ⟨dp.toNat, by omega⟩
     rcases Nat.lt_or_ge q nd with hq | hq
     · obtain ⟨r, hr⟩ : ∃ r, nd = q + r := ⟨nd - q, by omega⟩
       cases neg
       · exact ⟨_, by simp [ds_length]; omega, fun hdg _ hv => by have k := Fl.numText_B false f nd q r hdg (by omega) (by omega) hr hv; rw [show -(r : Int) = (q : Int) - (nd : Int) by omega] at k; exact k, fmtF_B_false nd q r f hnd (by omega) (by omega) hr (by omega)⟩
       · exact ⟨_, by simp [ds_length]; omega, fun hdg _ hv => by have k := Fl.numText_B true f nd q r hdg (by omega) (by omega) hr hv; rw [show -(r : Int) = (q : Int) - (nd : Int) by omega] at k; exact k, fmtF_B_true nd q r f hnd (by omega) (by omega) hr (by omega)⟩
     · obtain ⟨z, hz⟩ : ∃ z, nd + z = q := ⟨q - nd, by omega⟩
       cases neg
       · exact ⟨_, by simp [ds_length]; omega, fun hdg h1n _ => by have k := Fl.numText_A false f nd z hdg h1n (by omega); rw [show (z : Int) = (q : Int) - (nd : Int) by omega] at k; exact k, fmtF_A_false nd q z f hnd (by omega) (by omega) hz⟩
       · exact ⟨_, by simp [ds_length]; omega, fun hdg h1n _ => by have k := Fl.numText_A true f nd z hdg h1n (by omega); rw [show (z : Int) = (q : Int) - (nd : Int) by omega] at k; exact k, fmtF_A_true nd q z f hnd (by omega) (by omega) hz⟩
   · obtain ⟨q, hq⟩ : ∃ q : Nat, dp = -(q : Int) := ⟨(-dp).toNat, by omega⟩
     subst hq
     by_cases hr : nd + q = 0
     · obtain rfl : q = 0 := by omega
       cases neg
       · exact ⟨_, by simp, fun _ h1n _ => absurd h1n (by omega), fmtF_D_false nd 0 f hnd (by omega) rfl⟩
       · exact ⟨_, by simp, fun _ h1n _ => absurd h1n (by omega), fmtF_D_true nd 0 f hnd (by omega) rfl⟩
     · cases neg
       · exact ⟨_, by simp [ds_length]; omega, fun hdg h1n hv => by have k := Fl.numText_C false f nd q hdg h1n hv; rw [show -((q + nd : Nat) : Int) = -(q : Int) - (nd : Int) by omega] at k; exact k, fmtF_C_false nd q (nd + q) f hnd (by omega) rfl (by omega)⟩
       · exact ⟨_, by simp [ds_length]; omega, fun hdg h1n hv => by have k := Fl.numText_C true f nd q hdg h1n hv; rw [show -((q + nd : Nat) : Int) = -(q : Int) - (nd : Int) by omega] at k; exact k, fmtF_C_true nd q (nd + q) f hnd (by omega) rfl (by omega)⟩
 · obtain ⟨X, hX⟩ : ∃ X : Nat, dp - 1 = (X : Int) := ⟨(dp - 1).toNat, by omega⟩
   cases neg
   · rcases Nat.lt_trichotomy nd 1 with h1 | h1 | h1
     · exact fmtE_false_0_p false nd dp f rfl hnd hdp hdp2 h6 (by omega)
     · exact fmtE_false_1_p false nd X dp f rfl hnd hdp hdp2 hX (by omega) h1
     · exact fmtE_false_2_p false nd X dp f rfl hnd hdp hdp2 hX (by omega) h1
   · rcases Nat.lt_trichotomy nd 1 with h1 | h1 | h1
     · exact fmtE_true_0_p true nd dp f rfl hnd hdp hdp2 h6 (by omega)
     · exact fmtE_true_1_p true nd X dp f rfl hnd hdp hdp2 hX (by omega) h1
     · exact fmtE_true_2_p true nd X dp f rfl hnd hdp hdp2 hX (by omega) h1
theorem OutRes.rebase {w w3 : World} {v : Value} {L : List UInt8} {e : Ending} {w' : World} (hk : Keeps (fun _ => False) w w3) (h : OutRes w3 v L e w') : OutRes w v L e w' := by
 obtain ⟨v', rfl, ho⟩ := h
 refine ⟨v', rfl, ho.own, (hk.mono (S1 := blk v) (fun _ _ h => h.elim)).trans ho.keeps (fun i _ h => h), fun k hk2 => ?_, fun l0 h0 => ho.pre l0 (h0.below hk)⟩
 rcases ho.moved k hk2 with h | h
 · exact .inl h
 · exact .inr (Nat.le_trans hk.size h)
theorem norm_ex (m : Nat) (h1 : 1 ≤ m) (h2 : m < 2 ^ 63) : ∃ s : Nat, Lib.bitLen m + s = 64 ∧ 1 ≤ s ∧ s ≤ 63 ∧ 2 ^ 63 ≤ m * 2 ^ s ∧ m * 2 ^ s < 2 ^ 64 := by
 obtain ⟨a, b, c⟩ := Lib.bitLenAux_bounds 64 m (by omega) (by omega)
 have e : Lib.bitLen m = Lib.bitLenAux 64 m := rfl
 rw [← e] at a b c
 have d := Lib.bitLen_le m 63 (by omega) h2
 obtain ⟨L, hL⟩ : ∃ L, Lib.bitLen m = L := ⟨_, rfl⟩
 rw [hL] at a b c d ⊢
 refine ⟨64 - L, by omega, by omega, by omega, ?_, ?_⟩
 · calc 2 ^ 63 = 2 ^ (L - 1) * 2 ^ (64 - L) := by rw [← Nat.pow_add]; congr 1; omega
    _ ≤ _ := Nat.mul_le_mul_right _ b
 · calc m * 2 ^ (64 - L) < 2 ^ L * 2 ^ (64 - L) := Nat.mul_lt_mul_of_pos_right c (Nat.two_pow_pos _)
    _ = 2 ^ 64 := by rw [← Nat.pow_add]; congr 1; omega
structure FT2 (PT : Nat → Nat × Nat) (w : World) : Prop where
 p10 : P10At PT w
 ten : Ten w
 size : 10 < w.heap.size ∧ 1 < w.heap.size
theorem FT2.keeps {PT : Nat → Nat × Nat} {w w' : World} (h : FT2 PT w) (hk : Keeps (fun _ => False) w w') : FT2 PT w' := ⟨h.p10.keeps hk, h.ten.keeps hk id, Nat.lt_of_lt_of_le h.size.1 hk.size, Nat.lt_of_lt_of_le h.size.2 hk.size⟩
def PTOk (PT : Nat → Nat × Nat) : Prop := ∀ i, i < 696 → (PT i).1 * 2 ^ 64 = Fl.powM ((i : Int) - 348) + (PT i).2 ∧ (PT i).1 < 2 ^ 64 ∧ (PT i).2 < 2 ^ 64
theorem PTOk.hi {PT : Nat → Nat × Nat} (h : PTOk PT) (i : Nat) (hi : i < 696) : 2 ^ 63 ≤ (PT i).1 ∧ (PT i).1 < 2 ^ 64 := by
 have h1 := h i hi
 have h2 := Fl.in_all (n := 696) (f := fun p => decide (2 ^ 127 ≤ Fl.powM p) && decide (Fl.powM p < 2 ^ 128)) (m := 348) Fl.pow_all ((i : Int) - 348) (by omega) (by omega)
 simp only [Bool.and_eq_true, decide_eq_true_eq] at h2
 refine ⟨?_, h1.2.1⟩
 have := h1.1
 have h3 := h2.1
 omega
theorem len_of_norm {m s : Nat} (hs : s ≤ 63) (h1 : 2 ^ 63 ≤ m * 2 ^ s) (h2 : m * 2 ^ s < 2 ^ 64) : s = 64 - Fl.len m ∧ Fl.len m ≤ 64 := by
 have hp := Nat.two_pow_pos s
 have a1 : 2 ^ (63 - s) ≤ m := by
  refine Nat.le_of_mul_le_mul_right (c := 2 ^ s) ?_ hp
  rw [← Nat.pow_add, show 63 - s + s = 63 by omega]; exact h1
 have a2 : m < 2 ^ (63 - s + 1) := by
  refine Nat.lt_of_mul_lt_mul_right (a := 2 ^ s) ?_
  rw [← Nat.pow_add, show 63 - s + 1 + s = 64 by omega]; exact h2
 have hm : m ≠ 0 := by have := Nat.two_pow_pos (63 - s); omega
 have a3 : m.log2 = 63 - s := (Nat.log2_eq_iff hm).2 ⟨a1, a2⟩
 unfold Fl.len
 omega
def NearT (mb top k N D : Nat) : Prop := Fl.Near mb k N D ∧ (mb = 23 → top = 149 → k = 2139095039 → N ≤ 34028235 * 10 ^ 31 * 2 ^ 149 * D)
theorem NearT.zero {mb top N D : Nat} (h : Fl.Near mb 0 N D) : NearT mb top 0 N D := ⟨h, fun _ _ e => absurd e (by decide)⟩
theorem short_top (hi lo : Nat) (hM : hi * 2 ^ 64 = Fl.powM (Fl.shP (Fl.skewed 23 16777215 253) (((253 : Nat) : Int) - ((149 : Nat) : Int))) + lo) (hlo : lo < 2 ^ 64) : Fl.shortD 23 149 16777215 253 hi lo = (34028235, 31) := by
 rw [Fl.shortD_pick 23 149 16777215 253 hi lo (by decide) (by decide) (by decide) (by decide) (by decide) hM hlo]
 decide +kernel
theorem ftoa_val {PT : Nat → Nat × Nat} (hok : PTOk PT) (mb top mant j s mm nd nz d : Nat) (minE e p : Int) (neg : Bool) (T : List UInt8) (fd : Nat → UInt8) (hmin : minE = -(top + 63 - mb : Int)) (hm : 0 < mant) (hmb : 1 ≤ mb ∧ mb ≤ 52) (h : 2 ^ mb ≤ mant ∨ j = 0) (hm2 : mant < 2 ^ (mb + 1))
 (h1 : -1074 ≤ (j : Int) - top) (h2 : (j : Int) - top ≤ 971) (hs : s ≤ 63) (hmm : mant * 2 ^ s = mm) (h63 : 2 ^ 63 ≤ mm) (h64 : mm < 2 ^ 64) (he : (j : Int) - top - s = e) (hv : Fl.ShGood PT mb minE mm e → (d, p) = Fl.shX PT mb minE mm e)
 (hnd : d < 10 ^ nd) (hfd : (fun k => Lib.dg d (nd - 1 - k)) = fd) (hnz : strip nd fd = nz) (hT : Fl.Digits fd nz → 1 ≤ nz → Fl.nval (Fl.dsq fd 0 nz) < 10 ^ 19 → Fl.NumText neg T (Fl.nval (Fl.dsq fd 0 nz)) ((nd : Int) + p - nz)) :
 ∃ n q, Fl.NumText neg T n q ∧ NearT mb top (mant + j * 2 ^ mb) (Fl.decN top n q) (Fl.decD q) := by
 rw [← hmm] at h63 h64
 obtain ⟨hs1, hl⟩ := len_of_norm hs h63 h64
 have key := Fl.shX_short PT mb top mant j hm hmb h hm2 h1 h2 (fun i hi => hok.hi i hi)
 rw [← hs1, hmm, he, ← hmin] at key
 have hw := Fl.wide_of (Fl.skewed mb mant j) _ h1 h2
 have hdp := (hv key.1).trans key.2.2
 obtain ⟨i, hi⟩ : ∃ i : Nat, Fl.shP (Fl.skewed mb mant j) ((j : Int) - top) + 348 = (i : Int) := ⟨(Fl.shP (Fl.skewed mb mant j) ((j : Int) - top) + 348).toNat, by omega⟩
 rw [hi, show ((i : Int)).toNat = i from rfl] at hdp
 have ho := hok i (by omega)
 rw [show (i : Int) - 348 = Fl.shP (Fl.skewed mb mant j) ((j : Int) - top) by omega] at ho
 have near := Fl.shortD_near mb top mant j (PT i).1 (PT i).2 hm hmb h hm2 h1 h2 ho.1 ho.2.2
 have bnd := Fl.shortD_bound mb top mant j (PT i).1 (PT i).2 hm hmb hm2 h1 h2 ho.1 ho.2.2
 rw [← hdp] at near bnd
 dsimp only at near bnd
 rw [← hfd] at hnz hT
 have v1 := strip_val d nd hnd
 have v2 := strip_pos d nd hnd bnd.1
 have v3 := strip_le_val d nd hnd
 have v4 := strip_le nd (fun k => Lib.dg d (nd - 1 - k))
 rw [hnz] at v1 v2 v3 v4
 have htop : mb = 23 → top = 149 → mant + j * 2 ^ mb = 2139095039 → d = 34028235 ∧ p = 31 := by
  intro e1 e2 e5
  subst e1 e2
  have h3 : mant = 16777215 ∧ j = 253 := by
   rcases h with h | h <;> omega
  obtain ⟨rfl, rfl⟩ := h3
  rw [short_top _ _ ho.1 ho.2.2] at hdp
  exact ⟨congrArg Prod.fst hdp, congrArg Prod.snd hdp⟩
 clear hdp ho
 refine ⟨_, _, hT (digits_dg d nd nz) v2 (Nat.lt_of_le_of_lt v3 (Nat.lt_trans bnd.2.1 (by decide))), Fl.near_dec near ?_, fun e1 e2 e5 => ?_⟩
 rotate_left
 · obtain ⟨hd9, hp9⟩ := htop e1 e2 e5
   subst e2
   unfold Fl.decN Fl.decD
   generalize Fl.nval (Fl.dsq (fun k => Lib.dg d (nd - 1 - k)) 0 nz) = n at v1 ⊢
   rw [← hd9, ← v1]
   have e3 : 10 ^ (nd - nz) * 10 ^ 31 * 10 ^ (-((nd : Int) + p - nz)).toNat = 10 ^ ((nd : Int) + p - nz).toNat := by
    simp only [← Nat.pow_add]; congr 1; omega
   rw [← e3]
   generalize 10 ^ (nd - nz) = a
   generalize 10 ^ (-((nd : Int) + p - nz)).toNat = c
   generalize 2 ^ 149 = z
   generalize 10 ^ 31 = b
   exact Nat.le_of_eq (by grind)
 generalize Fl.nval (Fl.dsq (fun k => Lib.dg d (nd - 1 - k)) 0 nz) = n at *
 have e3 : 10 ^ (nd - nz) * 10 ^ p.toNat * 10 ^ (-((nd : Int) + p - nz)).toNat = 10 ^ ((nd : Int) + p - nz).toNat * 10 ^ (-p).toNat := by
  simp only [← Nat.pow_add]; congr 1; omega
 generalize 10 ^ (nd - nz) = a at *
 generalize 10 ^ p.toNat = b at *
 generalize 10 ^ (-((nd : Int) + p - nz)).toNat = c at *
 generalize 10 ^ ((nd : Int) + p - nz).toNat = f at *
 generalize 10 ^ (-p).toNat = g at *
 rw [← v1]
 have e4 : n * a * b * c = n * (a * b * c) := by grind
 rw [e4, e3]; grind
theorem or_top (mb M : Nat) (h : M < 2 ^ mb) : M ||| 2 ^ mb = M + 2 ^ mb := by
 have := Nat.two_pow_add_eq_or_of_lt h 1
 rw [Nat.mul_one] at this
 rw [Nat.or_comm, ← this, Nat.add_comm]
theorem mask_i64_11 (n : Int) : bits .and .i64 n 2047 = n % 2048 := by
 have h127 : (BitVec.ofInt 64 2047).toNat = 2 ^ 11 - 1 := by decide
 have key : (BitVec.ofInt 64 n &&& BitVec.ofInt 64 2047).toNat = (n % ((2 ^ 64 : Nat) : Int)).toNat % 2 ^ 11 := by
  rw [BitVec.toNat_and, BitVec.toNat_ofInt, h127, Nat.and_two_pow_sub_one_eq_mod]
 show IntKind.i64.wrap ((BitVec.ofInt 64 n &&& BitVec.ofInt 64 2047).toNat : Nat) = n % 2048
 rw [key, IntKind.wrap_i64]
 omega
theorem mask_i64_8 (n : Int) : bits .and .i64 n 255 = n % 256 := by
 have h127 : (BitVec.ofInt 64 255).toNat = 2 ^ 8 - 1 := by decide
 have key : (BitVec.ofInt 64 n &&& BitVec.ofInt 64 255).toNat = (n % ((2 ^ 64 : Nat) : Int)).toNat % 2 ^ 8 := by
  rw [BitVec.toNat_and, BitVec.toNat_ofInt, h127, Nat.and_two_pow_sub_one_eq_mod]
 show IntKind.i64.wrap ((BitVec.ofInt 64 n &&& BitVec.ofInt 64 255).toNat : Nat) = n % 256
 rw [key, IntKind.wrap_i64]
 omega
theorem mask_u64_52 (n : Int) (h0 : 0 ≤ n) (h1 : n < 18446744073709551616) : bits .and .u64 n 4503599627370495 = n % 4503599627370496 := by
 have h127 : (BitVec.ofInt 64 4503599627370495).toNat = 2 ^ 52 - 1 := by decide
 have key : (BitVec.ofInt 64 n &&& BitVec.ofInt 64 4503599627370495).toNat = (n % ((2 ^ 64 : Nat) : Int)).toNat % 2 ^ 52 := by
  rw [BitVec.toNat_and, BitVec.toNat_ofInt, h127, Nat.and_two_pow_sub_one_eq_mod]
 show IntKind.u64.wrap ((BitVec.ofInt 64 n &&& BitVec.ofInt 64 4503599627370495).toNat : Nat) = n % 4503599627370496
 rw [key, IntKind.wrap_u64]
 omega
theorem mask_u64_23 (n : Int) (h0 : 0 ≤ n) (h1 : n < 18446744073709551616) : bits .and .u64 n 8388607 = n % 8388608 := by
 have h127 : (BitVec.ofInt 64 8388607).toNat = 2 ^ 23 - 1 := by decide
 have key : (BitVec.ofInt 64 n &&& BitVec.ofInt 64 8388607).toNat = (n % ((2 ^ 64 : Nat) : Int)).toNat % 2 ^ 23 := by
  rw [BitVec.toNat_and, BitVec.toNat_ofInt, h127, Nat.and_two_pow_sub_one_eq_mod]
 show IntKind.u64.wrap ((BitVec.ofInt 64 n &&& BitVec.ofInt 64 8388607).toNat : Nat) = n % 8388608
 rw [key, IntKind.wrap_u64]
 omega
set_option maxRecDepth 1000000 in
set_option maxHeartbeats 40000000 in
theorem ftoa64_norm (PT : Nat → Nat × Nat) (hPT : ∀ i, i < 696 → (PT i).1 < 18446744073709551616 ∧ (PT i).2 < 18446744073709551616) (b : Nat) (hb64 : b < 18446744073709551616) (E M : Nat) (neg : Bool) (hE : bits .and .i64 ((b : Int) / 4503599627370496) 2047 = (E : Int)) (hM : bits .and .u64 (b : Int) 4503599627370495 = (M : Int)) (hN : ((b : Int) / 9223372036854775808 != 0) = neg) (hE2 : E ≤ 2047) (hM2 : M < 4503599627370496) (h1 : ¬ (E : Int) = 2047) (h2 : ¬ (E : Int) = 0) : ∃ T : List UInt8, T.length ≤ 1000 ∧ (PTOk PT → ¬ (E : Int) = 2047 → ∃ n q, Fl.NumText neg T n q ∧ NearT 52 1074 (M + E * 2 ^ 52) (Fl.decN 1074 n q) (Fl.decD q)) ∧ ∀ (w : World) (v : Value) (l : List UInt8), FT2 PT w → Own w v l → l.length ≤ 140737488350000 →
 Calls Tryz.prog 90 #[v, .float .f64 b, .int .u8 103, .int .i64 (-1)] w (OutRes w v (l ++ T)) := by
 have h1' : ((E : Int) == 2047) = false := by simpa using h1
 have h2' : ((E : Int) == 0) = false := by simpa using h2
 obtain ⟨m, hm0⟩ : ∃ m, M ||| 4503599627370496 = m := ⟨_, rfl⟩
 have hm3 : bits .or .u64 (M : Int) 4503599627370496 = (m : Int) := by rw [← hm0]; exact u64_or_nat M 4503599627370496 (by omega) (by omega)
 have hm1 : 1 ≤ m := by rw [← hm0]; exact Nat.le_trans (by omega) Nat.right_le_or
 have hm2 : m < 2 ^ 63 := by rw [← hm0]; exact Nat.lt_of_lt_of_le (Nat.or_lt_two_pow (n := 53) (by omega) (by omega)) (by omega)
 have hm4 : ((m : Int) == 0) = false := by simp; omega
 have hmM : m = M + 4503599627370496 := by rw [← hm0]; exact or_top 52 M hM2
 clear hm0
 obtain ⟨x, hx⟩ : ∃ x : Int, (E : Int) + -1023 = x := ⟨_, rfl⟩
 obtain ⟨s, hs1, hs2, hs3, hs4, hs5⟩ := norm_ex m hm1 hm2
 obtain ⟨mm, hmm⟩ : ∃ mm, m * 2 ^ s = mm := ⟨_, rfl⟩
 rw [hmm] at hs4 hs5
 obtain ⟨L, hL⟩ : ∃ L, Lib.bitLen m = L := ⟨_, rfl⟩
 obtain ⟨e, he⟩ : ∃ e : Int, x - (s : Int) - 52 = e := ⟨_, rfl⟩
 obtain ⟨d, p, hd, hp1, hp2, hdv, hsf⟩ := short64_ex PT hPT mm e hs4 (by omega) (by omega) (by omega)
 obtain ⟨nd, hnd, hnd2, hnum⟩ := numDigits_ex d hd
 obtain ⟨fd, hfd⟩ : ∃ fd : Nat → UInt8, (fun j => Lib.dg d (nd - 1 - j)) = fd := ⟨_, rfl⟩
 obtain ⟨nz, hnz⟩ : ∃ nz, strip nd fd = nz := ⟨_, rfl⟩
 have hnzl : nz ≤ nd := by rw [← hnz]; exact strip_le nd fd
 obtain ⟨T, hT, hTv, hfmt⟩ := fmtEFG_ex neg nz ((nd : Int) + p) fd (by omega) (by omega) (by omega)
 have hvalue : PTOk PT → ¬ (E : Int) = 2047 → ∃ n q, Fl.NumText neg T n q ∧ NearT 52 1074 (M + E * 2 ^ 52) (Fl.decN 1074 n q) (Fl.decD q) := by
  intro hok _
  obtain ⟨j, hj⟩ : ∃ j, E = j + 1 := ⟨E - 1, by omega⟩
  have k := ftoa_val hok 52 1074 m j s mm nd nz d (-1085) e p neg T fd (by decide) (by omega) (by decide) (Or.inl (by omega)) (by omega) (by omega) (by omega) hs3 hmm hs4 hs5 (by omega) hdv hnd2 hfd hnz hTv
  rw [show m + j * 2 ^ 52 = M + E * 2 ^ 52 by rw [hmM, hj, Nat.add_mul]; omega] at k
  exact k
 have hset : Hid (∀ (w : World) (B : Nat), ZeroRow w B 32 → Calls Tryz.prog 113 #[.slice (some ⟨B, 0, none⟩) 32 32, .int .u64 (d : Int), .int .i64 p, .int .i64 (nd : Int)] w fun e w' => e = .returned (.tuple #[.int .i64 ((nd : Int) + p), .int .i64 (nz : Int)]) ∧ Keeps (fun k => k = B) w w' ∧ Digs w' B nz fd) := fun w B hz => (setDigits_any d nd p hd hnd hnd2 (by omega) (by omega) w B hz).mono fun e w' h => by
  rw [hfd, hnz] at h
  exact ⟨h.1, h.2.1, fun j hj => by rw [h.2.2 j (by omega)]; rw [← hfd]⟩
 have HLEN := Lib.hid (len64_any m (by omega))
 rw [hL] at HLEN
 have HNUM := Lib.hid hnum
 have HSF := Lib.hid hsf
 have HFMT := Lib.hid hfmt
 have hsub : (64 : Int) - (L : Int) = (s : Int) := by omega
 have hs64 : s < 64 := by omega
 have hsh : IntKind.u64.wrap ((m : Int) * 2 ^ s) = (mm : Int) := by
  rw [← hmm, IntKind.wrap_u64]
  have : ((m * 2 ^ s : Nat) : Int) = (m : Int) * 2 ^ s := by push_cast; rfl
  rw [← this]
  omega
 clear hL hs1 hs2 hs3 hs4 hfd hnz hsf hnum hfmt hmm hdv hTv
 refine ⟨T, hT, hvalue, fun w v l hTab hown hb => ?_⟩
 clear hvalue
 try clear hmM
 have HOWN := Lib.hid hown
 have HTAB := Lib.hid hTab
 clear hown hTab
 have hfb := f64bits_run b
 go_enter Tryz.func90, Tryz.ntmps90
 go_wp2_with (fail)
 go_quiet (fail)
 go_upto_region 34 with (fail)
 obtain ⟨W1, hW1⟩ : ∃ W, (w.drewN nq).alloc (.cells #[.int .u8 0, .int .u8 0, .int .u8 0, .int .u8 0, .int .u8 0, .int .u8 0, .int .u8 0, .int .u8 0, .int .u8 0, .int .u8 0, .int .u8 0, .int .u8 0, .int .u8 0, .int .u8 0, .int .u8 0, .int .u8 0, .int .u8 0, .int .u8 0, .int .u8 0, .int .u8 0, .int .u8 0, .int .u8 0, .int .u8 0, .int .u8 0, .int .u8 0, .int .u8 0, .int .u8 0, .int .u8 0, .int .u8 0, .int .u8 0, .int .u8 0, .int .u8 0] 174) = W := ⟨_, rfl⟩
 have hk1 : Keeps (fun _ => False) w W1 := by rw [← hW1]; exact ((Keeps.refl _ w).drewN _).alloc _
 have hz1 : ZeroRow W1 w.heap.size 32 := by rw [← hW1]; exact ⟨_, heap_alloc_new (w.drewN nq) _⟩
 have hlt1 : w.heap.size < W1.heap.size := by rw [← hW1]; simp [World.drewN]
 rw [hW1]
 have hvb : ∀ k, v.ownBlock = some k → k < w.heap.size := HOWN.out.lt
 obtain ⟨K, hK⟩ : ∃ K, w.heap.size = K := ⟨_, rfl⟩
 have hKw : w.heap.size ≤ K := Nat.le_of_eq hK
 rw [hK] at hz1 hlt1 hvb ⊢
 have HKW := Lib.hid hKw
 have HVB : Hid (¬ v.ownBlock = some K) := fun e => absurd (hvb K e) (Nat.lt_irrefl _)
 have HK1 := Lib.hid hk1
 have HZ1 := Lib.hid hz1
 have HLT1 := Lib.hid hlt1
 clear hW1 hk1 hz1 hK hKw hvb hlt1
 go_wp2_with (first
  | (go_at_call 103; refine (HLEN.out _).mono ?_; rintro en w' ⟨rfl, hww⟩; obtain rfl := hww.symm)
  | (go_at_call 118; refine (HSF.out _ ((HTAB.out.keeps HK1.out).p10) (HTAB.out.keeps HK1.out).size.1).mono ?_; rintro en w2 ⟨rfl, k2⟩; have K2 := Lib.hid k2; clear k2))
 have HTEN : Hid (∀ wx, Keeps (fun _ => False) w2 wx → Ten wx) := fun wx h => (((HTAB.out.keeps HK1.out).keeps K2.out).keeps h).ten
 have HZZ : Hid (∀ wx, Keeps (fun _ => False) w2 wx → ZeroRow wx K 32) := fun wx h => by
  obtain ⟨T, ht⟩ := HZ1.out
  exact ⟨T, (K2.out.trans h (fun _ _ h => h)).row ht id⟩
 go_region_held3 (fun _ => True) (trivial) (first
  | ((go_at_call 86; refine (HNUM.out _ (HTEN.out _ (by repeat (first | exact Keeps.refl _ _ | apply Keeps.drew)))).mono ?_; rintro en w' ⟨rfl, hww⟩; obtain rfl := hww.symm))
  | ((go_at_call 113; refine (hset.out _ _ (HZZ.out _ (by repeat (first | exact Keeps.refl _ _ | apply Keeps.drew)))).mono ?_; rintro en w3 ⟨rfl, k3, d3⟩; have K3 : Hid (Keeps (fun _ => False) w w3) := ((HK1.out.trans K2.out (fun _ _ h => h)).trans (by repeat (first | exact Keeps.refl _ _ | apply Keeps.drew)) (fun _ _ (h : False) => h)).trans k3 (fun i hi e => by have := HKW.out; omega); have D3 := Lib.hid d3; clear k3 d3)))
 all_goals go_wp2_with (go_at_call 111; refine (HFMT.out _ v l K (HOWN.out.below K3.out) HVB.out D3.out hb).mono ?_; rintro en w4 ⟨v4, rfl, o4⟩; have O4 := Lib.hid o4; clear o4)
 all_goals go_ret
 all_goals exact OutRes.rebase K3.out ⟨v4, rfl, O4.out⟩
set_option maxRecDepth 1000000 in
set_option maxHeartbeats 40000000 in
theorem ftoa64_sub (PT : Nat → Nat × Nat) (hPT : ∀ i, i < 696 → (PT i).1 < 18446744073709551616 ∧ (PT i).2 < 18446744073709551616) (b : Nat) (hb64 : b < 18446744073709551616) (E M : Nat) (neg : Bool) (hE : bits .and .i64 ((b : Int) / 4503599627370496) 2047 = (E : Int)) (hM : bits .and .u64 (b : Int) 4503599627370495 = (M : Int)) (hN : ((b : Int) / 9223372036854775808 != 0) = neg) (hE2 : E ≤ 2047) (hM2 : M < 4503599627370496) (h1 : ¬ (E : Int) = 2047) (h2 : (E : Int) = 0) (h3 : ¬ (M : Int) = 0) : ∃ T : List UInt8, T.length ≤ 1000 ∧ (PTOk PT → ¬ (E : Int) = 2047 → ∃ n q, Fl.NumText neg T n q ∧ NearT 52 1074 (M + E * 2 ^ 52) (Fl.decN 1074 n q) (Fl.decD q)) ∧ ∀ (w : World) (v : Value) (l : List UInt8), FT2 PT w → Own w v l → l.length ≤ 140737488350000 →
 Calls Tryz.prog 90 #[v, .float .f64 b, .int .u8 103, .int .i64 (-1)] w (OutRes w v (l ++ T)) := by
 have h1' : ((E : Int) == 2047) = false := by simpa using h1
 have h2' : ((E : Int) == 0) = true := by simpa using h2
 obtain ⟨m, hm0⟩ : ∃ m, M = m := ⟨_, rfl⟩
 subst hm0
 have hm1 : 1 ≤ M := by omega
 have hm2 : M < 2 ^ 63 := by omega
 have hm4 : ((M : Int) == 0) = false := by simp; omega
 obtain ⟨s, hs1, hs2, hs3, hs4, hs5⟩ := norm_ex M hm1 hm2
 obtain ⟨mm, hmm⟩ : ∃ mm, M * 2 ^ s = mm := ⟨_, rfl⟩
 rw [hmm] at hs4 hs5
 obtain ⟨L, hL⟩ : ∃ L, Lib.bitLen M = L := ⟨_, rfl⟩
 obtain ⟨e, he⟩ : ∃ e : Int, (-1022) - (s : Int) - 52 = e := ⟨_, rfl⟩
 obtain ⟨d, p, hd, hp1, hp2, hdv, hsf⟩ := short64_ex PT hPT mm e hs4 (by omega) (by omega) (by omega)
 obtain ⟨nd, hnd, hnd2, hnum⟩ := numDigits_ex d hd
 obtain ⟨fd, hfd⟩ : ∃ fd : Nat → UInt8, (fun j => Lib.dg d (nd - 1 - j)) = fd := ⟨_, rfl⟩
 obtain ⟨nz, hnz⟩ : ∃ nz, strip nd fd = nz := ⟨_, rfl⟩
 have hnzl : nz ≤ nd := by rw [← hnz]; exact strip_le nd fd
 obtain ⟨T, hT, hTv, hfmt⟩ := fmtEFG_ex neg nz ((nd : Int) + p) fd (by omega) (by omega) (by omega)
 have hvalue : PTOk PT → ¬ (E : Int) = 2047 → ∃ n q, Fl.NumText neg T n q ∧ NearT 52 1074 (M + E * 2 ^ 52) (Fl.decN 1074 n q) (Fl.decD q) := by
  intro hok _
  have k := ftoa_val hok 52 1074 M 0 s mm nd nz d (-1085) e p neg T fd (by decide) (by omega) (by decide) (Or.inr rfl) (by omega) (by omega) (by omega) hs3 hmm hs4 hs5 (by omega) hdv hnd2 hfd hnz hTv
  rw [show M + 0 * 2 ^ 52 = M + E * 2 ^ 52 by rw [show E = 0 by omega]] at k
  exact k
 have hset : Hid (∀ (w : World) (B : Nat), ZeroRow w B 32 → Calls Tryz.prog 113 #[.slice (some ⟨B, 0, none⟩) 32 32, .int .u64 (d : Int), .int .i64 p, .int .i64 (nd : Int)] w fun e w' => e = .returned (.tuple #[.int .i64 ((nd : Int) + p), .int .i64 (nz : Int)]) ∧ Keeps (fun k => k = B) w w' ∧ Digs w' B nz fd) := fun w B hz => (setDigits_any d nd p hd hnd hnd2 (by omega) (by omega) w B hz).mono fun e w' h => by
  rw [hfd, hnz] at h
  exact ⟨h.1, h.2.1, fun j hj => by rw [h.2.2 j (by omega)]; rw [← hfd]⟩
 have HLEN := Lib.hid (len64_any M (by omega))
 rw [hL] at HLEN
 have HNUM := Lib.hid hnum
 have HSF := Lib.hid hsf
 have HFMT := Lib.hid hfmt
 have hsub : (64 : Int) - (L : Int) = (s : Int) := by omega
 have hs64 : s < 64 := by omega
 have hsh : IntKind.u64.wrap ((M : Int) * 2 ^ s) = (mm : Int) := by
  rw [← hmm, IntKind.wrap_u64]
  have : ((M * 2 ^ s : Nat) : Int) = (M : Int) * 2 ^ s := by push_cast; rfl
  rw [← this]
  omega
 clear hL hs1 hs2 hs3 hs4 hfd hnz hsf hnum hfmt hmm hdv hTv
 refine ⟨T, hT, hvalue, fun w v l hTab hown hb => ?_⟩
 clear hvalue
 try clear hmM
 have HOWN := Lib.hid hown
 have HTAB := Lib.hid hTab
 clear hown hTab
 have hfb := f64bits_run b
 go_enter Tryz.func90, Tryz.ntmps90
 go_wp2_with (fail)
 go_quiet (fail)
 go_upto_region 34 with (fail)
 obtain ⟨W1, hW1⟩ : ∃ W, (w.drewN nq).alloc (.cells #[.int .u8 0, .int .u8 0, .int .u8 0, .int .u8 0, .int .u8 0, .int .u8 0, .int .u8 0, .int .u8 0, .int .u8 0, .int .u8 0, .int .u8 0, .int .u8 0, .int .u8 0, .int .u8 0, .int .u8 0, .int .u8 0, .int .u8 0, .int .u8 0, .int .u8 0, .int .u8 0, .int .u8 0, .int .u8 0, .int .u8 0, .int .u8 0, .int .u8 0, .int .u8 0, .int .u8 0, .int .u8 0, .int .u8 0, .int .u8 0, .int .u8 0, .int .u8 0] 174) = W := ⟨_, rfl⟩
 have hk1 : Keeps (fun _ => False) w W1 := by rw [← hW1]; exact ((Keeps.refl _ w).drewN _).alloc _
 have hz1 : ZeroRow W1 w.heap.size 32 := by rw [← hW1]; exact ⟨_, heap_alloc_new (w.drewN nq) _⟩
 have hlt1 : w.heap.size < W1.heap.size := by rw [← hW1]; simp [World.drewN]
 rw [hW1]
 have hvb : ∀ k, v.ownBlock = some k → k < w.heap.size := HOWN.out.lt
 obtain ⟨K, hK⟩ : ∃ K, w.heap.size = K := ⟨_, rfl⟩
 have hKw : w.heap.size ≤ K := Nat.le_of_eq hK
 rw [hK] at hz1 hlt1 hvb ⊢
 have HKW := Lib.hid hKw
 have HVB : Hid (¬ v.ownBlock = some K) := fun e => absurd (hvb K e) (Nat.lt_irrefl _)
 have HK1 := Lib.hid hk1
 have HZ1 := Lib.hid hz1
 have HLT1 := Lib.hid hlt1
 clear hW1 hk1 hz1 hK hKw hvb hlt1
 go_wp2_with (first
  | (go_at_call 103; refine (HLEN.out _).mono ?_; rintro en w' ⟨rfl, hww⟩; obtain rfl := hww.symm)
  | (go_at_call 118; refine (HSF.out _ ((HTAB.out.keeps HK1.out).p10) (HTAB.out.keeps HK1.out).size.1).mono ?_; rintro en w2 ⟨rfl, k2⟩; have K2 := Lib.hid k2; clear k2))
 have HTEN : Hid (∀ wx, Keeps (fun _ => False) w2 wx → Ten wx) := fun wx h => (((HTAB.out.keeps HK1.out).keeps K2.out).keeps h).ten
 have HZZ : Hid (∀ wx, Keeps (fun _ => False) w2 wx → ZeroRow wx K 32) := fun wx h => by
  obtain ⟨T, ht⟩ := HZ1.out
  exact ⟨T, (K2.out.trans h (fun _ _ h => h)).row ht id⟩
 go_region_held3 (fun _ => True) (trivial) (first
  | ((go_at_call 86; refine (HNUM.out _ (HTEN.out _ (by repeat (first | exact Keeps.refl _ _ | apply Keeps.drew)))).mono ?_; rintro en w' ⟨rfl, hww⟩; obtain rfl := hww.symm))
  | ((go_at_call 113; refine (hset.out _ _ (HZZ.out _ (by repeat (first | exact Keeps.refl _ _ | apply Keeps.drew)))).mono ?_; rintro en w3 ⟨rfl, k3, d3⟩; have K3 : Hid (Keeps (fun _ => False) w w3) := ((HK1.out.trans K2.out (fun _ _ h => h)).trans (by repeat (first | exact Keeps.refl _ _ | apply Keeps.drew)) (fun _ _ (h : False) => h)).trans k3 (fun i hi e => by have := HKW.out; omega); have D3 := Lib.hid d3; clear k3 d3)))
 all_goals go_wp2_with (go_at_call 111; refine (HFMT.out _ v l K (HOWN.out.below K3.out) HVB.out D3.out hb).mono ?_; rintro en w4 ⟨v4, rfl, o4⟩; have O4 := Lib.hid o4; clear o4)
 all_goals go_ret
 all_goals exact OutRes.rebase K3.out ⟨v4, rfl, O4.out⟩
set_option exponentiation.threshold 3000 in
set_option maxRecDepth 1000000 in
set_option maxHeartbeats 40000000 in
theorem ftoa64_zero_true (PT : Nat → Nat × Nat) (hPT : ∀ i, i < 696 → (PT i).1 < 18446744073709551616 ∧ (PT i).2 < 18446744073709551616) (b : Nat) (hb64 : b < 18446744073709551616) (E M : Nat) (neg : Bool) (hE : bits .and .i64 ((b : Int) / 4503599627370496) 2047 = (E : Int)) (hM : bits .and .u64 (b : Int) 4503599627370495 = (M : Int)) (hN : ((b : Int) / 9223372036854775808 != 0) = neg) (hE2 : E ≤ 2047) (hM2 : M < 4503599627370496) (h1 : ¬ (E : Int) = 2047) (h2 : (E : Int) = 0) (h3 : (M : Int) = 0) (hng : neg = true) : ∃ T : List UInt8, T.length ≤ 1000 ∧ (PTOk PT → ¬ (E : Int) = 2047 → ∃ n q, Fl.NumText neg T n q ∧ NearT 52 1074 (M + E * 2 ^ 52) (Fl.decN 1074 n q) (Fl.decD q)) ∧ ∀ (w : World) (v : Value) (l : List UInt8), FT2 PT w → Own w v l → l.length ≤ 140737488350000 →
 Calls Tryz.prog 90 #[v, .float .f64 b, .int .u8 103, .int .i64 (-1)] w (OutRes w v (l ++ T)) := by
 subst hng
 have h1' : ((E : Int) == 2047) = false := by simpa using h1
 have h2' : ((E : Int) == 0) = true := by simpa using h2
 have h3' : ((M : Int) == 0) = true := by simpa using h3
 refine ⟨[45] ++ [48], by simp, fun _ _ => ⟨0, 0, Fl.numText_Z true 0, by rw [show M + E * 2 ^ 52 = 0 by rw [show E = 0 by omega]; omega]; exact NearT.zero (Fl.near_small 52 _ _ (by decide) (by decide))⟩, fun w v l hTab hown hb => ?_⟩
 have HOWN := Lib.hid hown
 clear hown hTab
 have hfb := f64bits_run b
 go_enter Tryz.func90, Tryz.ntmps90
 go_wp2_with (fail)
 go_quiet (fail)
 go_wp2_with (go_at_call 111; refine (fmtF_zero_true _ v l (HOWN.out.below (by repeat (first | exact Keeps.refl _ _ | apply Keeps.drewN | apply Keeps.drew))) hb).mono ?_; rintro en w4 ⟨v4, rfl, o4⟩; have O4 := Lib.hid o4; clear o4)
 go_ret
 exact OutRes.rebase ((Keeps.refl _ w).drewN _) ⟨v4, rfl, O4.out⟩
set_option exponentiation.threshold 3000 in
set_option maxRecDepth 1000000 in
set_option maxHeartbeats 40000000 in
theorem ftoa64_zero_false (PT : Nat → Nat × Nat) (hPT : ∀ i, i < 696 → (PT i).1 < 18446744073709551616 ∧ (PT i).2 < 18446744073709551616) (b : Nat) (hb64 : b < 18446744073709551616) (E M : Nat) (neg : Bool) (hE : bits .and .i64 ((b : Int) / 4503599627370496) 2047 = (E : Int)) (hM : bits .and .u64 (b : Int) 4503599627370495 = (M : Int)) (hN : ((b : Int) / 9223372036854775808 != 0) = neg) (hE2 : E ≤ 2047) (hM2 : M < 4503599627370496) (h1 : ¬ (E : Int) = 2047) (h2 : (E : Int) = 0) (h3 : (M : Int) = 0) (hng : neg = false) : ∃ T : List UInt8, T.length ≤ 1000 ∧ (PTOk PT → ¬ (E : Int) = 2047 → ∃ n q, Fl.NumText neg T n q ∧ NearT 52 1074 (M + E * 2 ^ 52) (Fl.decN 1074 n q) (Fl.decD q)) ∧ ∀ (w : World) (v : Value) (l : List UInt8), FT2 PT w → Own w v l → l.length ≤ 140737488350000 →
 Calls Tryz.prog 90 #[v, .float .f64 b, .int .u8 103, .int .i64 (-1)] w (OutRes w v (l ++ T)) := by
 subst hng
 have h1' : ((E : Int) == 2047) = false := by simpa using h1
 have h2' : ((E : Int) == 0) = true := by simpa using h2
 have h3' : ((M : Int) == 0) = true := by simpa using h3
 refine ⟨[] ++ [48], by simp, fun _ _ => ⟨0, 0, Fl.numText_Z false 0, by rw [show M + E * 2 ^ 52 = 0 by rw [show E = 0 by omega]; omega]; exact NearT.zero (Fl.near_small 52 _ _ (by decide) (by decide))⟩, fun w v l hTab hown hb => ?_⟩
 have HOWN := Lib.hid hown
 clear hown hTab
 have hfb := f64bits_run b
 go_enter Tryz.func90, Tryz.ntmps90
 go_wp2_with (fail)
 go_quiet (fail)
 go_wp2_with (go_at_call 111; refine (fmtF_zero_false _ v l (HOWN.out.below (by repeat (first | exact Keeps.refl _ _ | apply Keeps.drewN | apply Keeps.drew))) hb).mono ?_; rintro en w4 ⟨v4, rfl, o4⟩; have O4 := Lib.hid o4; clear o4)
 go_ret
 exact OutRes.rebase ((Keeps.refl _ w).drewN _) ⟨v4, rfl, O4.out⟩
set_option maxRecDepth 1000000 in
set_option maxHeartbeats 40000000 in
theorem ftoa64_nan (PT : Nat → Nat × Nat) (hPT : ∀ i, i < 696 → (PT i).1 < 18446744073709551616 ∧ (PT i).2 < 18446744073709551616) (b : Nat) (hb64 : b < 18446744073709551616) (E M : Nat) (neg : Bool) (hE : bits .and .i64 ((b : Int) / 4503599627370496) 2047 = (E : Int)) (hM : bits .and .u64 (b : Int) 4503599627370495 = (M : Int)) (hN : ((b : Int) / 9223372036854775808 != 0) = neg) (hE2 : E ≤ 2047) (hM2 : M < 4503599627370496) (h1 : (E : Int) = 2047) (h3 : ¬ (M : Int) = 0) : ∃ T : List UInt8, T.length ≤ 1000 ∧ (PTOk PT → ¬ (E : Int) = 2047 → ∃ n q, Fl.NumText neg T n q ∧ NearT 52 1074 (M + E * 2 ^ 52) (Fl.decN 1074 n q) (Fl.decD q)) ∧ ∀ (w : World) (v : Value) (l : List UInt8), FT2 PT w → Own w v l → l.length ≤ 140737488350000 →
 Calls Tryz.prog 90 #[v, .float .f64 b, .int .u8 103, .int .i64 (-1)] w (OutRes w v (l ++ T)) := by
 have h1' : ((E : Int) == 2047) = true := by simpa using h1
 have h3' : ((M : Int) != 0) = true := by simpa using h3
 refine ⟨[78, 97, 78], by simp, fun _ h => absurd h1 h, fun w v l hTab hown hb => ?_⟩
 have H0 := Lib.hid (Out.start hown)
 clear hown hTab
 have hfb := f64bits_run b
 go_enter Tryz.func90, Tryz.ntmps90
 go_wp2_with (fail)
 go_quiet (fail)
 have H1 := Lib.hid (H0.out.drewN nq)
 go_wp2_with (at_builtin; refine at_out_str H1.out (.tmp 70) (.const (.string (mk [78, 97, 78]))) [78, 97, 78] (by simp; omega) rfl rfl rfl rfl ?_; intro v2 w2 o2; have H2 := Lib.hid o2; clear o2)
 go_ret
 exact ⟨_, rfl, H2.out⟩
set_option maxRecDepth 1000000 in
set_option maxHeartbeats 40000000 in
theorem ftoa64_ninf (PT : Nat → Nat × Nat) (hPT : ∀ i, i < 696 → (PT i).1 < 18446744073709551616 ∧ (PT i).2 < 18446744073709551616) (b : Nat) (hb64 : b < 18446744073709551616) (E M : Nat) (neg : Bool) (hE : bits .and .i64 ((b : Int) / 4503599627370496) 2047 = (E : Int)) (hM : bits .and .u64 (b : Int) 4503599627370495 = (M : Int)) (hN : ((b : Int) / 9223372036854775808 != 0) = neg) (hE2 : E ≤ 2047) (hM2 : M < 4503599627370496) (h1 : (E : Int) = 2047) (h3 : (M : Int) = 0) (hng : neg = true) : ∃ T : List UInt8, T.length ≤ 1000 ∧ (PTOk PT → ¬ (E : Int) = 2047 → ∃ n q, Fl.NumText neg T n q ∧ NearT 52 1074 (M + E * 2 ^ 52) (Fl.decN 1074 n q) (Fl.decD q)) ∧ ∀ (w : World) (v : Value) (l : List UInt8), FT2 PT w → Own w v l → l.length ≤ 140737488350000 →
 Calls Tryz.prog 90 #[v, .float .f64 b, .int .u8 103, .int .i64 (-1)] w (OutRes w v (l ++ T)) := by
 have h1' : ((E : Int) == 2047) = true := by simpa using h1
 have h3' : ((M : Int) != 0) = false := by simpa using h3
 subst hng
 refine ⟨[45, 73, 110, 102], by simp, fun _ h => absurd h1 h, fun w v l hTab hown hb => ?_⟩
 have H0 := Lib.hid (Out.start hown)
 clear hown hTab
 have hfb := f64bits_run b
 go_enter Tryz.func90, Tryz.ntmps90
 go_wp2_with (fail)
 go_quiet (fail)
 have H1 := Lib.hid (H0.out.drewN nq)
 go_wp2_with (at_builtin; refine at_out_str H1.out (.tmp 73) (.const (.string (mk [45, 73, 110, 102]))) [45, 73, 110, 102] (by simp; omega) rfl rfl rfl rfl ?_; intro v2 w2 o2; have H2 := Lib.hid o2; clear o2)
 go_ret
 exact ⟨_, rfl, H2.out⟩
set_option maxRecDepth 1000000 in
set_option maxHeartbeats 40000000 in
theorem ftoa64_pinf (PT : Nat → Nat × Nat) (hPT : ∀ i, i < 696 → (PT i).1 < 18446744073709551616 ∧ (PT i).2 < 18446744073709551616) (b : Nat) (hb64 : b < 18446744073709551616) (E M : Nat) (neg : Bool) (hE : bits .and .i64 ((b : Int) / 4503599627370496) 2047 = (E : Int)) (hM : bits .and .u64 (b : Int) 4503599627370495 = (M : Int)) (hN : ((b : Int) / 9223372036854775808 != 0) = neg) (hE2 : E ≤ 2047) (hM2 : M < 4503599627370496) (h1 : (E : Int) = 2047) (h3 : (M : Int) = 0) (hng : neg = false) : ∃ T : List UInt8, T.length ≤ 1000 ∧ (PTOk PT → ¬ (E : Int) = 2047 → ∃ n q, Fl.NumText neg T n q ∧ NearT 52 1074 (M + E * 2 ^ 52) (Fl.decN 1074 n q) (Fl.decD q)) ∧ ∀ (w : World) (v : Value) (l : List UInt8), FT2 PT w → Own w v l → l.length ≤ 140737488350000 →
 Calls Tryz.prog 90 #[v, .float .f64 b, .int .u8 103, .int .i64 (-1)] w (OutRes w v (l ++ T)) := by
 have h1' : ((E : Int) == 2047) = true := by simpa using h1
 have h3' : ((M : Int) != 0) = false := by simpa using h3
 subst hng
 refine ⟨[43, 73, 110, 102], by simp, fun _ h => absurd h1 h, fun w v l hTab hown hb => ?_⟩
 have H0 := Lib.hid (Out.start hown)
 clear hown hTab
 have hfb := f64bits_run b
 go_enter Tryz.func90, Tryz.ntmps90
 go_wp2_with (fail)
 go_quiet (fail)
 have H1 := Lib.hid (H0.out.drewN nq)
 go_wp2_with (at_builtin; refine at_out_str H1.out (.tmp 75) (.const (.string (mk [43, 73, 110, 102]))) [43, 73, 110, 102] (by simp; omega) rfl rfl rfl rfl ?_; intro v2 w2 o2; have H2 := Lib.hid o2; clear o2)
 go_ret
 exact ⟨_, rfl, H2.out⟩
theorem ftoa64_ex (PT : Nat → Nat × Nat) (hPT : ∀ i, i < 696 → (PT i).1 < 18446744073709551616 ∧ (PT i).2 < 18446744073709551616) (b : Nat) (hb64 : b < 18446744073709551616) : ∃ T : List UInt8, T.length ≤ 1000 ∧ (PTOk PT → b % 9223372036854775808 < 9218868437227405312 → ∃ n q, Fl.NumText (decide (9223372036854775808 ≤ b)) T n q ∧ NearT 52 1074 (b % 9223372036854775808) (Fl.decN 1074 n q) (Fl.decD q)) ∧ ∀ (w : World) (v : Value) (l : List UInt8), FT2 PT w → Own w v l → l.length ≤ 140737488350000 →
 Calls Tryz.prog 90 #[v, .float .f64 b, .int .u8 103, .int .i64 (-1)] w (OutRes w v (l ++ T)) := by
 have conv : ∀ (E M : Nat) (neg : Bool), bits .and .i64 ((b : Int) / 4503599627370496) 2047 = (E : Int) → bits .and .u64 (b : Int) 4503599627370495 = (M : Int) → ((b : Int) / 9223372036854775808 != 0) = neg → (∃ T : List UInt8, T.length ≤ 1000 ∧ (PTOk PT → ¬ (E : Int) = 2047 → ∃ n q, Fl.NumText neg T n q ∧ NearT 52 1074 (M + E * 2 ^ 52) (Fl.decN 1074 n q) (Fl.decD q)) ∧ ∀ (w : World) (v : Value) (l : List UInt8), FT2 PT w → Own w v l → l.length ≤ 140737488350000 →
  Calls Tryz.prog 90 #[v, .float .f64 b, .int .u8 103, .int .i64 (-1)] w (OutRes w v (l ++ T))) → ∃ T : List UInt8, T.length ≤ 1000 ∧ (PTOk PT → b % 9223372036854775808 < 9218868437227405312 → ∃ n q, Fl.NumText (decide (9223372036854775808 ≤ b)) T n q ∧ NearT 52 1074 (b % 9223372036854775808) (Fl.decN 1074 n q) (Fl.decD q)) ∧ ∀ (w : World) (v : Value) (l : List UInt8), FT2 PT w → Own w v l → l.length ≤ 140737488350000 →
  Calls Tryz.prog 90 #[v, .float .f64 b, .int .u8 103, .int .i64 (-1)] w (OutRes w v (l ++ T)) := by
  intro E M neg hE hM hN ⟨T, hT, hv, hw⟩
  rw [mask_i64_11] at hE
  rw [mask_u64_52 _ (by omega) (by omega)] at hM
  refine ⟨T, hT, fun hok hlt => ?_, hw⟩
  have e1 : M + E * 2 ^ 52 = b % 9223372036854775808 := by omega
  have e2 : neg = decide (9223372036854775808 ≤ b) := by
   rw [← hN]
   by_cases c : 9223372036854775808 ≤ b
   · have : (b : Int) / 9223372036854775808 ≠ 0 := by omega
     simp [c, this]
   · have : (b : Int) / 9223372036854775808 = 0 := by omega
     simp [c, this]
  have k := hv hok (by omega)
  rw [e1, e2] at k
  exact k
 obtain ⟨E, hE, hE2⟩ : ∃ E : Nat, bits .and .i64 ((b : Int) / 4503599627370496) 2047 = (E : Int) ∧ E ≤ 2047 := ⟨(bits .and .i64 ((b : Int) / 4503599627370496) 2047).toNat, by rw [mask_i64_11]; omega, by rw [mask_i64_11]; omega⟩
 obtain ⟨M, hM, hM2⟩ : ∃ M : Nat, bits .and .u64 (b : Int) 4503599627370495 = (M : Int) ∧ M < 4503599627370496 := ⟨(bits .and .u64 (b : Int) 4503599627370495).toNat, by rw [mask_u64_52 _ (by omega) (by omega)]; omega, by rw [mask_u64_52 _ (by omega) (by omega)]; omega⟩
 obtain ⟨neg, hN⟩ : ∃ neg, ((b : Int) / 9223372036854775808 != 0) = neg := ⟨_, rfl⟩
 refine conv E M neg hE hM hN ?_
 by_cases h1 : (E : Int) = 2047
 · by_cases h3 : (M : Int) = 0
   · cases neg
     · exact ftoa64_pinf PT hPT b hb64 E M _ hE hM hN hE2 hM2 h1 h3 rfl
     · exact ftoa64_ninf PT hPT b hb64 E M _ hE hM hN hE2 hM2 h1 h3 rfl
   · exact ftoa64_nan PT hPT b hb64 E M _ hE hM hN hE2 hM2 h1 h3
 · by_cases h2 : (E : Int) = 0
   · by_cases h3 : (M : Int) = 0
     · cases neg
       · exact ftoa64_zero_false PT hPT b hb64 E M _ hE hM hN hE2 hM2 h1 h2 h3 rfl
       · exact ftoa64_zero_true PT hPT b hb64 E M _ hE hM hN hE2 hM2 h1 h2 h3 rfl
     · exact ftoa64_sub PT hPT b hb64 E M _ hE hM hN hE2 hM2 h1 h2 h3
   · exact ftoa64_norm PT hPT b hb64 E M _ hE hM hN hE2 hM2 h1 h2
set_option maxRecDepth 1000000 in
set_option maxHeartbeats 40000000 in
theorem ftoa32_norm (PT : Nat → Nat × Nat) (hPT : ∀ i, i < 696 → (PT i).1 < 18446744073709551616 ∧ (PT i).2 < 18446744073709551616) (b : Nat) (hb64 : b < 4294967296) (E M : Nat) (neg : Bool) (hE : bits .and .i64 ((b : Int) / 8388608) 255 = (E : Int)) (hM : bits .and .u64 (b : Int) 8388607 = (M : Int)) (hN : ((b : Int) / 2147483648 != 0) = neg) (hE2 : E ≤ 255) (hM2 : M < 8388608) (h1 : ¬ (E : Int) = 255) (h2 : ¬ (E : Int) = 0) : ∃ T : List UInt8, T.length ≤ 1000 ∧ (PTOk PT → ¬ (E : Int) = 255 → ∃ n q, Fl.NumText neg T n q ∧ NearT 23 149 (M + E * 2 ^ 23) (Fl.decN 149 n q) (Fl.decD q)) ∧ ∀ (w : World) (v : Value) (l : List UInt8), FT2 PT w → Own w v l → l.length ≤ 140737488350000 →
 Calls Tryz.prog 89 #[v, .float .f32 b, .int .u8 103, .int .i64 (-1)] w (OutRes w v (l ++ T)) := by
 have h1' : ((E : Int) == 255) = false := by simpa using h1
 have h2' : ((E : Int) == 0) = false := by simpa using h2
 obtain ⟨m, hm0⟩ : ∃ m, M ||| 8388608 = m := ⟨_, rfl⟩
 have hm3 : bits .or .u64 (M : Int) 8388608 = (m : Int) := by rw [← hm0]; exact u64_or_nat M 8388608 (by omega) (by omega)
 have hm1 : 1 ≤ m := by rw [← hm0]; exact Nat.le_trans (by omega) Nat.right_le_or
 have hm2 : m < 2 ^ 63 := by rw [← hm0]; exact Nat.lt_of_lt_of_le (Nat.or_lt_two_pow (n := 24) (by omega) (by omega)) (by omega)
 have hm4 : ((m : Int) == 0) = false := by simp; omega
 have hmM : m = M + 8388608 := by rw [← hm0]; exact or_top 23 M hM2
 clear hm0
 obtain ⟨x, hx⟩ : ∃ x : Int, (E : Int) + -127 = x := ⟨_, rfl⟩
 obtain ⟨s, hs1, hs2, hs3, hs4, hs5⟩ := norm_ex m hm1 hm2
 obtain ⟨mm, hmm⟩ : ∃ mm, m * 2 ^ s = mm := ⟨_, rfl⟩
 rw [hmm] at hs4 hs5
 obtain ⟨L, hL⟩ : ∃ L, Lib.bitLen m = L := ⟨_, rfl⟩
 obtain ⟨e, he⟩ : ∃ e : Int, x - (s : Int) - 23 = e := ⟨_, rfl⟩
 obtain ⟨d, p, hd, hp1, hp2, hdv, hsf⟩ := short32_ex PT hPT mm e hs4 (by omega) (by omega) (by omega)
 obtain ⟨nd, hnd, hnd2, hnum⟩ := numDigits_ex d hd
 obtain ⟨fd, hfd⟩ : ∃ fd : Nat → UInt8, (fun j => Lib.dg d (nd - 1 - j)) = fd := ⟨_, rfl⟩
 obtain ⟨nz, hnz⟩ : ∃ nz, strip nd fd = nz := ⟨_, rfl⟩
 have hnzl : nz ≤ nd := by rw [← hnz]; exact strip_le nd fd
 obtain ⟨T, hT, hTv, hfmt⟩ := fmtEFG_ex neg nz ((nd : Int) + p) fd (by omega) (by omega) (by omega)
 have hvalue : PTOk PT → ¬ (E : Int) = 255 → ∃ n q, Fl.NumText neg T n q ∧ NearT 23 149 (M + E * 2 ^ 23) (Fl.decN 149 n q) (Fl.decD q) := by
  intro hok _
  obtain ⟨j, hj⟩ : ∃ j, E = j + 1 := ⟨E - 1, by omega⟩
  have k := ftoa_val hok 23 149 m j s mm nd nz d (-189) e p neg T fd (by decide) (by omega) (by decide) (Or.inl (by omega)) (by omega) (by omega) (by omega) hs3 hmm hs4 hs5 (by omega) hdv hnd2 hfd hnz hTv
  rw [show m + j * 2 ^ 23 = M + E * 2 ^ 23 by rw [hmM, hj, Nat.add_mul]; omega] at k
  exact k
 have hset : Hid (∀ (w : World) (B : Nat), ZeroRow w B 32 → Calls Tryz.prog 113 #[.slice (some ⟨B, 0, none⟩) 32 32, .int .u64 (d : Int), .int .i64 p, .int .i64 (nd : Int)] w fun e w' => e = .returned (.tuple #[.int .i64 ((nd : Int) + p), .int .i64 (nz : Int)]) ∧ Keeps (fun k => k = B) w w' ∧ Digs w' B nz fd) := fun w B hz => (setDigits_any d nd p hd hnd hnd2 (by omega) (by omega) w B hz).mono fun e w' h => by
  rw [hfd, hnz] at h
  exact ⟨h.1, h.2.1, fun j hj => by rw [h.2.2 j (by omega)]; rw [← hfd]⟩
 have HLEN := Lib.hid (len64_any m (by omega))
 rw [hL] at HLEN
 have HNUM := Lib.hid hnum
 have HSF := Lib.hid hsf
 have HFMT := Lib.hid hfmt
 have hsub : (64 : Int) - (L : Int) = (s : Int) := by omega
 have hs64 : s < 64 := by omega
 have hsh : IntKind.u64.wrap ((m : Int) * 2 ^ s) = (mm : Int) := by
  rw [← hmm, IntKind.wrap_u64]
  have : ((m * 2 ^ s : Nat) : Int) = (m : Int) * 2 ^ s := by push_cast; rfl
  rw [← this]
  omega
 clear hL hs1 hs2 hs3 hs4 hfd hnz hsf hnum hfmt hmm hdv hTv
 refine ⟨T, hT, hvalue, fun w v l hTab hown hb => ?_⟩
 clear hvalue
 try clear hmM
 have HOWN := Lib.hid hown
 have HTAB := Lib.hid hTab
 clear hown hTab
 have hfb := f32bits_run b
 go_enter Tryz.func89, Tryz.ntmps89
 go_wp2_with (fail)
 go_quiet (fail)
 go_upto_region 34 with (fail)
 obtain ⟨W1, hW1⟩ : ∃ W, (w.drewN nq).alloc (.cells #[.int .u8 0, .int .u8 0, .int .u8 0, .int .u8 0, .int .u8 0, .int .u8 0, .int .u8 0, .int .u8 0, .int .u8 0, .int .u8 0, .int .u8 0, .int .u8 0, .int .u8 0, .int .u8 0, .int .u8 0, .int .u8 0, .int .u8 0, .int .u8 0, .int .u8 0, .int .u8 0, .int .u8 0, .int .u8 0, .int .u8 0, .int .u8 0, .int .u8 0, .int .u8 0, .int .u8 0, .int .u8 0, .int .u8 0, .int .u8 0, .int .u8 0, .int .u8 0] 174) = W := ⟨_, rfl⟩
 have hk1 : Keeps (fun _ => False) w W1 := by rw [← hW1]; exact ((Keeps.refl _ w).drewN _).alloc _
 have hz1 : ZeroRow W1 w.heap.size 32 := by rw [← hW1]; exact ⟨_, heap_alloc_new (w.drewN nq) _⟩
 have hlt1 : w.heap.size < W1.heap.size := by rw [← hW1]; simp [World.drewN]
 rw [hW1]
 have hvb : ∀ k, v.ownBlock = some k → k < w.heap.size := HOWN.out.lt
 obtain ⟨K, hK⟩ : ∃ K, w.heap.size = K := ⟨_, rfl⟩
 have hKw : w.heap.size ≤ K := Nat.le_of_eq hK
 rw [hK] at hz1 hlt1 hvb ⊢
 have HKW := Lib.hid hKw
 have HVB : Hid (¬ v.ownBlock = some K) := fun e => absurd (hvb K e) (Nat.lt_irrefl _)
 have HK1 := Lib.hid hk1
 have HZ1 := Lib.hid hz1
 have HLT1 := Lib.hid hlt1
 clear hW1 hk1 hz1 hK hKw hvb hlt1
 go_wp2_with (first
  | (go_at_call 103; refine (HLEN.out _).mono ?_; rintro en w' ⟨rfl, hww⟩; obtain rfl := hww.symm)
  | (go_at_call 112; refine (HSF.out _ ((HTAB.out.keeps HK1.out).p10) (HTAB.out.keeps HK1.out).size.1).mono ?_; rintro en w2 ⟨rfl, k2⟩; have K2 := Lib.hid k2; clear k2))
 have HTEN : Hid (∀ wx, Keeps (fun _ => False) w2 wx → Ten wx) := fun wx h => (((HTAB.out.keeps HK1.out).keeps K2.out).keeps h).ten
 have HZZ : Hid (∀ wx, Keeps (fun _ => False) w2 wx → ZeroRow wx K 32) := fun wx h => by
  obtain ⟨T, ht⟩ := HZ1.out
  exact ⟨T, (K2.out.trans h (fun _ _ h => h)).row ht id⟩
 go_region_held3 (fun _ => True) (trivial) (first
  | ((go_at_call 86; refine (HNUM.out _ (HTEN.out _ (by repeat (first | exact Keeps.refl _ _ | apply Keeps.drew)))).mono ?_; rintro en w' ⟨rfl, hww⟩; obtain rfl := hww.symm))
  | ((go_at_call 113; refine (hset.out _ _ (HZZ.out _ (by repeat (first | exact Keeps.refl _ _ | apply Keeps.drew)))).mono ?_; rintro en w3 ⟨rfl, k3, d3⟩; have K3 : Hid (Keeps (fun _ => False) w w3) := ((HK1.out.trans K2.out (fun _ _ h => h)).trans (by repeat (first | exact Keeps.refl _ _ | apply Keeps.drew)) (fun _ _ (h : False) => h)).trans k3 (fun i hi e => by have := HKW.out; omega); have D3 := Lib.hid d3; clear k3 d3)))
 all_goals go_wp2_with (go_at_call 111; refine (HFMT.out _ v l K (HOWN.out.below K3.out) HVB.out D3.out hb).mono ?_; rintro en w4 ⟨v4, rfl, o4⟩; have O4 := Lib.hid o4; clear o4)
 all_goals go_ret
 all_goals exact OutRes.rebase K3.out ⟨v4, rfl, O4.out⟩
set_option maxRecDepth 1000000 in
set_option maxHeartbeats 40000000 in
theorem ftoa32_sub (PT : Nat → Nat × Nat) (hPT : ∀ i, i < 696 → (PT i).1 < 18446744073709551616 ∧ (PT i).2 < 18446744073709551616) (b : Nat) (hb64 : b < 4294967296) (E M : Nat) (neg : Bool) (hE : bits .and .i64 ((b : Int) / 8388608) 255 = (E : Int)) (hM : bits .and .u64 (b : Int) 8388607 = (M : Int)) (hN : ((b : Int) / 2147483648 != 0) = neg) (hE2 : E ≤ 255) (hM2 : M < 8388608) (h1 : ¬ (E : Int) = 255) (h2 : (E : Int) = 0) (h3 : ¬ (M : Int) = 0) : ∃ T : List UInt8, T.length ≤ 1000 ∧ (PTOk PT → ¬ (E : Int) = 255 → ∃ n q, Fl.NumText neg T n q ∧ NearT 23 149 (M + E * 2 ^ 23) (Fl.decN 149 n q) (Fl.decD q)) ∧ ∀ (w : World) (v : Value) (l : List UInt8), FT2 PT w → Own w v l → l.length ≤ 140737488350000 →
 Calls Tryz.prog 89 #[v, .float .f32 b, .int .u8 103, .int .i64 (-1)] w (OutRes w v (l ++ T)) := by
 have h1' : ((E : Int) == 255) = false := by simpa using h1
 have h2' : ((E : Int) == 0) = true := by simpa using h2
 obtain ⟨m, hm0⟩ : ∃ m, M = m := ⟨_, rfl⟩
 subst hm0
 have hm1 : 1 ≤ M := by omega
 have hm2 : M < 2 ^ 63 := by omega
 have hm4 : ((M : Int) == 0) = false := by simp; omega
 obtain ⟨s, hs1, hs2, hs3, hs4, hs5⟩ := norm_ex M hm1 hm2
 obtain ⟨mm, hmm⟩ : ∃ mm, M * 2 ^ s = mm := ⟨_, rfl⟩
 rw [hmm] at hs4 hs5
 obtain ⟨L, hL⟩ : ∃ L, Lib.bitLen M = L := ⟨_, rfl⟩
 obtain ⟨e, he⟩ : ∃ e : Int, (-126) - (s : Int) - 23 = e := ⟨_, rfl⟩
 obtain ⟨d, p, hd, hp1, hp2, hdv, hsf⟩ := short32_ex PT hPT mm e hs4 (by omega) (by omega) (by omega)
 obtain ⟨nd, hnd, hnd2, hnum⟩ := numDigits_ex d hd
 obtain ⟨fd, hfd⟩ : ∃ fd : Nat → UInt8, (fun j => Lib.dg d (nd - 1 - j)) = fd := ⟨_, rfl⟩
 obtain ⟨nz, hnz⟩ : ∃ nz, strip nd fd = nz := ⟨_, rfl⟩
 have hnzl : nz ≤ nd := by rw [← hnz]; exact strip_le nd fd
 obtain ⟨T, hT, hTv, hfmt⟩ := fmtEFG_ex neg nz ((nd : Int) + p) fd (by omega) (by omega) (by omega)
 have hvalue : PTOk PT → ¬ (E : Int) = 255 → ∃ n q, Fl.NumText neg T n q ∧ NearT 23 149 (M + E * 2 ^ 23) (Fl.decN 149 n q) (Fl.decD q) := by
  intro hok _
  have k := ftoa_val hok 23 149 M 0 s mm nd nz d (-189) e p neg T fd (by decide) (by omega) (by decide) (Or.inr rfl) (by omega) (by omega) (by omega) hs3 hmm hs4 hs5 (by omega) hdv hnd2 hfd hnz hTv
  rw [show M + 0 * 2 ^ 23 = M + E * 2 ^ 23 by rw [show E = 0 by omega]] at k
  exact k
 have hset : Hid (∀ (w : World) (B : Nat), ZeroRow w B 32 → Calls Tryz.prog 113 #[.slice (some ⟨B, 0, none⟩) 32 32, .int .u64 (d : Int), .int .i64 p, .int .i64 (nd : Int)] w fun e w' => e = .returned (.tuple #[.int .i64 ((nd : Int) + p), .int .i64 (nz : Int)]) ∧ Keeps (fun k => k = B) w w' ∧ Digs w' B nz fd) := fun w B hz => (setDigits_any d nd p hd hnd hnd2 (by omega) (by omega) w B hz).mono fun e w' h => by
  rw [hfd, hnz] at h
  exact ⟨h.1, h.2.1, fun j hj => by rw [h.2.2 j (by omega)]; rw [← hfd]⟩
 have HLEN := Lib.hid (len64_any M (by omega))
 rw [hL] at HLEN
 have HNUM := Lib.hid hnum
 have HSF := Lib.hid hsf
 have HFMT := Lib.hid hfmt
 have hsub : (64 : Int) - (L : Int) = (s : Int) := by omega
 have hs64 : s < 64 := by omega
 have hsh : IntKind.u64.wrap ((M : Int) * 2 ^ s) = (mm : Int) := by
  rw [← hmm, IntKind.wrap_u64]
  have : ((M * 2 ^ s : Nat) : Int) = (M : Int) * 2 ^ s := by push_cast; rfl
  rw [← this]
  omega
 clear hL hs1 hs2 hs3 hs4 hfd hnz hsf hnum hfmt hmm hdv hTv
 refine ⟨T, hT, hvalue, fun w v l hTab hown hb => ?_⟩
 clear hvalue
 try clear hmM
 have HOWN := Lib.hid hown
 have HTAB := Lib.hid hTab
 clear hown hTab
 have hfb := f32bits_run b
 go_enter Tryz.func89, Tryz.ntmps89
 go_wp2_with (fail)
 go_quiet (fail)
 go_upto_region 34 with (fail)
 obtain ⟨W1, hW1⟩ : ∃ W, (w.drewN nq).alloc (.cells #[.int .u8 0, .int .u8 0, .int .u8 0, .int .u8 0, .int .u8 0, .int .u8 0, .int .u8 0, .int .u8 0, .int .u8 0, .int .u8 0, .int .u8 0, .int .u8 0, .int .u8 0, .int .u8 0, .int .u8 0, .int .u8 0, .int .u8 0, .int .u8 0, .int .u8 0, .int .u8 0, .int .u8 0, .int .u8 0, .int .u8 0, .int .u8 0, .int .u8 0, .int .u8 0, .int .u8 0, .int .u8 0, .int .u8 0, .int .u8 0, .int .u8 0, .int .u8 0] 174) = W := ⟨_, rfl⟩
 have hk1 : Keeps (fun _ => False) w W1 := by rw [← hW1]; exact ((Keeps.refl _ w).drewN _).alloc _
 have hz1 : ZeroRow W1 w.heap.size 32 := by rw [← hW1]; exact ⟨_, heap_alloc_new (w.drewN nq) _⟩
 have hlt1 : w.heap.size < W1.heap.size := by rw [← hW1]; simp [World.drewN]
 rw [hW1]
 have hvb : ∀ k, v.ownBlock = some k → k < w.heap.size := HOWN.out.lt
 obtain ⟨K, hK⟩ : ∃ K, w.heap.size = K := ⟨_, rfl⟩
 have hKw : w.heap.size ≤ K := Nat.le_of_eq hK
 rw [hK] at hz1 hlt1 hvb ⊢
 have HKW := Lib.hid hKw
 have HVB : Hid (¬ v.ownBlock = some K) := fun e => absurd (hvb K e) (Nat.lt_irrefl _)
 have HK1 := Lib.hid hk1
 have HZ1 := Lib.hid hz1
 have HLT1 := Lib.hid hlt1
 clear hW1 hk1 hz1 hK hKw hvb hlt1
 go_wp2_with (first
  | (go_at_call 103; refine (HLEN.out _).mono ?_; rintro en w' ⟨rfl, hww⟩; obtain rfl := hww.symm)
  | (go_at_call 112; refine (HSF.out _ ((HTAB.out.keeps HK1.out).p10) (HTAB.out.keeps HK1.out).size.1).mono ?_; rintro en w2 ⟨rfl, k2⟩; have K2 := Lib.hid k2; clear k2))
 have HTEN : Hid (∀ wx, Keeps (fun _ => False) w2 wx → Ten wx) := fun wx h => (((HTAB.out.keeps HK1.out).keeps K2.out).keeps h).ten
 have HZZ : Hid (∀ wx, Keeps (fun _ => False) w2 wx → ZeroRow wx K 32) := fun wx h => by
  obtain ⟨T, ht⟩ := HZ1.out
  exact ⟨T, (K2.out.trans h (fun _ _ h => h)).row ht id⟩
 go_region_held3 (fun _ => True) (trivial) (first
  | ((go_at_call 86; refine (HNUM.out _ (HTEN.out _ (by repeat (first | exact Keeps.refl _ _ | apply Keeps.drew)))).mono ?_; rintro en w' ⟨rfl, hww⟩; obtain rfl := hww.symm))
  | ((go_at_call 113; refine (hset.out _ _ (HZZ.out _ (by repeat (first | exact Keeps.refl _ _ | apply Keeps.drew)))).mono ?_; rintro en w3 ⟨rfl, k3, d3⟩; have K3 : Hid (Keeps (fun _ => False) w w3) := ((HK1.out.trans K2.out (fun _ _ h => h)).trans (by repeat (first | exact Keeps.refl _ _ | apply Keeps.drew)) (fun _ _ (h : False) => h)).trans k3 (fun i hi e => by have := HKW.out; omega); have D3 := Lib.hid d3; clear k3 d3)))
 all_goals go_wp2_with (go_at_call 111; refine (HFMT.out _ v l K (HOWN.out.below K3.out) HVB.out D3.out hb).mono ?_; rintro en w4 ⟨v4, rfl, o4⟩; have O4 := Lib.hid o4; clear o4)
 all_goals go_ret
 all_goals exact OutRes.rebase K3.out ⟨v4, rfl, O4.out⟩
set_option exponentiation.threshold 3000 in
set_option maxRecDepth 1000000 in
set_option maxHeartbeats 40000000 in
theorem ftoa32_zero_true (PT : Nat → Nat × Nat) (hPT : ∀ i, i < 696 → (PT i).1 < 18446744073709551616 ∧ (PT i).2 < 18446744073709551616) (b : Nat) (hb64 : b < 4294967296) (E M : Nat) (neg : Bool) (hE : bits .and .i64 ((b : Int) / 8388608) 255 = (E : Int)) (hM : bits .and .u64 (b : Int) 8388607 = (M : Int)) (hN : ((b : Int) / 2147483648 != 0) = neg) (hE2 : E ≤ 255) (hM2 : M < 8388608) (h1 : ¬ (E : Int) = 255) (h2 : (E : Int) = 0) (h3 : (M : Int) = 0) (hng : neg = true) : ∃ T : List UInt8, T.length ≤ 1000 ∧ (PTOk PT → ¬ (E : Int) = 255 → ∃ n q, Fl.NumText neg T n q ∧ NearT 23 149 (M + E * 2 ^ 23) (Fl.decN 149 n q) (Fl.decD q)) ∧ ∀ (w : World) (v : Value) (l : List UInt8), FT2 PT w → Own w v l → l.length ≤ 140737488350000 →
 Calls Tryz.prog 89 #[v, .float .f32 b, .int .u8 103, .int .i64 (-1)] w (OutRes w v (l ++ T)) := by
 subst hng
 have h1' : ((E : Int) == 255) = false := by simpa using h1
 have h2' : ((E : Int) == 0) = true := by simpa using h2
 have h3' : ((M : Int) == 0) = true := by simpa using h3
 refine ⟨[45] ++ [48], by simp, fun _ _ => ⟨0, 0, Fl.numText_Z true 0, by rw [show M + E * 2 ^ 23 = 0 by rw [show E = 0 by omega]; omega]; exact NearT.zero (Fl.near_small 23 _ _ (by decide) (by decide))⟩, fun w v l hTab hown hb => ?_⟩
 have HOWN := Lib.hid hown
 clear hown hTab
 have hfb := f32bits_run b
 go_enter Tryz.func89, Tryz.ntmps89
 go_wp2_with (fail)
 go_quiet (fail)
 go_wp2_with (go_at_call 111; refine (fmtF_zero_true _ v l (HOWN.out.below (by repeat (first | exact Keeps.refl _ _ | apply Keeps.drewN | apply Keeps.drew))) hb).mono ?_; rintro en w4 ⟨v4, rfl, o4⟩; have O4 := Lib.hid o4; clear o4)
 go_ret
 exact OutRes.rebase ((Keeps.refl _ w).drewN _) ⟨v4, rfl, O4.out⟩
set_option exponentiation.threshold 3000 in
set_option maxRecDepth 1000000 in
set_option maxHeartbeats 40000000 in
theorem ftoa32_zero_false (PT : Nat → Nat × Nat) (hPT : ∀ i, i < 696 → (PT i).1 < 18446744073709551616 ∧ (PT i).2 < 18446744073709551616) (b : Nat) (hb64 : b < 4294967296) (E M : Nat) (neg : Bool) (hE : bits .and .i64 ((b : Int) / 8388608) 255 = (E : Int)) (hM : bits .and .u64 (b : Int) 8388607 = (M : Int)) (hN : ((b : Int) / 2147483648 != 0) = neg) (hE2 : E ≤ 255) (hM2 : M < 8388608) (h1 : ¬ (E : Int) = 255) (h2 : (E : Int) = 0) (h3 : (M : Int) = 0) (hng : neg = false) : ∃ T : List UInt8, T.length ≤ 1000 ∧ (PTOk PT → ¬ (E : Int) = 255 → ∃ n q, Fl.NumText neg T n q ∧ NearT 23 149 (M + E * 2 ^ 23) (Fl.decN 149 n q) (Fl.decD q)) ∧ ∀ (w : World) (v : Value) (l : List UInt8), FT2 PT w → Own w v l → l.length ≤ 140737488350000 →
 Calls Tryz.prog 89 #[v, .float .f32 b, .int .u8 103, .int .i64 (-1)] w (OutRes w v (l ++ T)) := by
 subst hng
 have h1' : ((E : Int) == 255) = false := by simpa using h1
 have h2' : ((E : Int) == 0) = true := by simpa using h2
 have h3' : ((M : Int) == 0) = true := by simpa using h3
 refine ⟨[] ++ [48], by simp, fun _ _ => ⟨0, 0, Fl.numText_Z false 0, by rw [show M + E * 2 ^ 23 = 0 by rw [show E = 0 by omega]; omega]; exact NearT.zero (Fl.near_small 23 _ _ (by decide) (by decide))⟩, fun w v l hTab hown hb => ?_⟩
 have HOWN := Lib.hid hown
 clear hown hTab
 have hfb := f32bits_run b
 go_enter Tryz.func89, Tryz.ntmps89
 go_wp2_with (fail)
 go_quiet (fail)
 go_wp2_with (go_at_call 111; refine (fmtF_zero_false _ v l (HOWN.out.below (by repeat (first | exact Keeps.refl _ _ | apply Keeps.drewN | apply Keeps.drew))) hb).mono ?_; rintro en w4 ⟨v4, rfl, o4⟩; have O4 := Lib.hid o4; clear o4)
 go_ret
 exact OutRes.rebase ((Keeps.refl _ w).drewN _) ⟨v4, rfl, O4.out⟩
set_option maxRecDepth 1000000 in
set_option maxHeartbeats 40000000 in
theorem ftoa32_nan (PT : Nat → Nat × Nat) (hPT : ∀ i, i < 696 → (PT i).1 < 18446744073709551616 ∧ (PT i).2 < 18446744073709551616) (b : Nat) (hb64 : b < 4294967296) (E M : Nat) (neg : Bool) (hE : bits .and .i64 ((b : Int) / 8388608) 255 = (E : Int)) (hM : bits .and .u64 (b : Int) 8388607 = (M : Int)) (hN : ((b : Int) / 2147483648 != 0) = neg) (hE2 : E ≤ 255) (hM2 : M < 8388608) (h1 : (E : Int) = 255) (h3 : ¬ (M : Int) = 0) : ∃ T : List UInt8, T.length ≤ 1000 ∧ (PTOk PT → ¬ (E : Int) = 255 → ∃ n q, Fl.NumText neg T n q ∧ NearT 23 149 (M + E * 2 ^ 23) (Fl.decN 149 n q) (Fl.decD q)) ∧ ∀ (w : World) (v : Value) (l : List UInt8), FT2 PT w → Own w v l → l.length ≤ 140737488350000 →
 Calls Tryz.prog 89 #[v, .float .f32 b, .int .u8 103, .int .i64 (-1)] w (OutRes w v (l ++ T)) := by
 have h1' : ((E : Int) == 255) = true := by simpa using h1
 have h3' : ((M : Int) != 0) = true := by simpa using h3
 refine ⟨[78, 97, 78], by simp, fun _ h => absurd h1 h, fun w v l hTab hown hb => ?_⟩
 have H0 := Lib.hid (Out.start hown)
 clear hown hTab
 have hfb := f32bits_run b
 go_enter Tryz.func89, Tryz.ntmps89
 go_wp2_with (fail)
 go_quiet (fail)
 have H1 := Lib.hid (H0.out.drewN nq)
 go_wp2_with (at_builtin; refine at_out_str H1.out (.tmp 70) (.const (.string (mk [78, 97, 78]))) [78, 97, 78] (by simp; omega) rfl rfl rfl rfl ?_; intro v2 w2 o2; have H2 := Lib.hid o2; clear o2)
 go_ret
 exact ⟨_, rfl, H2.out⟩
set_option maxRecDepth 1000000 in
set_option maxHeartbeats 40000000 in
theorem ftoa32_ninf (PT : Nat → Nat × Nat) (hPT : ∀ i, i < 696 → (PT i).1 < 18446744073709551616 ∧ (PT i).2 < 18446744073709551616) (b : Nat) (hb64 : b < 4294967296) (E M : Nat) (neg : Bool) (hE : bits .and .i64 ((b : Int) / 8388608) 255 = (E : Int)) (hM : bits .and .u64 (b : Int) 8388607 = (M : Int)) (hN : ((b : Int) / 2147483648 != 0) = neg) (hE2 : E ≤ 255) (hM2 : M < 8388608) (h1 : (E : Int) = 255) (h3 : (M : Int) = 0) (hng : neg = true) : ∃ T : List UInt8, T.length ≤ 1000 ∧ (PTOk PT → ¬ (E : Int) = 255 → ∃ n q, Fl.NumText neg T n q ∧ NearT 23 149 (M + E * 2 ^ 23) (Fl.decN 149 n q) (Fl.decD q)) ∧ ∀ (w : World) (v : Value) (l : List UInt8), FT2 PT w → Own w v l → l.length ≤ 140737488350000 →
 Calls Tryz.prog 89 #[v, .float .f32 b, .int .u8 103, .int .i64 (-1)] w (OutRes w v (l ++ T)) := by
 have h1' : ((E : Int) == 255) = true := by simpa using h1
 have h3' : ((M : Int) != 0) = false := by simpa using h3
 subst hng
 refine ⟨[45, 73, 110, 102], by simp, fun _ h => absurd h1 h, fun w v l hTab hown hb => ?_⟩
 have H0 := Lib.hid (Out.start hown)
 clear hown hTab
 have hfb := f32bits_run b
 go_enter Tryz.func89, Tryz.ntmps89
 go_wp2_with (fail)
 go_quiet (fail)
 have H1 := Lib.hid (H0.out.drewN nq)
 go_wp2_with (at_builtin; refine at_out_str H1.out (.tmp 73) (.const (.string (mk [45, 73, 110, 102]))) [45, 73, 110, 102] (by simp; omega) rfl rfl rfl rfl ?_; intro v2 w2 o2; have H2 := Lib.hid o2; clear o2)
 go_ret
 exact ⟨_, rfl, H2.out⟩
set_option maxRecDepth 1000000 in
set_option maxHeartbeats 40000000 in
theorem ftoa32_pinf (PT : Nat → Nat × Nat) (hPT : ∀ i, i < 696 → (PT i).1 < 18446744073709551616 ∧ (PT i).2 < 18446744073709551616) (b : Nat) (hb64 : b < 4294967296) (E M : Nat) (neg : Bool) (hE : bits .and .i64 ((b : Int) / 8388608) 255 = (E : Int)) (hM : bits .and .u64 (b : Int) 8388607 = (M : Int)) (hN : ((b : Int) / 2147483648 != 0) = neg) (hE2 : E ≤ 255) (hM2 : M < 8388608) (h1 : (E : Int) = 255) (h3 : (M : Int) = 0) (hng : neg = false) : ∃ T : List UInt8, T.length ≤ 1000 ∧ (PTOk PT → ¬ (E : Int) = 255 → ∃ n q, Fl.NumText neg T n q ∧ NearT 23 149 (M + E * 2 ^ 23) (Fl.decN 149 n q) (Fl.decD q)) ∧ ∀ (w : World) (v : Value) (l : List UInt8), FT2 PT w → Own w v l → l.length ≤ 140737488350000 →
 Calls Tryz.prog 89 #[v, .float .f32 b, .int .u8 103, .int .i64 (-1)] w (OutRes w v (l ++ T)) := by
 have h1' : ((E : Int) == 255) = true := by simpa using h1
 have h3' : ((M : Int) != 0) = false := by simpa using h3
 subst hng
 refine ⟨[43, 73, 110, 102], by simp, fun _ h => absurd h1 h, fun w v l hTab hown hb => ?_⟩
 have H0 := Lib.hid (Out.start hown)
 clear hown hTab
 have hfb := f32bits_run b
 go_enter Tryz.func89, Tryz.ntmps89
 go_wp2_with (fail)
 go_quiet (fail)
 have H1 := Lib.hid (H0.out.drewN nq)
 go_wp2_with (at_builtin; refine at_out_str H1.out (.tmp 75) (.const (.string (mk [43, 73, 110, 102]))) [43, 73, 110, 102] (by simp; omega) rfl rfl rfl rfl ?_; intro v2 w2 o2; have H2 := Lib.hid o2; clear o2)
 go_ret
 exact ⟨_, rfl, H2.out⟩
theorem ftoa32_ex (PT : Nat → Nat × Nat) (hPT : ∀ i, i < 696 → (PT i).1 < 18446744073709551616 ∧ (PT i).2 < 18446744073709551616) (b : Nat) (hb64 : b < 4294967296) : ∃ T : List UInt8, T.length ≤ 1000 ∧ (PTOk PT → b % 2147483648 < 2139095040 → ∃ n q, Fl.NumText (decide (2147483648 ≤ b)) T n q ∧ NearT 23 149 (b % 2147483648) (Fl.decN 149 n q) (Fl.decD q)) ∧ ∀ (w : World) (v : Value) (l : List UInt8), FT2 PT w → Own w v l → l.length ≤ 140737488350000 →
 Calls Tryz.prog 89 #[v, .float .f32 b, .int .u8 103, .int .i64 (-1)] w (OutRes w v (l ++ T)) := by
 have conv : ∀ (E M : Nat) (neg : Bool), bits .and .i64 ((b : Int) / 8388608) 255 = (E : Int) → bits .and .u64 (b : Int) 8388607 = (M : Int) → ((b : Int) / 2147483648 != 0) = neg → (∃ T : List UInt8, T.length ≤ 1000 ∧ (PTOk PT → ¬ (E : Int) = 255 → ∃ n q, Fl.NumText neg T n q ∧ NearT 23 149 (M + E * 2 ^ 23) (Fl.decN 149 n q) (Fl.decD q)) ∧ ∀ (w : World) (v : Value) (l : List UInt8), FT2 PT w → Own w v l → l.length ≤ 140737488350000 →
  Calls Tryz.prog 89 #[v, .float .f32 b, .int .u8 103, .int .i64 (-1)] w (OutRes w v (l ++ T))) → ∃ T : List UInt8, T.length ≤ 1000 ∧ (PTOk PT → b % 2147483648 < 2139095040 → ∃ n q, Fl.NumText (decide (2147483648 ≤ b)) T n q ∧ NearT 23 149 (b % 2147483648) (Fl.decN 149 n q) (Fl.decD q)) ∧ ∀ (w : World) (v : Value) (l : List UInt8), FT2 PT w → Own w v l → l.length ≤ 140737488350000 →
  Calls Tryz.prog 89 #[v, .float .f32 b, .int .u8 103, .int .i64 (-1)] w (OutRes w v (l ++ T)) := by
  intro E M neg hE hM hN ⟨T, hT, hv, hw⟩
  rw [mask_i64_8] at hE
  rw [mask_u64_23 _ (by omega) (by omega)] at hM
  refine ⟨T, hT, fun hok hlt => ?_, hw⟩
  have e1 : M + E * 2 ^ 23 = b % 2147483648 := by omega
  have e2 : neg = decide (2147483648 ≤ b) := by
   rw [← hN]
   by_cases c : 2147483648 ≤ b
   · have : (b : Int) / 2147483648 ≠ 0 := by omega
     simp [c, this]
   · have : (b : Int) / 2147483648 = 0 := by omega
     simp [c, this]
  have k := hv hok (by omega)
  rw [e1, e2] at k
  exact k
 obtain ⟨E, hE, hE2⟩ : ∃ E : Nat, bits .and .i64 ((b : Int) / 8388608) 255 = (E : Int) ∧ E ≤ 255 := ⟨(bits .and .i64 ((b : Int) / 8388608) 255).toNat, by rw [mask_i64_8]; omega, by rw [mask_i64_8]; omega⟩
 obtain ⟨M, hM, hM2⟩ : ∃ M : Nat, bits .and .u64 (b : Int) 8388607 = (M : Int) ∧ M < 8388608 := ⟨(bits .and .u64 (b : Int) 8388607).toNat, by rw [mask_u64_23 _ (by omega) (by omega)]; omega, by rw [mask_u64_23 _ (by omega) (by omega)]; omega⟩
 obtain ⟨neg, hN⟩ : ∃ neg, ((b : Int) / 2147483648 != 0) = neg := ⟨_, rfl⟩
 refine conv E M neg hE hM hN ?_
 by_cases h1 : (E : Int) = 255
 · by_cases h3 : (M : Int) = 0
   · cases neg
     · exact ftoa32_pinf PT hPT b hb64 E M _ hE hM hN hE2 hM2 h1 h3 rfl
     · exact ftoa32_ninf PT hPT b hb64 E M _ hE hM hN hE2 hM2 h1 h3 rfl
   · exact ftoa32_nan PT hPT b hb64 E M _ hE hM hN hE2 hM2 h1 h3
 · by_cases h2 : (E : Int) = 0
   · by_cases h3 : (M : Int) = 0
     · cases neg
       · exact ftoa32_zero_false PT hPT b hb64 E M _ hE hM hN hE2 hM2 h1 h2 h3 rfl
       · exact ftoa32_zero_true PT hPT b hb64 E M _ hE hM hN hE2 hM2 h1 h2 h3 rfl
     · exact ftoa32_sub PT hPT b hb64 E M _ hE hM hN hE2 hM2 h1 h2 h3
   · exact ftoa32_norm PT hPT b hb64 E M _ hE hM hN hE2 hM2 h1 h2
end Go.Proofs.YtonegoemmologaaGreatDoor
