/-
  shortFloat: total, and a function of its numbers and of the table of powers of ten.
-/
import Derived.Test.YtonegoemmologaaGreatDoorM04
import Derived.Test.YtonegoemmologaaGreatDoorM05
import Derived.Deep.DeepCutAuto
set_option linter.unusedVariables false
set_option linter.unusedSimpArgs false
namespace Go.Proofs.YtonegoemmologaaGreatDoor
open Go.RowKit
theorem and1 (n : Int) : bits .and .i64 n 1 = n % 2 := by
 have h127 : (BitVec.ofInt 64 1).toNat = 2 ^ 1 - 1 := by decide
 have key : (BitVec.ofInt 64 n &&& BitVec.ofInt 64 1).toNat = (n % ((2 ^ 64 : Nat) : Int)).toNat % 2 ^ 1 := by
  rw [BitVec.toNat_and, BitVec.toNat_ofInt, h127, Nat.and_two_pow_sub_one_eq_mod]
 show IntKind.i64.wrap ((BitVec.ofInt 64 n &&& BitVec.ofInt 64 1).toNat : Nat) = n % 2
 rw [key, IntKind.wrap_i64]
 omega
theorem and1_cases (n : Int) : bits .and .i64 n 1 = 0 ∨ bits .and .i64 n 1 = 1 := by
 rw [and1]
 omega
theorem vc_ends {m mn mx K : Nat} (hm : 9223372036854775808 ≤ m) (hm2 : m < 18446744073709551616) (hK : K ≤ 4611686018427387904) (hh : m + K < 2 ^ 64) (h1 : ((m : Int) - (K : Int) % 18446744073709551616) % 18446744073709551616 = (mn : Int)) (h2 : ((m : Int) + (K : Int) % 18446744073709551616) % 18446744073709551616 = (mx : Int)) : mn + K = m ∧ mx = m + K := by
 have t1 : (K : Int) % 18446744073709551616 = (K : Int) := by omega
 rw [t1] at h1 h2
 omega
theorem vc_bounds {m mn mx K : Nat} (hm : 9223372036854775808 ≤ m) (hK : K ≤ 4611686018427387904) (h1 : mn + K = m) (h2 : mx = m + K) : 2 ≤ mn ∧ 2 ≤ mx ∧ 2 ≤ m := by omega
theorem vc_wrap {m Z : Nat} (hm2 : m < 18446744073709551616) (h : Z ≤ m / 2) : wrap64 (Z : Int) = (Z : Int) := by unfold wrap64; omega
theorem P10At.keeps {PT : Nat → Nat × Nat} {w w' : World} (h : P10At PT w) (hk : Keeps (fun _ => False) w w') : P10At PT w' := fun i hi => ⟨hk.cell (h i hi).1 id, hk.cell (h i hi).2.1 id, (h i hi).2.2⟩
set_option maxRecDepth 1000000 in
set_option maxHeartbeats 40000000 in
theorem short64_A (PT : Nat → Nat × Nat) (hPT : ∀ i, i < 696 → (PT i).1 < 18446744073709551616 ∧ (PT i).2 < 18446744073709551616) (m : Nat) (e : Int) (hm : 9223372036854775808 ≤ m) (hm2 : m < 18446744073709551616) (h0 : -1145 ≤ e) (h1 : e ≤ 970) (hA : m = 9223372036854775808) (hB : -1085 < e) :
 ∃ (d : Nat) (p : Int), d < 18446744073709551616 ∧ -400 ≤ p ∧ p ≤ 400 ∧ (Fl.ShGood PT 52 (-1085) m e → (d, p) = Fl.shX PT 52 (-1085) m e) ∧ ∀ w, P10At PT w → 10 < w.heap.size → Calls Tryz.prog 118 #[.int .u64 (m : Int), .int .i64 e] w (Says w (.tuple #[.int .u64 (d : Int), .int .i64 p])) := by
 subst hA
 have hz1 : -5000 ≤ e + 11 := by omega
 have hz2 : e + 11 ≤ 5000 := by omega
 obtain ⟨i, hi⟩ : ∃ i : Nat, (-(((e + 11) * 631305 - 261663) / 2097152)) = (i : Int) - 348 := ⟨((-(((e + 11) * 631305 - 261663) / 2097152)) + 348).toNat, by omega⟩
 have hi2 : i < 696 := by omega
 obtain ⟨mn, hmn, emn⟩ := u64_nat (9223372036854775296) (by first | (with_reducible exact (wrapu_range _).1) | omega) (by first | (with_reducible exact (wrapu_range _).2) | omega)
 obtain ⟨mx, hmx, emx⟩ := u64_nat (9223372036854776832) (by first | (with_reducible exact (wrapu_range _).1) | omega) (by first | (with_reducible exact (wrapu_range _).2) | omega)
 obtain ⟨od, eod⟩ : ∃ o : Int, bits .and .i64 (4503599627370496) 1 = o := ⟨_, rfl⟩
 have hod : od = 0 ∨ od = 1 := by rw [← eod]; exact and1_cases _
 have EOD := Lib.hid eod
 have EMN := Lib.hid emn
 have EMX := Lib.hid emx
 obtain ⟨lp, elp⟩ : ∃ l : Int, ((i : Int) - 348) * 108853 / 32768 = l := ⟨_, rfl⟩
 have hlp : -5000 ≤ lp ∧ lp ≤ 5000 := by omega
 obtain ⟨a1, ha1, v1, u1⟩ := uscale_ex mn (PT i).1 (PT i).2 (-(e + lp + 3)) hmn (hPT i hi2).1 (hPT i hi2).2
 obtain ⟨a2, ha2, v2, u2⟩ := nudge_ex a1 od
 obtain ⟨dmin, hdmin, v3, u3⟩ := ceil_ex a2 ha2
 obtain ⟨a3, ha3, v4, u4⟩ := uscale_ex mx (PT i).1 (PT i).2 (-(e + lp + 3)) hmx (hPT i hi2).1 (hPT i hi2).2
 obtain ⟨a4, ha4, v5, u5⟩ := nudge_ex a3 (-od)
 obtain ⟨dmax, hdmax, v6, u6⟩ := floor_ex a4 ha4
 obtain ⟨a5, ha5, v7, u7⟩ := uscale_ex 9223372036854775808 (PT i).1 (PT i).2 (-(e + lp + 3)) (by omega) (hPT i hi2).1 (hPT i hi2).2
 obtain ⟨dr, hdr, v8, u8⟩ := round_ex a5 ha5
 have hval : Fl.ShGood PT 52 (-1085) 9223372036854775808 e → Fl.shX PT 52 (-1085) 9223372036854775808 e = if dmin ≤ dmax / 10 * 10 then (dmax / 10, 1 - ((i : Int) - 348)) else if dmin < dmax then (dr, -((i : Int) - 348)) else (dmin, -((i : Int) - 348)) := by
  intro hg
  have hsk : Fl.shSk (-1085) 9223372036854775808 e = true := by unfold Fl.shSk; exact decide_eq_true ⟨by decide, hB⟩
  have hz : Fl.shZ 52 (-1085) e = 11 := by unfold Fl.shZ; rw [if_pos (by omega)]; rfl
  have hPw : Fl.shPow 52 (-1085) 9223372036854775808 e = (-(((e + 11) * 631305 - 261663) / 2097152)) := by unfold Fl.shPow; rw [hsk, hz]; rfl
  have hodn : od = ((0 : Nat) : Int) := by rw [← eod]; decide
  have hhi := hg.hi
  rw [hz] at hhi
  have hbd : 2 ≤ mn ∧ 2 ≤ mx ∧ 2 ≤ 9223372036854775808 := by clear v1 v2 v3 v4 v5 v6 v7 v8; omega
  have key := Fl.shV_of (PT := PT) (mn := mn) (mx := mx) (m := 9223372036854775808) (od := 0) (P := (i : Int) - 348) (e := e) (OD := od) (hg.tab i hi2) rfl elp (by have := hg.s; rw [hPw, hi] at this; exact this) hodn (Nat.zero_le _) hbd.1 hmn hbd.2.1 hmx hbd.2.2 hm2 v1 v2 v3 v4 v5 v6 v7 v8
  rw [← key, ← hi, ← hPw]
  unfold Fl.shX
  rw [hsk, hz]
  have r1 : 9223372036854775808 - 2 ^ (11 - 2) = mn := by
   have : (2 : Nat) ^ (11 - 2) = 512 := by decide
   omega
  have r2 : 9223372036854775808 + 2 ^ (11 - 1) = mx := by
   have : (2 : Nat) ^ (11 - 1) = 1024 := by decide
   omega
  have r3 : 9223372036854775808 / 2 ^ 11 % 2 = 0 := by decide
  simp only [if_true]
  rw [r1, r2, r3]
 have HVAL := Lib.hid hval
 clear hval v1 v2 v3 v4 v5 v6 v7 v8 eod emn emx
 have U1 := Lib.hid u1
 have N1 := Lib.hid u2
 have C1 := Lib.hid u3
 have U2 := Lib.hid u4
 have N2 := Lib.hid u5
 have C2 := Lib.hid u6
 have U3 := Lib.hid u7
 have C3 := Lib.hid u8
 clear u1 u2 u3 u4 u5 u6 u7 u8 ha1 ha2 ha3 ha4 ha5 hmn hmx
 have ELP := Lib.hid elp
 have HI := Lib.hid hi
 clear elp hi
 obtain ⟨d, p, hdp⟩ : ∃ (d : Nat) (p : Int), (d = dmax / 10 ∧ p = -((i : Int) - 348 - 1) ∧ (dmin : Int) ≤ (dmax : Int) / 10 * 10) ∨ (d = dr ∧ p = -((i : Int) - 348) ∧ ¬ (dmin : Int) ≤ (dmax : Int) / 10 * 10 ∧ (dmin : Int) < (dmax : Int)) ∨ (d = dmin ∧ p = -((i : Int) - 348) ∧ ¬ (dmin : Int) ≤ (dmax : Int) / 10 * 10 ∧ ¬ (dmin : Int) < (dmax : Int)) := by
  by_cases c1 : (dmin : Int) ≤ (dmax : Int) / 10 * 10
  · exact ⟨_, _, .inl ⟨rfl, rfl, c1⟩⟩
  · by_cases c2 : (dmin : Int) < (dmax : Int)
    · exact ⟨_, _, .inr (.inl ⟨rfl, rfl, c1, c2⟩)⟩
    · exact ⟨_, _, .inr (.inr ⟨rfl, rfl, c1, c2⟩)⟩
 refine ⟨d, p, by omega, by omega, by omega, fun hg => ?_, fun w hT hg => ?_⟩
 · rw [HVAL.out hg]
   rcases hdp with ⟨rfl, rfl, c1⟩ | ⟨rfl, rfl, c1, c2⟩ | ⟨rfl, rfl, c1, c2⟩
   · rw [if_pos (by omega)]
     refine Prod.ext rfl ?_
     show -((i : Int) - 348 - 1) = 1 - ((i : Int) - 348)
     omega
   · rw [if_neg (by omega), if_pos (by omega)]
   · rw [if_neg (by omega), if_neg (by omega)]
 clear HVAL
 have HDP := Lib.hid hdp
 clear hdp
 have HTT := Lib.hid hT
 have HGG := Lib.hid hg
 clear hT hg
 have hp1 : -5000 ≤ (i : Int) - 348 := by omega
 have hp2 : (i : Int) - 348 ≤ 5000 := by omega
 go_enter Tryz.func118, Tryz.ntmps118
 skip
 go_upto_region 27 with (first | (go_at_call 136; with_reducible refine (skewed_any _ hz1 hz2 _).mono ?_; rintro en w' ⟨rfl, hww⟩; obtain rfl := hww.symm))
 rw [HI.out, EOD.out]
 try rw [EMN.out]
 try rw [EMX.out]
 obtain ⟨W1, hW1⟩ : ∃ W, w.alloc (.cells #[.int .u64 0, .int .u64 0, .int .i64 0] 209) = W := ⟨_, rfl⟩
 have hk1 : Keeps (fun _ => False) w W1 := by rw [← hW1]; exact (Keeps.refl _ w).alloc _
 have hr1 : W1.heap[w.heap.size]? = some (.cells #[.int .u64 0, .int .u64 0, .int .i64 0] 209 (0, 0)) := by rw [← hW1]; exact heap_alloc_new w _
 obtain ⟨K, hK⟩ : ∃ K, w.heap.size = K := ⟨_, rfl⟩
 have HKs : Hid (w.heap.size ≤ K) := Nat.le_of_eq hK
 have HKg : Hid (10 ≠ K) := by show _ ≠ _; have := HGG.out; omega
 rw [hK] at hr1
 have KK := Lib.hid hk1
 have KR := Lib.hid hr1
 have KT : Hid (P10At PT W1) := HTT.out.keeps hk1
 have HPR : Hid (∀ (v0 v1 v2 : Value) (w : World), P10At PT w → w.heap[K]? = some (.cells #[v0, v1, v2] 209 (0, 0)) → Calls Tryz.prog 137 #[.pointer (some ⟨K, 0, none⟩), .int .i64 e, .int .i64 ((i : Int) - 348), .int .i64 lp] w fun en w' => en = .returned (.tuple #[]) ∧ w'.heap[K]? = some (.cells #[.int .u64 ((PT i).1 : Int), .int .u64 ((PT i).2 : Int), .int .i64 (-(e + lp + 3))] 209 (0, 0)) ∧ Keeps (fun k => k = K) w w') := fun v0 v1 v2 w hT hc => prescale_any PT K v0 v1 v2 e lp i hi2 (by omega) (by omega) hlp.1 hlp.2 w hT hc HKg.out
 go_upto_region 28 with (fail)
 try rw [hW1]
 try rw [hK]
 clear hW1 hK hk1 hr1
 rcases HDP.out with ⟨rfl, rfl, c1⟩ | ⟨rfl, rfl, c1, c2⟩ | ⟨rfl, rfl, c1, c2⟩
 all_goals go_wp2_with (first
  | (go_at_call 138; with_reducible refine (log2_any _ hp1 hp2 _).mono ?_; rintro en w' ⟨rfl, rfl⟩; rw [ELP.out])
  | (go_at_call 137; refine (HPR.out _ _ _ _ KT.out KR.out).mono ?_; rintro en w2 ⟨rfl, r2, k2⟩; have K2 : Hid (Keeps (fun _ => False) w w2) := KK.out.trans k2 (fun j hj e => by have := HKs.out; omega); have q0 := cell_row (j := 0) r2; have q1 := cell_row (j := 1) r2; have q2 := cell_row (j := 2) r2; simp at q0 q1 q2; clear r2 k2)
  | (go_at_call 139; have _h := K4; refine (U3.out _ _ q0 q1 q2).mono ?_; rintro en w5 ⟨rfl, k5⟩; have K5 : Hid (Keeps (fun _ => False) w w5) := K4.out.trans k5 (fun _ _ h => h); clear k5)
  | (go_at_call 139; have _h := K3; refine (U2.out _ _ q0 q1 q2).mono ?_; rintro en w4 ⟨rfl, k4⟩; have q0 := k4.cell q0 id; have q1 := k4.cell q1 id; have q2 := k4.cell q2 id; have K4 : Hid (Keeps (fun _ => False) w w4) := K3.out.trans k4 (fun _ _ h => h); clear k4)
  | (go_at_call 139; have _h := K2; refine (U1.out _ _ q0 q1 q2).mono ?_; rintro en w3 ⟨rfl, k3⟩; have q0 := k3.cell q0 id; have q1 := k3.cell q1 id; have q2 := k3.cell q2 id; have K3 : Hid (Keeps (fun _ => False) w w3) := K2.out.trans k3 (fun _ _ h => h); clear k3)
  | (go_at_call 140; with_reducible refine (N1.out _).mono ?_; rintro en w' ⟨rfl, rfl⟩)
  | (go_at_call 140; with_reducible refine (N2.out _).mono ?_; rintro en w' ⟨rfl, rfl⟩)
  | (go_at_call 141; with_reducible refine (C1.out _).mono ?_; rintro en w' ⟨rfl, rfl⟩)
  | (go_at_call 142; with_reducible refine (C2.out _).mono ?_; rintro en w' ⟨rfl, rfl⟩)
  | (go_at_call 143; with_reducible refine (C3.out _).mono ?_; rintro en w' ⟨rfl, rfl⟩))
 all_goals go_ret2
 all_goals first | exact ⟨rfl, K4.out⟩ | exact ⟨rfl, K5.out⟩
set_option maxRecDepth 1000000 in
set_option maxHeartbeats 40000000 in
theorem short64_Btrue (PT : Nat → Nat × Nat) (hPT : ∀ i, i < 696 → (PT i).1 < 18446744073709551616 ∧ (PT i).2 < 18446744073709551616) (m : Nat) (e : Int) (hm : 9223372036854775808 ≤ m) (hm2 : m < 18446744073709551616) (h0 : -1145 ≤ e) (h1 : e ≤ 970) (hq : ((m : Int) == 9223372036854775808) = true) (hB : -1085 ≤ e) (hB' : ¬ -1085 < e) :
 ∃ (d : Nat) (p : Int), d < 18446744073709551616 ∧ -400 ≤ p ∧ p ≤ 400 ∧ (Fl.ShGood PT 52 (-1085) m e → (d, p) = Fl.shX PT 52 (-1085) m e) ∧ ∀ w, P10At PT w → 10 < w.heap.size → Calls Tryz.prog 118 #[.int .u64 (m : Int), .int .i64 e] w (Says w (.tuple #[.int .u64 (d : Int), .int .i64 p])) := by
 have hz1 : -5000 ≤ e + 11 := by omega
 have hz2 : e + 11 ≤ 5000 := by omega
 obtain ⟨i, hi⟩ : ∃ i : Nat, (-((e + 11) * 78913 / 262144)) = (i : Int) - 348 := ⟨((-((e + 11) * 78913 / 262144)) + 348).toNat, by omega⟩
 have hi2 : i < 696 := by omega
 obtain ⟨mn, hmn, emn⟩ := u64_nat ((m : Int) - 1024) (by first | (with_reducible exact (wrapu_range _).1) | omega) (by first | (with_reducible exact (wrapu_range _).2) | omega)
 obtain ⟨mx, hmx, emx⟩ := u64_nat (IntKind.u64.wrap ((m : Int) + 1024)) (by first | (with_reducible exact (wrapu_range _).1) | omega) (by first | (with_reducible exact (wrapu_range _).2) | omega)
 obtain ⟨od, eod⟩ : ∃ o : Int, bits .and .i64 ((m : Int) / 2048) 1 = o := ⟨_, rfl⟩
 have hod : od = 0 ∨ od = 1 := by rw [← eod]; exact and1_cases _
 have EOD := Lib.hid eod
 have EMN := Lib.hid emn
 have EMX := Lib.hid emx
 obtain ⟨lp, elp⟩ : ∃ l : Int, ((i : Int) - 348) * 108853 / 32768 = l := ⟨_, rfl⟩
 have hlp : -5000 ≤ lp ∧ lp ≤ 5000 := by omega
 obtain ⟨a1, ha1, v1, u1⟩ := uscale_ex mn (PT i).1 (PT i).2 (-(e + lp + 3)) hmn (hPT i hi2).1 (hPT i hi2).2
 obtain ⟨a2, ha2, v2, u2⟩ := nudge_ex a1 od
 obtain ⟨dmin, hdmin, v3, u3⟩ := ceil_ex a2 ha2
 obtain ⟨a3, ha3, v4, u4⟩ := uscale_ex mx (PT i).1 (PT i).2 (-(e + lp + 3)) hmx (hPT i hi2).1 (hPT i hi2).2
 obtain ⟨a4, ha4, v5, u5⟩ := nudge_ex a3 (-od)
 obtain ⟨dmax, hdmax, v6, u6⟩ := floor_ex a4 ha4
 obtain ⟨a5, ha5, v7, u7⟩ := uscale_ex m (PT i).1 (PT i).2 (-(e + lp + 3)) (by omega) (hPT i hi2).1 (hPT i hi2).2
 obtain ⟨dr, hdr, v8, u8⟩ := round_ex a5 ha5
 have hval : Fl.ShGood PT 52 (-1085) m e → Fl.shX PT 52 (-1085) m e = if dmin ≤ dmax / 10 * 10 then (dmax / 10, 1 - ((i : Int) - 348)) else if dmin < dmax then (dr, -((i : Int) - 348)) else (dmin, -((i : Int) - 348)) := by
  intro hg
  have hsk : Fl.shSk (-1085) m e = false := by unfold Fl.shSk; exact decide_eq_false (fun h => absurd h.2 hB')
  have hz : Fl.shZ 52 (-1085) e = 11 := by unfold Fl.shZ; rw [if_pos hB]; rfl
  have hPw : Fl.shPow 52 (-1085) m e = (-((e + 11) * 78913 / 262144)) := by unfold Fl.shPow; rw [hsk, hz]; rfl
  have hodn : od = ((m / 2048 % 2 : Nat) : Int) := by rw [← eod, and1]; omega
  have hhi := hg.hi
  rw [hz, show (2 : Nat) ^ (11 - 1) = 1024 by decide] at hhi
  rw [IntKind.wrap_u64] at emx
  have hbd : 2 ≤ mn ∧ 2 ≤ mx ∧ 2 ≤ m := by clear v1 v2 v3 v4 v5 v6 v7 v8; omega
  have key := Fl.shV_of (PT := PT) (mn := mn) (mx := mx) (m := m) (od := (m / 2048 % 2)) (P := (i : Int) - 348) (e := e) (OD := od) (hg.tab i hi2) rfl elp (by have := hg.s; rw [hPw, hi] at this; exact this) hodn (Nat.le_of_lt_succ (Nat.mod_lt _ (by decide))) hbd.1 hmn hbd.2.1 hmx hbd.2.2 hm2 v1 v2 v3 v4 v5 v6 v7 v8
  rw [← key, ← hi, ← hPw]
  unfold Fl.shX
  rw [hsk, hz]
  have r1 : m - 2 ^ (11 - 1) = mn := by
   have : (2 : Nat) ^ (11 - 1) = 1024 := by decide
   omega
  have r2 : m + 2 ^ (11 - 1) = mx := by
   have : (2 : Nat) ^ (11 - 1) = 1024 := by decide
   omega
  have r3 : m / 2 ^ 11 % 2 = m / 2048 % 2 := by rw [show (2 : Nat) ^ 11 = 2048 by decide]
  simp only [Bool.false_eq_true, if_false]
  rw [r1, r2, r3]
 have HVAL := Lib.hid hval
 clear hval v1 v2 v3 v4 v5 v6 v7 v8 eod emn emx
 have U1 := Lib.hid u1
 have N1 := Lib.hid u2
 have C1 := Lib.hid u3
 have U2 := Lib.hid u4
 have N2 := Lib.hid u5
 have C2 := Lib.hid u6
 have U3 := Lib.hid u7
 have C3 := Lib.hid u8
 clear u1 u2 u3 u4 u5 u6 u7 u8 ha1 ha2 ha3 ha4 ha5 hmn hmx
 have ELP := Lib.hid elp
 have HI := Lib.hid hi
 clear elp hi
 obtain ⟨d, p, hdp⟩ : ∃ (d : Nat) (p : Int), (d = dmax / 10 ∧ p = -((i : Int) - 348 - 1) ∧ (dmin : Int) ≤ (dmax : Int) / 10 * 10) ∨ (d = dr ∧ p = -((i : Int) - 348) ∧ ¬ (dmin : Int) ≤ (dmax : Int) / 10 * 10 ∧ (dmin : Int) < (dmax : Int)) ∨ (d = dmin ∧ p = -((i : Int) - 348) ∧ ¬ (dmin : Int) ≤ (dmax : Int) / 10 * 10 ∧ ¬ (dmin : Int) < (dmax : Int)) := by
  by_cases c1 : (dmin : Int) ≤ (dmax : Int) / 10 * 10
  · exact ⟨_, _, .inl ⟨rfl, rfl, c1⟩⟩
  · by_cases c2 : (dmin : Int) < (dmax : Int)
    · exact ⟨_, _, .inr (.inl ⟨rfl, rfl, c1, c2⟩)⟩
    · exact ⟨_, _, .inr (.inr ⟨rfl, rfl, c1, c2⟩)⟩
 refine ⟨d, p, by omega, by omega, by omega, fun hg => ?_, fun w hT hg => ?_⟩
 · rw [HVAL.out hg]
   rcases hdp with ⟨rfl, rfl, c1⟩ | ⟨rfl, rfl, c1, c2⟩ | ⟨rfl, rfl, c1, c2⟩
   · rw [if_pos (by omega)]
     refine Prod.ext rfl ?_
     show -((i : Int) - 348 - 1) = 1 - ((i : Int) - 348)
     omega
   · rw [if_neg (by omega), if_pos (by omega)]
   · rw [if_neg (by omega), if_neg (by omega)]
 clear HVAL
 have HDP := Lib.hid hdp
 clear hdp
 have HTT := Lib.hid hT
 have HGG := Lib.hid hg
 clear hT hg
 have hp1 : -5000 ≤ (i : Int) - 348 := by omega
 have hp2 : (i : Int) - 348 ≤ 5000 := by omega
 go_enter Tryz.func118, Tryz.ntmps118
 skip
 go_upto_region 27 with (first | (go_at_call 102; with_reducible refine (log10_any _ hz1 hz2 _).mono ?_; rintro en w' ⟨rfl, hww⟩; obtain rfl := hww.symm))
 rw [HI.out, EOD.out]
 try rw [EMN.out]
 try rw [EMX.out]
 obtain ⟨W1, hW1⟩ : ∃ W, w.alloc (.cells #[.int .u64 0, .int .u64 0, .int .i64 0] 209) = W := ⟨_, rfl⟩
 have hk1 : Keeps (fun _ => False) w W1 := by rw [← hW1]; exact (Keeps.refl _ w).alloc _
 have hr1 : W1.heap[w.heap.size]? = some (.cells #[.int .u64 0, .int .u64 0, .int .i64 0] 209 (0, 0)) := by rw [← hW1]; exact heap_alloc_new w _
 obtain ⟨K, hK⟩ : ∃ K, w.heap.size = K := ⟨_, rfl⟩
 have HKs : Hid (w.heap.size ≤ K) := Nat.le_of_eq hK
 have HKg : Hid (10 ≠ K) := by show _ ≠ _; have := HGG.out; omega
 rw [hK] at hr1
 have KK := Lib.hid hk1
 have KR := Lib.hid hr1
 have KT : Hid (P10At PT W1) := HTT.out.keeps hk1
 have HPR : Hid (∀ (v0 v1 v2 : Value) (w : World), P10At PT w → w.heap[K]? = some (.cells #[v0, v1, v2] 209 (0, 0)) → Calls Tryz.prog 137 #[.pointer (some ⟨K, 0, none⟩), .int .i64 e, .int .i64 ((i : Int) - 348), .int .i64 lp] w fun en w' => en = .returned (.tuple #[]) ∧ w'.heap[K]? = some (.cells #[.int .u64 ((PT i).1 : Int), .int .u64 ((PT i).2 : Int), .int .i64 (-(e + lp + 3))] 209 (0, 0)) ∧ Keeps (fun k => k = K) w w') := fun v0 v1 v2 w hT hc => prescale_any PT K v0 v1 v2 e lp i hi2 (by omega) (by omega) hlp.1 hlp.2 w hT hc HKg.out
 go_upto_region 28 with (fail)
 try rw [hW1]
 try rw [hK]
 clear hW1 hK hk1 hr1
 rcases HDP.out with ⟨rfl, rfl, c1⟩ | ⟨rfl, rfl, c1, c2⟩ | ⟨rfl, rfl, c1, c2⟩
 all_goals go_wp2_with (first
  | (go_at_call 138; with_reducible refine (log2_any _ hp1 hp2 _).mono ?_; rintro en w' ⟨rfl, rfl⟩; rw [ELP.out])
  | (go_at_call 137; refine (HPR.out _ _ _ _ KT.out KR.out).mono ?_; rintro en w2 ⟨rfl, r2, k2⟩; have K2 : Hid (Keeps (fun _ => False) w w2) := KK.out.trans k2 (fun j hj e => by have := HKs.out; omega); have q0 := cell_row (j := 0) r2; have q1 := cell_row (j := 1) r2; have q2 := cell_row (j := 2) r2; simp at q0 q1 q2; clear r2 k2)
  | (go_at_call 139; have _h := K4; refine (U3.out _ _ q0 q1 q2).mono ?_; rintro en w5 ⟨rfl, k5⟩; have K5 : Hid (Keeps (fun _ => False) w w5) := K4.out.trans k5 (fun _ _ h => h); clear k5)
  | (go_at_call 139; have _h := K3; refine (U2.out _ _ q0 q1 q2).mono ?_; rintro en w4 ⟨rfl, k4⟩; have q0 := k4.cell q0 id; have q1 := k4.cell q1 id; have q2 := k4.cell q2 id; have K4 : Hid (Keeps (fun _ => False) w w4) := K3.out.trans k4 (fun _ _ h => h); clear k4)
  | (go_at_call 139; have _h := K2; refine (U1.out _ _ q0 q1 q2).mono ?_; rintro en w3 ⟨rfl, k3⟩; have q0 := k3.cell q0 id; have q1 := k3.cell q1 id; have q2 := k3.cell q2 id; have K3 : Hid (Keeps (fun _ => False) w w3) := K2.out.trans k3 (fun _ _ h => h); clear k3)
  | (go_at_call 140; with_reducible refine (N1.out _).mono ?_; rintro en w' ⟨rfl, rfl⟩)
  | (go_at_call 140; with_reducible refine (N2.out _).mono ?_; rintro en w' ⟨rfl, rfl⟩)
  | (go_at_call 141; with_reducible refine (C1.out _).mono ?_; rintro en w' ⟨rfl, rfl⟩)
  | (go_at_call 142; with_reducible refine (C2.out _).mono ?_; rintro en w' ⟨rfl, rfl⟩)
  | (go_at_call 143; with_reducible refine (C3.out _).mono ?_; rintro en w' ⟨rfl, rfl⟩))
 all_goals go_ret2
 all_goals first | exact ⟨rfl, K4.out⟩ | exact ⟨rfl, K5.out⟩
set_option maxRecDepth 1000000 in
set_option maxHeartbeats 40000000 in
theorem short64_Ctrue (PT : Nat → Nat × Nat) (hPT : ∀ i, i < 696 → (PT i).1 < 18446744073709551616 ∧ (PT i).2 < 18446744073709551616) (m : Nat) (e : Int) (hm : 9223372036854775808 ≤ m) (hm2 : m < 18446744073709551616) (h0 : -1145 ≤ e) (h1 : e ≤ 970) (hq : ((m : Int) == 9223372036854775808) = true) (hB : ¬ -1085 ≤ e) :
 ∃ (d : Nat) (p : Int), d < 18446744073709551616 ∧ -400 ≤ p ∧ p ≤ 400 ∧ (Fl.ShGood PT 52 (-1085) m e → (d, p) = Fl.shX PT 52 (-1085) m e) ∧ ∀ w, P10At PT w → 10 < w.heap.size → Calls Tryz.prog 118 #[.int .u64 (m : Int), .int .i64 e] w (Says w (.tuple #[.int .u64 (d : Int), .int .i64 p])) := by
 have hB' : ¬ -1085 < e := by omega
 obtain ⟨z, hz⟩ : ∃ z : Nat, 11 + (-1085 - e) = (z : Int) := ⟨(11 + (-1085 - e)).toNat, by omega⟩
 obtain ⟨k, hk⟩ : ∃ k : Nat, (z : Int) - 1 = (k : Int) := ⟨z - 1, by omega⟩
 have hen : e + (z : Int) = -1074 := by omega
 have hk64 : k < 200 := by omega
 have hz1 : (-5000 : Int) ≤ -1074 := by omega
 have hz2 : (-1074 : Int) ≤ 5000 := by omega
 obtain ⟨i, hi⟩ : ∃ i : Nat, (324 : Int) = (i : Int) - 348 := ⟨((324 : Int) + 348).toNat, by omega⟩
 have hi2 : i < 696 := by omega
 obtain ⟨mn, hmn, emn⟩ := u64_nat (IntKind.u64.wrap ((m : Int) - IntKind.u64.wrap (2 ^ min k 64))) (by first | (with_reducible exact (wrapu_range _).1) | omega) (by first | (with_reducible exact (wrapu_range _).2) | omega)
 obtain ⟨mx, hmx, emx⟩ := u64_nat (IntKind.u64.wrap ((m : Int) + IntKind.u64.wrap (2 ^ min k 64))) (by first | (with_reducible exact (wrapu_range _).1) | omega) (by first | (with_reducible exact (wrapu_range _).2) | omega)
 obtain ⟨od, eod⟩ : ∃ o : Int, bits .and .i64 (wrap64 ((m : Int) / 2 ^ min z 64)) 1 = o := ⟨_, rfl⟩
 have hod : od = 0 ∨ od = 1 := by rw [← eod]; exact and1_cases _
 have EOD := Lib.hid eod
 have EMN := Lib.hid emn
 have EMX := Lib.hid emx
 obtain ⟨lp, elp⟩ : ∃ l : Int, ((i : Int) - 348) * 108853 / 32768 = l := ⟨_, rfl⟩
 have hlp : -5000 ≤ lp ∧ lp ≤ 5000 := by omega
 obtain ⟨a1, ha1, v1, u1⟩ := uscale_ex mn (PT i).1 (PT i).2 (-(e + lp + 3)) hmn (hPT i hi2).1 (hPT i hi2).2
 obtain ⟨a2, ha2, v2, u2⟩ := nudge_ex a1 od
 obtain ⟨dmin, hdmin, v3, u3⟩ := ceil_ex a2 ha2
 obtain ⟨a3, ha3, v4, u4⟩ := uscale_ex mx (PT i).1 (PT i).2 (-(e + lp + 3)) hmx (hPT i hi2).1 (hPT i hi2).2
 obtain ⟨a4, ha4, v5, u5⟩ := nudge_ex a3 (-od)
 obtain ⟨dmax, hdmax, v6, u6⟩ := floor_ex a4 ha4
 obtain ⟨a5, ha5, v7, u7⟩ := uscale_ex m (PT i).1 (PT i).2 (-(e + lp + 3)) (by omega) (hPT i hi2).1 (hPT i hi2).2
 obtain ⟨dr, hdr, v8, u8⟩ := round_ex a5 ha5
 have hval : Fl.ShGood PT 52 (-1085) m e → Fl.shX PT 52 (-1085) m e = if dmin ≤ dmax / 10 * 10 then (dmax / 10, 1 - ((i : Int) - 348)) else if dmin < dmax then (dr, -((i : Int) - 348)) else (dmin, -((i : Int) - 348)) := by
  intro hg
  have hsk : Fl.shSk (-1085) m e = false := by unfold Fl.shSk; exact decide_eq_false (fun h => hB' h.2)
  have hz' : Fl.shZ 52 (-1085) e = z := by unfold Fl.shZ; rw [if_neg hB]; omega
  have hPw : Fl.shPow 52 (-1085) m e = (324 : Int) := by unfold Fl.shPow; rw [hsk, hz', hen]; rfl
  have hz63 := hg.z
  rw [hz'] at hz63
  have hhi := hg.hi
  rw [hz', show z - 1 = k by clear v1 v2 v3 v4 v5 v6 v7 v8; omega] at hhi
  have hmk : min k 64 = k := by clear v1 v2 v3 v4 v5 v6 v7 v8; omega
  have hmz : min z 64 = z := by clear v1 v2 v3 v4 v5 v6 v7 v8; omega
  have hkl : k ≤ 62 := by clear v1 v2 v3 v4 v5 v6 v7 v8; omega
  have hzk : z - 1 = k := by clear v1 v2 v3 v4 v5 v6 v7 v8; omega
  have hk63 : 2 ^ k ≤ 2 ^ 62 := Nat.pow_le_pow_right (by decide) hkl
  have hk62 : (2 : Nat) ^ 62 = 4611686018427387904 := by decide
  have hpk : (2 : Int) ^ k = ((2 ^ k : Nat) : Int) := by push_cast; rfl
  rw [hmk, hpk, IntKind.wrap_u64, IntKind.wrap_u64] at emn
  rw [hmk, hpk, IntKind.wrap_u64, IntKind.wrap_u64] at emx
  rw [hk62] at hk63
  obtain ⟨K, hK⟩ : ∃ K, 2 ^ k = K := ⟨_, rfl⟩
  rw [hK] at hk63 emn emx hhi
  obtain ⟨emn', emx'⟩ := vc_ends hm hm2 hk63 hhi emn emx
  clear emn emx
  have hbd := vc_bounds hm hk63 emn' emx'
  have hzp := Nat.two_pow_pos z
  have hdz : (m : Int) / 2 ^ z = ((m / 2 ^ z : Nat) : Int) := by push_cast; rfl
  have hz1 : 1 ≤ z := by clear v1 v2 v3 v4 v5 v6 v7 v8 emn' emx'; omega
  have hdl : m / 2 ^ z ≤ m / 2 := Nat.div_le_div_left (Nat.pow_le_pow_right (show 0 < 2 by decide) hz1) (by decide)
  obtain ⟨Z, hZ⟩ : ∃ Z, m / 2 ^ z = Z := ⟨_, rfl⟩
  rw [hZ] at hdz hdl
  have hwz : wrap64 (Z : Int) = (Z : Int) := vc_wrap hm2 hdl
  have hodn : od = ((m / 2 ^ z % 2 : Nat) : Int) := by rw [← eod, and1, hmz, hdz, hwz, hZ]; rfl
  have key := Fl.shV_of (PT := PT) (mn := mn) (mx := mx) (m := m) (od := (m / 2 ^ z % 2)) (P := (i : Int) - 348) (e := e) (OD := od) (hg.tab i hi2) rfl elp (by have := hg.s; rw [hPw, hi] at this; exact this) hodn (Nat.le_of_lt_succ (Nat.mod_lt _ (by decide))) hbd.1 hmn hbd.2.1 hmx hbd.2.2 hm2 v1 v2 v3 v4 v5 v6 v7 v8
  rw [← key, ← hi, ← hPw]
  unfold Fl.shX
  rw [hsk, hz']
  have r1 : m - 2 ^ (z - 1) = mn := by
   rw [hzk, hK]
   exact Nat.sub_eq_of_eq_add emn'.symm
  have r2 : m + 2 ^ (z - 1) = mx := by
   rw [hzk, hK]
   exact emx'.symm
  simp only [Bool.false_eq_true, if_false]
  rw [r1, r2]
 have HVAL := Lib.hid hval
 clear hval v1 v2 v3 v4 v5 v6 v7 v8 eod emn emx
 have U1 := Lib.hid u1
 have N1 := Lib.hid u2
 have C1 := Lib.hid u3
 have U2 := Lib.hid u4
 have N2 := Lib.hid u5
 have C2 := Lib.hid u6
 have U3 := Lib.hid u7
 have C3 := Lib.hid u8
 clear u1 u2 u3 u4 u5 u6 u7 u8 ha1 ha2 ha3 ha4 ha5 hmn hmx
 have ELP := Lib.hid elp
 have HI := Lib.hid hi
 clear elp hi
 obtain ⟨d, p, hdp⟩ : ∃ (d : Nat) (p : Int), (d = dmax / 10 ∧ p = -((i : Int) - 348 - 1) ∧ (dmin : Int) ≤ (dmax : Int) / 10 * 10) ∨ (d = dr ∧ p = -((i : Int) - 348) ∧ ¬ (dmin : Int) ≤ (dmax : Int) / 10 * 10 ∧ (dmin : Int) < (dmax : Int)) ∨ (d = dmin ∧ p = -((i : Int) - 348) ∧ ¬ (dmin : Int) ≤ (dmax : Int) / 10 * 10 ∧ ¬ (dmin : Int) < (dmax : Int)) := by
  by_cases c1 : (dmin : Int) ≤ (dmax : Int) / 10 * 10
  · exact ⟨_, _, .inl ⟨rfl, rfl, c1⟩⟩
  · by_cases c2 : (dmin : Int) < (dmax : Int)
    · exact ⟨_, _, .inr (.inl ⟨rfl, rfl, c1, c2⟩)⟩
    · exact ⟨_, _, .inr (.inr ⟨rfl, rfl, c1, c2⟩)⟩
 refine ⟨d, p, by omega, by omega, by omega, fun hg => ?_, fun w hT hg => ?_⟩
 · rw [HVAL.out hg]
   rcases hdp with ⟨rfl, rfl, c1⟩ | ⟨rfl, rfl, c1, c2⟩ | ⟨rfl, rfl, c1, c2⟩
   · rw [if_pos (by omega)]
     refine Prod.ext rfl ?_
     show -((i : Int) - 348 - 1) = 1 - ((i : Int) - 348)
     omega
   · rw [if_neg (by omega), if_pos (by omega)]
   · rw [if_neg (by omega), if_neg (by omega)]
 clear HVAL
 have HDP := Lib.hid hdp
 clear hdp
 have HTT := Lib.hid hT
 have HGG := Lib.hid hg
 clear hT hg
 have hp1 : -5000 ≤ (i : Int) - 348 := by omega
 have hp2 : (i : Int) - 348 ≤ 5000 := by omega
 go_enter Tryz.func118, Tryz.ntmps118
 skip
 go_upto_region 27 with (first | (go_at_call 102; with_reducible refine (log10_any _ hz1 hz2 _).mono ?_; rintro en w' ⟨rfl, hww⟩; obtain rfl := hww.symm))
 rw [HI.out, EOD.out]
 try rw [EMN.out]
 try rw [EMX.out]
 obtain ⟨W1, hW1⟩ : ∃ W, w.alloc (.cells #[.int .u64 0, .int .u64 0, .int .i64 0] 209) = W := ⟨_, rfl⟩
 have hk1 : Keeps (fun _ => False) w W1 := by rw [← hW1]; exact (Keeps.refl _ w).alloc _
 have hr1 : W1.heap[w.heap.size]? = some (.cells #[.int .u64 0, .int .u64 0, .int .i64 0] 209 (0, 0)) := by rw [← hW1]; exact heap_alloc_new w _
 obtain ⟨K, hK⟩ : ∃ K, w.heap.size = K := ⟨_, rfl⟩
 have HKs : Hid (w.heap.size ≤ K) := Nat.le_of_eq hK
 have HKg : Hid (10 ≠ K) := by show _ ≠ _; have := HGG.out; omega
 rw [hK] at hr1
 have KK := Lib.hid hk1
 have KR := Lib.hid hr1
 have KT : Hid (P10At PT W1) := HTT.out.keeps hk1
 have HPR : Hid (∀ (v0 v1 v2 : Value) (w : World), P10At PT w → w.heap[K]? = some (.cells #[v0, v1, v2] 209 (0, 0)) → Calls Tryz.prog 137 #[.pointer (some ⟨K, 0, none⟩), .int .i64 e, .int .i64 ((i : Int) - 348), .int .i64 lp] w fun en w' => en = .returned (.tuple #[]) ∧ w'.heap[K]? = some (.cells #[.int .u64 ((PT i).1 : Int), .int .u64 ((PT i).2 : Int), .int .i64 (-(e + lp + 3))] 209 (0, 0)) ∧ Keeps (fun k => k = K) w w') := fun v0 v1 v2 w hT hc => prescale_any PT K v0 v1 v2 e lp i hi2 (by omega) (by omega) hlp.1 hlp.2 w hT hc HKg.out
 go_upto_region 28 with (fail)
 try rw [hW1]
 try rw [hK]
 clear hW1 hK hk1 hr1
 rcases HDP.out with ⟨rfl, rfl, c1⟩ | ⟨rfl, rfl, c1, c2⟩ | ⟨rfl, rfl, c1, c2⟩
 all_goals go_wp2_with (first
  | (go_at_call 138; with_reducible refine (log2_any _ hp1 hp2 _).mono ?_; rintro en w' ⟨rfl, rfl⟩; rw [ELP.out])
  | (go_at_call 137; refine (HPR.out _ _ _ _ KT.out KR.out).mono ?_; rintro en w2 ⟨rfl, r2, k2⟩; have K2 : Hid (Keeps (fun _ => False) w w2) := KK.out.trans k2 (fun j hj e => by have := HKs.out; omega); have q0 := cell_row (j := 0) r2; have q1 := cell_row (j := 1) r2; have q2 := cell_row (j := 2) r2; simp at q0 q1 q2; clear r2 k2)
  | (go_at_call 139; have _h := K4; refine (U3.out _ _ q0 q1 q2).mono ?_; rintro en w5 ⟨rfl, k5⟩; have K5 : Hid (Keeps (fun _ => False) w w5) := K4.out.trans k5 (fun _ _ h => h); clear k5)
  | (go_at_call 139; have _h := K3; refine (U2.out _ _ q0 q1 q2).mono ?_; rintro en w4 ⟨rfl, k4⟩; have q0 := k4.cell q0 id; have q1 := k4.cell q1 id; have q2 := k4.cell q2 id; have K4 : Hid (Keeps (fun _ => False) w w4) := K3.out.trans k4 (fun _ _ h => h); clear k4)
  | (go_at_call 139; have _h := K2; refine (U1.out _ _ q0 q1 q2).mono ?_; rintro en w3 ⟨rfl, k3⟩; have q0 := k3.cell q0 id; have q1 := k3.cell q1 id; have q2 := k3.cell q2 id; have K3 : Hid (Keeps (fun _ => False) w w3) := K2.out.trans k3 (fun _ _ h => h); clear k3)
  | (go_at_call 140; with_reducible refine (N1.out _).mono ?_; rintro en w' ⟨rfl, rfl⟩)
  | (go_at_call 140; with_reducible refine (N2.out _).mono ?_; rintro en w' ⟨rfl, rfl⟩)
  | (go_at_call 141; with_reducible refine (C1.out _).mono ?_; rintro en w' ⟨rfl, rfl⟩)
  | (go_at_call 142; with_reducible refine (C2.out _).mono ?_; rintro en w' ⟨rfl, rfl⟩)
  | (go_at_call 143; with_reducible refine (C3.out _).mono ?_; rintro en w' ⟨rfl, rfl⟩))
 all_goals go_ret2
 all_goals first | exact ⟨rfl, K4.out⟩ | exact ⟨rfl, K5.out⟩
set_option maxRecDepth 1000000 in
set_option maxHeartbeats 40000000 in
theorem short64_Bfalse (PT : Nat → Nat × Nat) (hPT : ∀ i, i < 696 → (PT i).1 < 18446744073709551616 ∧ (PT i).2 < 18446744073709551616) (m : Nat) (e : Int) (hm : 9223372036854775808 ≤ m) (hm2 : m < 18446744073709551616) (h0 : -1145 ≤ e) (h1 : e ≤ 970) (hq : ((m : Int) == 9223372036854775808) = false) (hB : -1085 ≤ e) :
 ∃ (d : Nat) (p : Int), d < 18446744073709551616 ∧ -400 ≤ p ∧ p ≤ 400 ∧ (Fl.ShGood PT 52 (-1085) m e → (d, p) = Fl.shX PT 52 (-1085) m e) ∧ ∀ w, P10At PT w → 10 < w.heap.size → Calls Tryz.prog 118 #[.int .u64 (m : Int), .int .i64 e] w (Says w (.tuple #[.int .u64 (d : Int), .int .i64 p])) := by
 have hz1 : -5000 ≤ e + 11 := by omega
 have hz2 : e + 11 ≤ 5000 := by omega
 obtain ⟨i, hi⟩ : ∃ i : Nat, (-((e + 11) * 78913 / 262144)) = (i : Int) - 348 := ⟨((-((e + 11) * 78913 / 262144)) + 348).toNat, by omega⟩
 have hi2 : i < 696 := by omega
 obtain ⟨mn, hmn, emn⟩ := u64_nat ((m : Int) - 1024) (by first | (with_reducible exact (wrapu_range _).1) | omega) (by first | (with_reducible exact (wrapu_range _).2) | omega)
 obtain ⟨mx, hmx, emx⟩ := u64_nat (IntKind.u64.wrap ((m : Int) + 1024)) (by first | (with_reducible exact (wrapu_range _).1) | omega) (by first | (with_reducible exact (wrapu_range _).2) | omega)
 obtain ⟨od, eod⟩ : ∃ o : Int, bits .and .i64 ((m : Int) / 2048) 1 = o := ⟨_, rfl⟩
 have hod : od = 0 ∨ od = 1 := by rw [← eod]; exact and1_cases _
 have EOD := Lib.hid eod
 have EMN := Lib.hid emn
 have EMX := Lib.hid emx
 obtain ⟨lp, elp⟩ : ∃ l : Int, ((i : Int) - 348) * 108853 / 32768 = l := ⟨_, rfl⟩
 have hlp : -5000 ≤ lp ∧ lp ≤ 5000 := by omega
 obtain ⟨a1, ha1, v1, u1⟩ := uscale_ex mn (PT i).1 (PT i).2 (-(e + lp + 3)) hmn (hPT i hi2).1 (hPT i hi2).2
 obtain ⟨a2, ha2, v2, u2⟩ := nudge_ex a1 od
 obtain ⟨dmin, hdmin, v3, u3⟩ := ceil_ex a2 ha2
 obtain ⟨a3, ha3, v4, u4⟩ := uscale_ex mx (PT i).1 (PT i).2 (-(e + lp + 3)) hmx (hPT i hi2).1 (hPT i hi2).2
 obtain ⟨a4, ha4, v5, u5⟩ := nudge_ex a3 (-od)
 obtain ⟨dmax, hdmax, v6, u6⟩ := floor_ex a4 ha4
 obtain ⟨a5, ha5, v7, u7⟩ := uscale_ex m (PT i).1 (PT i).2 (-(e + lp + 3)) (by omega) (hPT i hi2).1 (hPT i hi2).2
 obtain ⟨dr, hdr, v8, u8⟩ := round_ex a5 ha5
 have hval : Fl.ShGood PT 52 (-1085) m e → Fl.shX PT 52 (-1085) m e = if dmin ≤ dmax / 10 * 10 then (dmax / 10, 1 - ((i : Int) - 348)) else if dmin < dmax then (dr, -((i : Int) - 348)) else (dmin, -((i : Int) - 348)) := by
  intro hg
  have hsk : Fl.shSk (-1085) m e = false := by unfold Fl.shSk; exact decide_eq_false (fun h => by simp at hq; omega)
  have hz : Fl.shZ 52 (-1085) e = 11 := by unfold Fl.shZ; rw [if_pos hB]; rfl
  have hPw : Fl.shPow 52 (-1085) m e = (-((e + 11) * 78913 / 262144)) := by unfold Fl.shPow; rw [hsk, hz]; rfl
  have hodn : od = ((m / 2048 % 2 : Nat) : Int) := by rw [← eod, and1]; omega
  have hhi := hg.hi
  rw [hz, show (2 : Nat) ^ (11 - 1) = 1024 by decide] at hhi
  rw [IntKind.wrap_u64] at emx
  have hbd : 2 ≤ mn ∧ 2 ≤ mx ∧ 2 ≤ m := by clear v1 v2 v3 v4 v5 v6 v7 v8; omega
  have key := Fl.shV_of (PT := PT) (mn := mn) (mx := mx) (m := m) (od := (m / 2048 % 2)) (P := (i : Int) - 348) (e := e) (OD := od) (hg.tab i hi2) rfl elp (by have := hg.s; rw [hPw, hi] at this; exact this) hodn (Nat.le_of_lt_succ (Nat.mod_lt _ (by decide))) hbd.1 hmn hbd.2.1 hmx hbd.2.2 hm2 v1 v2 v3 v4 v5 v6 v7 v8
  rw [← key, ← hi, ← hPw]
  unfold Fl.shX
  rw [hsk, hz]
  have r1 : m - 2 ^ (11 - 1) = mn := by
   have : (2 : Nat) ^ (11 - 1) = 1024 := by decide
   omega
  have r2 : m + 2 ^ (11 - 1) = mx := by
   have : (2 : Nat) ^ (11 - 1) = 1024 := by decide
   omega
  have r3 : m / 2 ^ 11 % 2 = m / 2048 % 2 := by rw [show (2 : Nat) ^ 11 = 2048 by decide]
  simp only [Bool.false_eq_true, if_false]
  rw [r1, r2, r3]
 have HVAL := Lib.hid hval
 clear hval v1 v2 v3 v4 v5 v6 v7 v8 eod emn emx
 have U1 := Lib.hid u1
 have N1 := Lib.hid u2
 have C1 := Lib.hid u3
 have U2 := Lib.hid u4
 have N2 := Lib.hid u5
 have C2 := Lib.hid u6
 have U3 := Lib.hid u7
 have C3 := Lib.hid u8
 clear u1 u2 u3 u4 u5 u6 u7 u8 ha1 ha2 ha3 ha4 ha5 hmn hmx
 have ELP := Lib.hid elp
 have HI := Lib.hid hi
 clear elp hi
 obtain ⟨d, p, hdp⟩ : ∃ (d : Nat) (p : Int), (d = dmax / 10 ∧ p = -((i : Int) - 348 - 1) ∧ (dmin : Int) ≤ (dmax : Int) / 10 * 10) ∨ (d = dr ∧ p = -((i : Int) - 348) ∧ ¬ (dmin : Int) ≤ (dmax : Int) / 10 * 10 ∧ (dmin : Int) < (dmax : Int)) ∨ (d = dmin ∧ p = -((i : Int) - 348) ∧ ¬ (dmin : Int) ≤ (dmax : Int) / 10 * 10 ∧ ¬ (dmin : Int) < (dmax : Int)) := by
  by_cases c1 : (dmin : Int) ≤ (dmax : Int) / 10 * 10
  · exact ⟨_, _, .inl ⟨rfl, rfl, c1⟩⟩
  · by_cases c2 : (dmin : Int) < (dmax : Int)
    · exact ⟨_, _, .inr (.inl ⟨rfl, rfl, c1, c2⟩)⟩
    · exact ⟨_, _, .inr (.inr ⟨rfl, rfl, c1, c2⟩)⟩
 refine ⟨d, p, by omega, by omega, by omega, fun hg => ?_, fun w hT hg => ?_⟩
 · rw [HVAL.out hg]
   rcases hdp with ⟨rfl, rfl, c1⟩ | ⟨rfl, rfl, c1, c2⟩ | ⟨rfl, rfl, c1, c2⟩
   · rw [if_pos (by omega)]
     refine Prod.ext rfl ?_
     show -((i : Int) - 348 - 1) = 1 - ((i : Int) - 348)
     omega
   · rw [if_neg (by omega), if_pos (by omega)]
   · rw [if_neg (by omega), if_neg (by omega)]
 clear HVAL
 have HDP := Lib.hid hdp
 clear hdp
 have HTT := Lib.hid hT
 have HGG := Lib.hid hg
 clear hT hg
 have hp1 : -5000 ≤ (i : Int) - 348 := by omega
 have hp2 : (i : Int) - 348 ≤ 5000 := by omega
 go_enter Tryz.func118, Tryz.ntmps118
 skip
 go_upto_region 27 with (first | (go_at_call 102; with_reducible refine (log10_any _ hz1 hz2 _).mono ?_; rintro en w' ⟨rfl, hww⟩; obtain rfl := hww.symm))
 rw [HI.out, EOD.out]
 try rw [EMN.out]
 try rw [EMX.out]
 obtain ⟨W1, hW1⟩ : ∃ W, w.alloc (.cells #[.int .u64 0, .int .u64 0, .int .i64 0] 209) = W := ⟨_, rfl⟩
 have hk1 : Keeps (fun _ => False) w W1 := by rw [← hW1]; exact (Keeps.refl _ w).alloc _
 have hr1 : W1.heap[w.heap.size]? = some (.cells #[.int .u64 0, .int .u64 0, .int .i64 0] 209 (0, 0)) := by rw [← hW1]; exact heap_alloc_new w _
 obtain ⟨K, hK⟩ : ∃ K, w.heap.size = K := ⟨_, rfl⟩
 have HKs : Hid (w.heap.size ≤ K) := Nat.le_of_eq hK
 have HKg : Hid (10 ≠ K) := by show _ ≠ _; have := HGG.out; omega
 rw [hK] at hr1
 have KK := Lib.hid hk1
 have KR := Lib.hid hr1
 have KT : Hid (P10At PT W1) := HTT.out.keeps hk1
 have HPR : Hid (∀ (v0 v1 v2 : Value) (w : World), P10At PT w → w.heap[K]? = some (.cells #[v0, v1, v2] 209 (0, 0)) → Calls Tryz.prog 137 #[.pointer (some ⟨K, 0, none⟩), .int .i64 e, .int .i64 ((i : Int) - 348), .int .i64 lp] w fun en w' => en = .returned (.tuple #[]) ∧ w'.heap[K]? = some (.cells #[.int .u64 ((PT i).1 : Int), .int .u64 ((PT i).2 : Int), .int .i64 (-(e + lp + 3))] 209 (0, 0)) ∧ Keeps (fun k => k = K) w w') := fun v0 v1 v2 w hT hc => prescale_any PT K v0 v1 v2 e lp i hi2 (by omega) (by omega) hlp.1 hlp.2 w hT hc HKg.out
 go_upto_region 28 with (fail)
 try rw [hW1]
 try rw [hK]
 clear hW1 hK hk1 hr1
 rcases HDP.out with ⟨rfl, rfl, c1⟩ | ⟨rfl, rfl, c1, c2⟩ | ⟨rfl, rfl, c1, c2⟩
 all_goals go_wp2_with (first
  | (go_at_call 138; with_reducible refine (log2_any _ hp1 hp2 _).mono ?_; rintro en w' ⟨rfl, rfl⟩; rw [ELP.out])
  | (go_at_call 137; refine (HPR.out _ _ _ _ KT.out KR.out).mono ?_; rintro en w2 ⟨rfl, r2, k2⟩; have K2 : Hid (Keeps (fun _ => False) w w2) := KK.out.trans k2 (fun j hj e => by have := HKs.out; omega); have q0 := cell_row (j := 0) r2; have q1 := cell_row (j := 1) r2; have q2 := cell_row (j := 2) r2; simp at q0 q1 q2; clear r2 k2)
  | (go_at_call 139; have _h := K4; refine (U3.out _ _ q0 q1 q2).mono ?_; rintro en w5 ⟨rfl, k5⟩; have K5 : Hid (Keeps (fun _ => False) w w5) := K4.out.trans k5 (fun _ _ h => h); clear k5)
  | (go_at_call 139; have _h := K3; refine (U2.out _ _ q0 q1 q2).mono ?_; rintro en w4 ⟨rfl, k4⟩; have q0 := k4.cell q0 id; have q1 := k4.cell q1 id; have q2 := k4.cell q2 id; have K4 : Hid (Keeps (fun _ => False) w w4) := K3.out.trans k4 (fun _ _ h => h); clear k4)
  | (go_at_call 139; have _h := K2; refine (U1.out _ _ q0 q1 q2).mono ?_; rintro en w3 ⟨rfl, k3⟩; have q0 := k3.cell q0 id; have q1 := k3.cell q1 id; have q2 := k3.cell q2 id; have K3 : Hid (Keeps (fun _ => False) w w3) := K2.out.trans k3 (fun _ _ h => h); clear k3)
  | (go_at_call 140; with_reducible refine (N1.out _).mono ?_; rintro en w' ⟨rfl, rfl⟩)
  | (go_at_call 140; with_reducible refine (N2.out _).mono ?_; rintro en w' ⟨rfl, rfl⟩)
  | (go_at_call 141; with_reducible refine (C1.out _).mono ?_; rintro en w' ⟨rfl, rfl⟩)
  | (go_at_call 142; with_reducible refine (C2.out _).mono ?_; rintro en w' ⟨rfl, rfl⟩)
  | (go_at_call 143; with_reducible refine (C3.out _).mono ?_; rintro en w' ⟨rfl, rfl⟩))
 all_goals go_ret2
 all_goals first | exact ⟨rfl, K4.out⟩ | exact ⟨rfl, K5.out⟩
set_option maxRecDepth 1000000 in
set_option maxHeartbeats 40000000 in
theorem short64_Cfalse (PT : Nat → Nat × Nat) (hPT : ∀ i, i < 696 → (PT i).1 < 18446744073709551616 ∧ (PT i).2 < 18446744073709551616) (m : Nat) (e : Int) (hm : 9223372036854775808 ≤ m) (hm2 : m < 18446744073709551616) (h0 : -1145 ≤ e) (h1 : e ≤ 970) (hq : ((m : Int) == 9223372036854775808) = false) (hB : ¬ -1085 ≤ e) :
 ∃ (d : Nat) (p : Int), d < 18446744073709551616 ∧ -400 ≤ p ∧ p ≤ 400 ∧ (Fl.ShGood PT 52 (-1085) m e → (d, p) = Fl.shX PT 52 (-1085) m e) ∧ ∀ w, P10At PT w → 10 < w.heap.size → Calls Tryz.prog 118 #[.int .u64 (m : Int), .int .i64 e] w (Says w (.tuple #[.int .u64 (d : Int), .int .i64 p])) := by
 have hB' : ¬ -1085 < e := by omega
 obtain ⟨z, hz⟩ : ∃ z : Nat, 11 + (-1085 - e) = (z : Int) := ⟨(11 + (-1085 - e)).toNat, by omega⟩
 obtain ⟨k, hk⟩ : ∃ k : Nat, (z : Int) - 1 = (k : Int) := ⟨z - 1, by omega⟩
 have hen : e + (z : Int) = -1074 := by omega
 have hk64 : k < 200 := by omega
 have hz1 : (-5000 : Int) ≤ -1074 := by omega
 have hz2 : (-1074 : Int) ≤ 5000 := by omega
 obtain ⟨i, hi⟩ : ∃ i : Nat, (324 : Int) = (i : Int) - 348 := ⟨((324 : Int) + 348).toNat, by omega⟩
 have hi2 : i < 696 := by omega
 obtain ⟨mn, hmn, emn⟩ := u64_nat (IntKind.u64.wrap ((m : Int) - IntKind.u64.wrap (2 ^ min k 64))) (by first | (with_reducible exact (wrapu_range _).1) | omega) (by first | (with_reducible exact (wrapu_range _).2) | omega)
 obtain ⟨mx, hmx, emx⟩ := u64_nat (IntKind.u64.wrap ((m : Int) + IntKind.u64.wrap (2 ^ min k 64))) (by first | (with_reducible exact (wrapu_range _).1) | omega) (by first | (with_reducible exact (wrapu_range _).2) | omega)
 obtain ⟨od, eod⟩ : ∃ o : Int, bits .and .i64 (wrap64 ((m : Int) / 2 ^ min z 64)) 1 = o := ⟨_, rfl⟩
 have hod : od = 0 ∨ od = 1 := by rw [← eod]; exact and1_cases _
 have EOD := Lib.hid eod
 have EMN := Lib.hid emn
 have EMX := Lib.hid emx
 obtain ⟨lp, elp⟩ : ∃ l : Int, ((i : Int) - 348) * 108853 / 32768 = l := ⟨_, rfl⟩
 have hlp : -5000 ≤ lp ∧ lp ≤ 5000 := by omega
 obtain ⟨a1, ha1, v1, u1⟩ := uscale_ex mn (PT i).1 (PT i).2 (-(e + lp + 3)) hmn (hPT i hi2).1 (hPT i hi2).2
 obtain ⟨a2, ha2, v2, u2⟩ := nudge_ex a1 od
 obtain ⟨dmin, hdmin, v3, u3⟩ := ceil_ex a2 ha2
 obtain ⟨a3, ha3, v4, u4⟩ := uscale_ex mx (PT i).1 (PT i).2 (-(e + lp + 3)) hmx (hPT i hi2).1 (hPT i hi2).2
 obtain ⟨a4, ha4, v5, u5⟩ := nudge_ex a3 (-od)
 obtain ⟨dmax, hdmax, v6, u6⟩ := floor_ex a4 ha4
 obtain ⟨a5, ha5, v7, u7⟩ := uscale_ex m (PT i).1 (PT i).2 (-(e + lp + 3)) (by omega) (hPT i hi2).1 (hPT i hi2).2
 obtain ⟨dr, hdr, v8, u8⟩ := round_ex a5 ha5
 have hval : Fl.ShGood PT 52 (-1085) m e → Fl.shX PT 52 (-1085) m e = if dmin ≤ dmax / 10 * 10 then (dmax / 10, 1 - ((i : Int) - 348)) else if dmin < dmax then (dr, -((i : Int) - 348)) else (dmin, -((i : Int) - 348)) := by
  intro hg
  have hsk : Fl.shSk (-1085) m e = false := by unfold Fl.shSk; exact decide_eq_false (fun h => hB' h.2)
  have hz' : Fl.shZ 52 (-1085) e = z := by unfold Fl.shZ; rw [if_neg hB]; omega
  have hPw : Fl.shPow 52 (-1085) m e = (324 : Int) := by unfold Fl.shPow; rw [hsk, hz', hen]; rfl
  have hz63 := hg.z
  rw [hz'] at hz63
  have hhi := hg.hi
  rw [hz', show z - 1 = k by clear v1 v2 v3 v4 v5 v6 v7 v8; omega] at hhi
  have hmk : min k 64 = k := by clear v1 v2 v3 v4 v5 v6 v7 v8; omega
  have hmz : min z 64 = z := by clear v1 v2 v3 v4 v5 v6 v7 v8; omega
  have hkl : k ≤ 62 := by clear v1 v2 v3 v4 v5 v6 v7 v8; omega
  have hzk : z - 1 = k := by clear v1 v2 v3 v4 v5 v6 v7 v8; omega
  have hk63 : 2 ^ k ≤ 2 ^ 62 := Nat.pow_le_pow_right (by decide) hkl
  have hk62 : (2 : Nat) ^ 62 = 4611686018427387904 := by decide
  have hpk : (2 : Int) ^ k = ((2 ^ k : Nat) : Int) := by push_cast; rfl
  rw [hmk, hpk, IntKind.wrap_u64, IntKind.wrap_u64] at emn
  rw [hmk, hpk, IntKind.wrap_u64, IntKind.wrap_u64] at emx
  rw [hk62] at hk63
  obtain ⟨K, hK⟩ : ∃ K, 2 ^ k = K := ⟨_, rfl⟩
  rw [hK] at hk63 emn emx hhi
  obtain ⟨emn', emx'⟩ := vc_ends hm hm2 hk63 hhi emn emx
  clear emn emx
  have hbd := vc_bounds hm hk63 emn' emx'
  have hzp := Nat.two_pow_pos z
  have hdz : (m : Int) / 2 ^ z = ((m / 2 ^ z : Nat) : Int) := by push_cast; rfl
  have hz1 : 1 ≤ z := by clear v1 v2 v3 v4 v5 v6 v7 v8 emn' emx'; omega
  have hdl : m / 2 ^ z ≤ m / 2 := Nat.div_le_div_left (Nat.pow_le_pow_right (show 0 < 2 by decide) hz1) (by decide)
  obtain ⟨Z, hZ⟩ : ∃ Z, m / 2 ^ z = Z := ⟨_, rfl⟩
  rw [hZ] at hdz hdl
  have hwz : wrap64 (Z : Int) = (Z : Int) := vc_wrap hm2 hdl
  have hodn : od = ((m / 2 ^ z % 2 : Nat) : Int) := by rw [← eod, and1, hmz, hdz, hwz, hZ]; rfl
  have key := Fl.shV_of (PT := PT) (mn := mn) (mx := mx) (m := m) (od := (m / 2 ^ z % 2)) (P := (i : Int) - 348) (e := e) (OD := od) (hg.tab i hi2) rfl elp (by have := hg.s; rw [hPw, hi] at this; exact this) hodn (Nat.le_of_lt_succ (Nat.mod_lt _ (by decide))) hbd.1 hmn hbd.2.1 hmx hbd.2.2 hm2 v1 v2 v3 v4 v5 v6 v7 v8
  rw [← key, ← hi, ← hPw]
  unfold Fl.shX
  rw [hsk, hz']
  have r1 : m - 2 ^ (z - 1) = mn := by
   rw [hzk, hK]
   exact Nat.sub_eq_of_eq_add emn'.symm
  have r2 : m + 2 ^ (z - 1) = mx := by
   rw [hzk, hK]
   exact emx'.symm
  simp only [Bool.false_eq_true, if_false]
  rw [r1, r2]
 have HVAL := Lib.hid hval
 clear hval v1 v2 v3 v4 v5 v6 v7 v8 eod emn emx
 have U1 := Lib.hid u1
 have N1 := Lib.hid u2
 have C1 := Lib.hid u3
 have U2 := Lib.hid u4
 have N2 := Lib.hid u5
 have C2 := Lib.hid u6
 have U3 := Lib.hid u7
 have C3 := Lib.hid u8
 clear u1 u2 u3 u4 u5 u6 u7 u8 ha1 ha2 ha3 ha4 ha5 hmn hmx
 have ELP := Lib.hid elp
 have HI := Lib.hid hi
 clear elp hi
 obtain ⟨d, p, hdp⟩ : ∃ (d : Nat) (p : Int), (d = dmax / 10 ∧ p = -((i : Int) - 348 - 1) ∧ (dmin : Int) ≤ (dmax : Int) / 10 * 10) ∨ (d = dr ∧ p = -((i : Int) - 348) ∧ ¬ (dmin : Int) ≤ (dmax : Int) / 10 * 10 ∧ (dmin : Int) < (dmax : Int)) ∨ (d = dmin ∧ p = -((i : Int) - 348) ∧ ¬ (dmin : Int) ≤ (dmax : Int) / 10 * 10 ∧ ¬ (dmin : Int) < (dmax : Int)) := by
  by_cases c1 : (dmin : Int) ≤ (dmax : Int) / 10 * 10
  · exact ⟨_, _, .inl ⟨rfl, rfl, c1⟩⟩
  · by_cases c2 : (dmin : Int) < (dmax : Int)
    · exact ⟨_, _, .inr (.inl ⟨rfl, rfl, c1, c2⟩)⟩
    · exact ⟨_, _, .inr (.inr ⟨rfl, rfl, c1, c2⟩)⟩
 refine ⟨d, p, by omega, by omega, by omega, fun hg => ?_, fun w hT hg => ?_⟩
 · rw [HVAL.out hg]
   rcases hdp with ⟨rfl, rfl, c1⟩ | ⟨rfl, rfl, c1, c2⟩ | ⟨rfl, rfl, c1, c2⟩
   · rw [if_pos (by omega)]
     refine Prod.ext rfl ?_
     show -((i : Int) - 348 - 1) = 1 - ((i : Int) - 348)
     omega
   · rw [if_neg (by omega), if_pos (by omega)]
   · rw [if_neg (by omega), if_neg (by omega)]
 clear HVAL
 have HDP := Lib.hid hdp
 clear hdp
 have HTT := Lib.hid hT
 have HGG := Lib.hid hg
 clear hT hg
 have hp1 : -5000 ≤ (i : Int) - 348 := by omega
 have hp2 : (i : Int) - 348 ≤ 5000 := by omega
 go_enter Tryz.func118, Tryz.ntmps118
 skip
 go_upto_region 27 with (first | (go_at_call 102; with_reducible refine (log10_any _ hz1 hz2 _).mono ?_; rintro en w' ⟨rfl, hww⟩; obtain rfl := hww.symm))
 rw [HI.out, EOD.out]
 try rw [EMN.out]
 try rw [EMX.out]
 obtain ⟨W1, hW1⟩ : ∃ W, w.alloc (.cells #[.int .u64 0, .int .u64 0, .int .i64 0] 209) = W := ⟨_, rfl⟩
 have hk1 : Keeps (fun _ => False) w W1 := by rw [← hW1]; exact (Keeps.refl _ w).alloc _
 have hr1 : W1.heap[w.heap.size]? = some (.cells #[.int .u64 0, .int .u64 0, .int .i64 0] 209 (0, 0)) := by rw [← hW1]; exact heap_alloc_new w _
 obtain ⟨K, hK⟩ : ∃ K, w.heap.size = K := ⟨_, rfl⟩
 have HKs : Hid (w.heap.size ≤ K) := Nat.le_of_eq hK
 have HKg : Hid (10 ≠ K) := by show _ ≠ _; have := HGG.out; omega
 rw [hK] at hr1
 have KK := Lib.hid hk1
 have KR := Lib.hid hr1
 have KT : Hid (P10At PT W1) := HTT.out.keeps hk1
 have HPR : Hid (∀ (v0 v1 v2 : Value) (w : World), P10At PT w → w.heap[K]? = some (.cells #[v0, v1, v2] 209 (0, 0)) → Calls Tryz.prog 137 #[.pointer (some ⟨K, 0, none⟩), .int .i64 e, .int .i64 ((i : Int) - 348), .int .i64 lp] w fun en w' => en = .returned (.tuple #[]) ∧ w'.heap[K]? = some (.cells #[.int .u64 ((PT i).1 : Int), .int .u64 ((PT i).2 : Int), .int .i64 (-(e + lp + 3))] 209 (0, 0)) ∧ Keeps (fun k => k = K) w w') := fun v0 v1 v2 w hT hc => prescale_any PT K v0 v1 v2 e lp i hi2 (by omega) (by omega) hlp.1 hlp.2 w hT hc HKg.out
 go_upto_region 28 with (fail)
 try rw [hW1]
 try rw [hK]
 clear hW1 hK hk1 hr1
 rcases HDP.out with ⟨rfl, rfl, c1⟩ | ⟨rfl, rfl, c1, c2⟩ | ⟨rfl, rfl, c1, c2⟩
 all_goals go_wp2_with (first
  | (go_at_call 138; with_reducible refine (log2_any _ hp1 hp2 _).mono ?_; rintro en w' ⟨rfl, rfl⟩; rw [ELP.out])
  | (go_at_call 137; refine (HPR.out _ _ _ _ KT.out KR.out).mono ?_; rintro en w2 ⟨rfl, r2, k2⟩; have K2 : Hid (Keeps (fun _ => False) w w2) := KK.out.trans k2 (fun j hj e => by have := HKs.out; omega); have q0 := cell_row (j := 0) r2; have q1 := cell_row (j := 1) r2; have q2 := cell_row (j := 2) r2; simp at q0 q1 q2; clear r2 k2)
  | (go_at_call 139; have _h := K4; refine (U3.out _ _ q0 q1 q2).mono ?_; rintro en w5 ⟨rfl, k5⟩; have K5 : Hid (Keeps (fun _ => False) w w5) := K4.out.trans k5 (fun _ _ h => h); clear k5)
  | (go_at_call 139; have _h := K3; refine (U2.out _ _ q0 q1 q2).mono ?_; rintro en w4 ⟨rfl, k4⟩; have q0 := k4.cell q0 id; have q1 := k4.cell q1 id; have q2 := k4.cell q2 id; have K4 : Hid (Keeps (fun _ => False) w w4) := K3.out.trans k4 (fun _ _ h => h); clear k4)
  | (go_at_call 139; have _h := K2; refine (U1.out _ _ q0 q1 q2).mono ?_; rintro en w3 ⟨rfl, k3⟩; have q0 := k3.cell q0 id; have q1 := k3.cell q1 id; have q2 := k3.cell q2 id; have K3 : Hid (Keeps (fun _ => False) w w3) := K2.out.trans k3 (fun _ _ h => h); clear k3)
  | (go_at_call 140; with_reducible refine (N1.out _).mono ?_; rintro en w' ⟨rfl, rfl⟩)
  | (go_at_call 140; with_reducible refine (N2.out _).mono ?_; rintro en w' ⟨rfl, rfl⟩)
  | (go_at_call 141; with_reducible refine (C1.out _).mono ?_; rintro en w' ⟨rfl, rfl⟩)
  | (go_at_call 142; with_reducible refine (C2.out _).mono ?_; rintro en w' ⟨rfl, rfl⟩)
  | (go_at_call 143; with_reducible refine (C3.out _).mono ?_; rintro en w' ⟨rfl, rfl⟩))
 all_goals go_ret2
 all_goals first | exact ⟨rfl, K4.out⟩ | exact ⟨rfl, K5.out⟩
theorem short64_ex (PT : Nat → Nat × Nat) (hPT : ∀ i, i < 696 → (PT i).1 < 18446744073709551616 ∧ (PT i).2 < 18446744073709551616) (m : Nat) (e : Int) (hm : 9223372036854775808 ≤ m) (hm2 : m < 18446744073709551616) (h0 : -1145 ≤ e) (h1 : e ≤ 970) :
 ∃ (d : Nat) (p : Int), d < 18446744073709551616 ∧ -400 ≤ p ∧ p ≤ 400 ∧ (Fl.ShGood PT 52 (-1085) m e → (d, p) = Fl.shX PT 52 (-1085) m e) ∧ ∀ w, P10At PT w → 10 < w.heap.size → Calls Tryz.prog 118 #[.int .u64 (m : Int), .int .i64 e] w (Says w (.tuple #[.int .u64 (d : Int), .int .i64 p])) := by
 by_cases hA : m = 9223372036854775808
 · have hq : ((m : Int) == 9223372036854775808) = true := by simp; omega
   by_cases hB : -1085 < e
   · exact short64_A PT hPT m e hm hm2 h0 h1 hA hB
   · by_cases hC : -1085 ≤ e
     · exact short64_Btrue PT hPT m e hm hm2 h0 h1 hq hC hB
     · exact short64_Ctrue PT hPT m e hm hm2 h0 h1 hq hC
 · have hq : ((m : Int) == 9223372036854775808) = false := by simp; omega
   by_cases hC : -1085 ≤ e
   · exact short64_Bfalse PT hPT m e hm hm2 h0 h1 hq hC
   · exact short64_Cfalse PT hPT m e hm hm2 h0 h1 hq hC
set_option maxRecDepth 1000000 in
set_option maxHeartbeats 40000000 in
theorem short32_A (PT : Nat → Nat × Nat) (hPT : ∀ i, i < 696 → (PT i).1 < 18446744073709551616 ∧ (PT i).2 < 18446744073709551616) (m : Nat) (e : Int) (hm : 9223372036854775808 ≤ m) (hm2 : m < 18446744073709551616) (h0 : -249 ≤ e) (h1 : e ≤ 200) (hA : m = 9223372036854775808) (hB : -189 < e) :
 ∃ (d : Nat) (p : Int), d < 18446744073709551616 ∧ -400 ≤ p ∧ p ≤ 400 ∧ (Fl.ShGood PT 23 (-189) m e → (d, p) = Fl.shX PT 23 (-189) m e) ∧ ∀ w, P10At PT w → 10 < w.heap.size → Calls Tryz.prog 112 #[.int .u64 (m : Int), .int .i64 e] w (Says w (.tuple #[.int .u64 (d : Int), .int .i64 p])) := by
 subst hA
 have hz1 : -5000 ≤ e + 40 := by omega
 have hz2 : e + 40 ≤ 5000 := by omega
 obtain ⟨i, hi⟩ : ∃ i : Nat, (-(((e + 40) * 631305 - 261663) / 2097152)) = (i : Int) - 348 := ⟨((-(((e + 40) * 631305 - 261663) / 2097152)) + 348).toNat, by omega⟩
 have hi2 : i < 696 := by omega
 obtain ⟨mn, hmn, emn⟩ := u64_nat (9223371761976868864) (by first | (with_reducible exact (wrapu_range _).1) | omega) (by first | (with_reducible exact (wrapu_range _).2) | omega)
 obtain ⟨mx, hmx, emx⟩ := u64_nat (9223372586610589696) (by first | (with_reducible exact (wrapu_range _).1) | omega) (by first | (with_reducible exact (wrapu_range _).2) | omega)
 obtain ⟨od, eod⟩ : ∃ o : Int, bits .and .i64 (8388608) 1 = o := ⟨_, rfl⟩
 have hod : od = 0 ∨ od = 1 := by rw [← eod]; exact and1_cases _
 have EOD := Lib.hid eod
 have EMN := Lib.hid emn
 have EMX := Lib.hid emx
 obtain ⟨lp, elp⟩ : ∃ l : Int, ((i : Int) - 348) * 108853 / 32768 = l := ⟨_, rfl⟩
 have hlp : -5000 ≤ lp ∧ lp ≤ 5000 := by omega
 obtain ⟨a1, ha1, v1, u1⟩ := uscale_ex mn (PT i).1 (PT i).2 (-(e + lp + 3)) hmn (hPT i hi2).1 (hPT i hi2).2
 obtain ⟨a2, ha2, v2, u2⟩ := nudge_ex a1 od
 obtain ⟨dmin, hdmin, v3, u3⟩ := ceil_ex a2 ha2
 obtain ⟨a3, ha3, v4, u4⟩ := uscale_ex mx (PT i).1 (PT i).2 (-(e + lp + 3)) hmx (hPT i hi2).1 (hPT i hi2).2
 obtain ⟨a4, ha4, v5, u5⟩ := nudge_ex a3 (-od)
 obtain ⟨dmax, hdmax, v6, u6⟩ := floor_ex a4 ha4
 obtain ⟨a5, ha5, v7, u7⟩ := uscale_ex 9223372036854775808 (PT i).1 (PT i).2 (-(e + lp + 3)) (by omega) (hPT i hi2).1 (hPT i hi2).2
 obtain ⟨dr, hdr, v8, u8⟩ := round_ex a5 ha5
 have hval : Fl.ShGood PT 23 (-189) 9223372036854775808 e → Fl.shX PT 23 (-189) 9223372036854775808 e = if dmin ≤ dmax / 10 * 10 then (dmax / 10, 1 - ((i : Int) - 348)) else if dmin < dmax then (dr, -((i : Int) - 348)) else (dmin, -((i : Int) - 348)) := by
  intro hg
  have hsk : Fl.shSk (-189) 9223372036854775808 e = true := by unfold Fl.shSk; exact decide_eq_true ⟨by decide, hB⟩
  have hz : Fl.shZ 23 (-189) e = 40 := by unfold Fl.shZ; rw [if_pos (by omega)]; rfl
  have hPw : Fl.shPow 23 (-189) 9223372036854775808 e = (-(((e + 40) * 631305 - 261663) / 2097152)) := by unfold Fl.shPow; rw [hsk, hz]; rfl
  have hodn : od = ((0 : Nat) : Int) := by rw [← eod]; decide
  have hhi := hg.hi
  rw [hz] at hhi
  have hbd : 2 ≤ mn ∧ 2 ≤ mx ∧ 2 ≤ 9223372036854775808 := by clear v1 v2 v3 v4 v5 v6 v7 v8; omega
  have key := Fl.shV_of (PT := PT) (mn := mn) (mx := mx) (m := 9223372036854775808) (od := 0) (P := (i : Int) - 348) (e := e) (OD := od) (hg.tab i hi2) rfl elp (by have := hg.s; rw [hPw, hi] at this; exact this) hodn (Nat.zero_le _) hbd.1 hmn hbd.2.1 hmx hbd.2.2 hm2 v1 v2 v3 v4 v5 v6 v7 v8
  rw [← key, ← hi, ← hPw]
  unfold Fl.shX
  rw [hsk, hz]
  have r1 : 9223372036854775808 - 2 ^ (40 - 2) = mn := by
   have : (2 : Nat) ^ (40 - 2) = 274877906944 := by decide
   omega
  have r2 : 9223372036854775808 + 2 ^ (40 - 1) = mx := by
   have : (2 : Nat) ^ (40 - 1) = 549755813888 := by decide
   omega
  have r3 : 9223372036854775808 / 2 ^ 40 % 2 = 0 := by decide
  simp only [if_true]
  rw [r1, r2, r3]
 have HVAL := Lib.hid hval
 clear hval v1 v2 v3 v4 v5 v6 v7 v8 eod emn emx
 have U1 := Lib.hid u1
 have N1 := Lib.hid u2
 have C1 := Lib.hid u3
 have U2 := Lib.hid u4
 have N2 := Lib.hid u5
 have C2 := Lib.hid u6
 have U3 := Lib.hid u7
 have C3 := Lib.hid u8
 clear u1 u2 u3 u4 u5 u6 u7 u8 ha1 ha2 ha3 ha4 ha5 hmn hmx
 have ELP := Lib.hid elp
 have HI := Lib.hid hi
 clear elp hi
 obtain ⟨d, p, hdp⟩ : ∃ (d : Nat) (p : Int), (d = dmax / 10 ∧ p = -((i : Int) - 348 - 1) ∧ (dmin : Int) ≤ (dmax : Int) / 10 * 10) ∨ (d = dr ∧ p = -((i : Int) - 348) ∧ ¬ (dmin : Int) ≤ (dmax : Int) / 10 * 10 ∧ (dmin : Int) < (dmax : Int)) ∨ (d = dmin ∧ p = -((i : Int) - 348) ∧ ¬ (dmin : Int) ≤ (dmax : Int) / 10 * 10 ∧ ¬ (dmin : Int) < (dmax : Int)) := by
  by_cases c1 : (dmin : Int) ≤ (dmax : Int) / 10 * 10
  · exact ⟨_, _, .inl ⟨rfl, rfl, c1⟩⟩
  · by_cases c2 : (dmin : Int) < (dmax : Int)
    · exact ⟨_, _, .inr (.inl ⟨rfl, rfl, c1, c2⟩)⟩
    · exact ⟨_, _, .inr (.inr ⟨rfl, rfl, c1, c2⟩)⟩
 refine ⟨d, p, by omega, by omega, by omega, fun hg => ?_, fun w hT hg => ?_⟩
 · rw [HVAL.out hg]
   rcases hdp with ⟨rfl, rfl, c1⟩ | ⟨rfl, rfl, c1, c2⟩ | ⟨rfl, rfl, c1, c2⟩
   · rw [if_pos (by omega)]
     refine Prod.ext rfl ?_
     show -((i : Int) - 348 - 1) = 1 - ((i : Int) - 348)
     omega
   · rw [if_neg (by omega), if_pos (by omega)]
   · rw [if_neg (by omega), if_neg (by omega)]
 clear HVAL
 have HDP := Lib.hid hdp
 clear hdp
 have HTT := Lib.hid hT
 have HGG := Lib.hid hg
 clear hT hg
 have hp1 : -5000 ≤ (i : Int) - 348 := by omega
 have hp2 : (i : Int) - 348 ≤ 5000 := by omega
 go_enter Tryz.func112, Tryz.ntmps112
 skip
 go_upto_region 27 with (first | (go_at_call 136; with_reducible refine (skewed_any _ hz1 hz2 _).mono ?_; rintro en w' ⟨rfl, hww⟩; obtain rfl := hww.symm))
 rw [HI.out, EOD.out]
 try rw [EMN.out]
 try rw [EMX.out]
 obtain ⟨W1, hW1⟩ : ∃ W, w.alloc (.cells #[.int .u64 0, .int .u64 0, .int .i64 0] 209) = W := ⟨_, rfl⟩
 have hk1 : Keeps (fun _ => False) w W1 := by rw [← hW1]; exact (Keeps.refl _ w).alloc _
 have hr1 : W1.heap[w.heap.size]? = some (.cells #[.int .u64 0, .int .u64 0, .int .i64 0] 209 (0, 0)) := by rw [← hW1]; exact heap_alloc_new w _
 obtain ⟨K, hK⟩ : ∃ K, w.heap.size = K := ⟨_, rfl⟩
 have HKs : Hid (w.heap.size ≤ K) := Nat.le_of_eq hK
 have HKg : Hid (10 ≠ K) := by show _ ≠ _; have := HGG.out; omega
 rw [hK] at hr1
 have KK := Lib.hid hk1
 have KR := Lib.hid hr1
 have KT : Hid (P10At PT W1) := HTT.out.keeps hk1
 have HPR : Hid (∀ (v0 v1 v2 : Value) (w : World), P10At PT w → w.heap[K]? = some (.cells #[v0, v1, v2] 209 (0, 0)) → Calls Tryz.prog 137 #[.pointer (some ⟨K, 0, none⟩), .int .i64 e, .int .i64 ((i : Int) - 348), .int .i64 lp] w fun en w' => en = .returned (.tuple #[]) ∧ w'.heap[K]? = some (.cells #[.int .u64 ((PT i).1 : Int), .int .u64 ((PT i).2 : Int), .int .i64 (-(e + lp + 3))] 209 (0, 0)) ∧ Keeps (fun k => k = K) w w') := fun v0 v1 v2 w hT hc => prescale_any PT K v0 v1 v2 e lp i hi2 (by omega) (by omega) hlp.1 hlp.2 w hT hc HKg.out
 go_upto_region 28 with (fail)
 try rw [hW1]
 try rw [hK]
 clear hW1 hK hk1 hr1
 rcases HDP.out with ⟨rfl, rfl, c1⟩ | ⟨rfl, rfl, c1, c2⟩ | ⟨rfl, rfl, c1, c2⟩
 all_goals go_wp2_with (first
  | (go_at_call 138; with_reducible refine (log2_any _ hp1 hp2 _).mono ?_; rintro en w' ⟨rfl, rfl⟩; rw [ELP.out])
  | (go_at_call 137; refine (HPR.out _ _ _ _ KT.out KR.out).mono ?_; rintro en w2 ⟨rfl, r2, k2⟩; have K2 : Hid (Keeps (fun _ => False) w w2) := KK.out.trans k2 (fun j hj e => by have := HKs.out; omega); have q0 := cell_row (j := 0) r2; have q1 := cell_row (j := 1) r2; have q2 := cell_row (j := 2) r2; simp at q0 q1 q2; clear r2 k2)
  | (go_at_call 139; have _h := K4; refine (U3.out _ _ q0 q1 q2).mono ?_; rintro en w5 ⟨rfl, k5⟩; have K5 : Hid (Keeps (fun _ => False) w w5) := K4.out.trans k5 (fun _ _ h => h); clear k5)
  | (go_at_call 139; have _h := K3; refine (U2.out _ _ q0 q1 q2).mono ?_; rintro en w4 ⟨rfl, k4⟩; have q0 := k4.cell q0 id; have q1 := k4.cell q1 id; have q2 := k4.cell q2 id; have K4 : Hid (Keeps (fun _ => False) w w4) := K3.out.trans k4 (fun _ _ h => h); clear k4)
  | (go_at_call 139; have _h := K2; refine (U1.out _ _ q0 q1 q2).mono ?_; rintro en w3 ⟨rfl, k3⟩; have q0 := k3.cell q0 id; have q1 := k3.cell q1 id; have q2 := k3.cell q2 id; have K3 : Hid (Keeps (fun _ => False) w w3) := K2.out.trans k3 (fun _ _ h => h); clear k3)
  | (go_at_call 140; with_reducible refine (N1.out _).mono ?_; rintro en w' ⟨rfl, rfl⟩)
  | (go_at_call 140; with_reducible refine (N2.out _).mono ?_; rintro en w' ⟨rfl, rfl⟩)
  | (go_at_call 141; with_reducible refine (C1.out _).mono ?_; rintro en w' ⟨rfl, rfl⟩)
  | (go_at_call 142; with_reducible refine (C2.out _).mono ?_; rintro en w' ⟨rfl, rfl⟩)
  | (go_at_call 143; with_reducible refine (C3.out _).mono ?_; rintro en w' ⟨rfl, rfl⟩))
 all_goals go_ret2
 all_goals first | exact ⟨rfl, K4.out⟩ | exact ⟨rfl, K5.out⟩
set_option maxRecDepth 1000000 in
set_option maxHeartbeats 40000000 in
theorem short32_Btrue (PT : Nat → Nat × Nat) (hPT : ∀ i, i < 696 → (PT i).1 < 18446744073709551616 ∧ (PT i).2 < 18446744073709551616) (m : Nat) (e : Int) (hm : 9223372036854775808 ≤ m) (hm2 : m < 18446744073709551616) (h0 : -249 ≤ e) (h1 : e ≤ 200) (hq : ((m : Int) == 9223372036854775808) = true) (hB : -189 ≤ e) (hB' : ¬ -189 < e) :
 ∃ (d : Nat) (p : Int), d < 18446744073709551616 ∧ -400 ≤ p ∧ p ≤ 400 ∧ (Fl.ShGood PT 23 (-189) m e → (d, p) = Fl.shX PT 23 (-189) m e) ∧ ∀ w, P10At PT w → 10 < w.heap.size → Calls Tryz.prog 112 #[.int .u64 (m : Int), .int .i64 e] w (Says w (.tuple #[.int .u64 (d : Int), .int .i64 p])) := by
 have hz1 : -5000 ≤ e + 40 := by omega
 have hz2 : e + 40 ≤ 5000 := by omega
 obtain ⟨i, hi⟩ : ∃ i : Nat, (-((e + 40) * 78913 / 262144)) = (i : Int) - 348 := ⟨((-((e + 40) * 78913 / 262144)) + 348).toNat, by omega⟩
 have hi2 : i < 696 := by omega
 obtain ⟨mn, hmn, emn⟩ := u64_nat ((m : Int) - 549755813888) (by first | (with_reducible exact (wrapu_range _).1) | omega) (by first | (with_reducible exact (wrapu_range _).2) | omega)
 obtain ⟨mx, hmx, emx⟩ := u64_nat (IntKind.u64.wrap ((m : Int) + 549755813888)) (by first | (with_reducible exact (wrapu_range _).1) | omega) (by first | (with_reducible exact (wrapu_range _).2) | omega)
 obtain ⟨od, eod⟩ : ∃ o : Int, bits .and .i64 ((m : Int) / 1099511627776) 1 = o := ⟨_, rfl⟩
 have hod : od = 0 ∨ od = 1 := by rw [← eod]; exact and1_cases _
 have EOD := Lib.hid eod
 have EMN := Lib.hid emn
 have EMX := Lib.hid emx
 obtain ⟨lp, elp⟩ : ∃ l : Int, ((i : Int) - 348) * 108853 / 32768 = l := ⟨_, rfl⟩
 have hlp : -5000 ≤ lp ∧ lp ≤ 5000 := by omega
 obtain ⟨a1, ha1, v1, u1⟩ := uscale_ex mn (PT i).1 (PT i).2 (-(e + lp + 3)) hmn (hPT i hi2).1 (hPT i hi2).2
 obtain ⟨a2, ha2, v2, u2⟩ := nudge_ex a1 od
 obtain ⟨dmin, hdmin, v3, u3⟩ := ceil_ex a2 ha2
 obtain ⟨a3, ha3, v4, u4⟩ := uscale_ex mx (PT i).1 (PT i).2 (-(e + lp + 3)) hmx (hPT i hi2).1 (hPT i hi2).2
 obtain ⟨a4, ha4, v5, u5⟩ := nudge_ex a3 (-od)
 obtain ⟨dmax, hdmax, v6, u6⟩ := floor_ex a4 ha4
 obtain ⟨a5, ha5, v7, u7⟩ := uscale_ex m (PT i).1 (PT i).2 (-(e + lp + 3)) (by omega) (hPT i hi2).1 (hPT i hi2).2
 obtain ⟨dr, hdr, v8, u8⟩ := round_ex a5 ha5
 have hval : Fl.ShGood PT 23 (-189) m e → Fl.shX PT 23 (-189) m e = if dmin ≤ dmax / 10 * 10 then (dmax / 10, 1 - ((i : Int) - 348)) else if dmin < dmax then (dr, -((i : Int) - 348)) else (dmin, -((i : Int) - 348)) := by
  intro hg
  have hsk : Fl.shSk (-189) m e = false := by unfold Fl.shSk; exact decide_eq_false (fun h => absurd h.2 hB')
  have hz : Fl.shZ 23 (-189) e = 40 := by unfold Fl.shZ; rw [if_pos hB]; rfl
  have hPw : Fl.shPow 23 (-189) m e = (-((e + 40) * 78913 / 262144)) := by unfold Fl.shPow; rw [hsk, hz]; rfl
  have hodn : od = ((m / 1099511627776 % 2 : Nat) : Int) := by rw [← eod, and1]; omega
  have hhi := hg.hi
  rw [hz, show (2 : Nat) ^ (40 - 1) = 549755813888 by decide] at hhi
  rw [IntKind.wrap_u64] at emx
  have hbd : 2 ≤ mn ∧ 2 ≤ mx ∧ 2 ≤ m := by clear v1 v2 v3 v4 v5 v6 v7 v8; omega
  have key := Fl.shV_of (PT := PT) (mn := mn) (mx := mx) (m := m) (od := (m / 1099511627776 % 2)) (P := (i : Int) - 348) (e := e) (OD := od) (hg.tab i hi2) rfl elp (by have := hg.s; rw [hPw, hi] at this; exact this) hodn (Nat.le_of_lt_succ (Nat.mod_lt _ (by decide))) hbd.1 hmn hbd.2.1 hmx hbd.2.2 hm2 v1 v2 v3 v4 v5 v6 v7 v8
  rw [← key, ← hi, ← hPw]
  unfold Fl.shX
  rw [hsk, hz]
  have r1 : m - 2 ^ (40 - 1) = mn := by
   have : (2 : Nat) ^ (40 - 1) = 549755813888 := by decide
   omega
  have r2 : m + 2 ^ (40 - 1) = mx := by
   have : (2 : Nat) ^ (40 - 1) = 549755813888 := by decide
   omega
  have r3 : m / 2 ^ 40 % 2 = m / 1099511627776 % 2 := by rw [show (2 : Nat) ^ 40 = 1099511627776 by decide]
  simp only [Bool.false_eq_true, if_false]
  rw [r1, r2, r3]
 have HVAL := Lib.hid hval
 clear hval v1 v2 v3 v4 v5 v6 v7 v8 eod emn emx
 have U1 := Lib.hid u1
 have N1 := Lib.hid u2
 have C1 := Lib.hid u3
 have U2 := Lib.hid u4
 have N2 := Lib.hid u5
 have C2 := Lib.hid u6
 have U3 := Lib.hid u7
 have C3 := Lib.hid u8
 clear u1 u2 u3 u4 u5 u6 u7 u8 ha1 ha2 ha3 ha4 ha5 hmn hmx
 have ELP := Lib.hid elp
 have HI := Lib.hid hi
 clear elp hi
 obtain ⟨d, p, hdp⟩ : ∃ (d : Nat) (p : Int), (d = dmax / 10 ∧ p = -((i : Int) - 348 - 1) ∧ (dmin : Int) ≤ (dmax : Int) / 10 * 10) ∨ (d = dr ∧ p = -((i : Int) - 348) ∧ ¬ (dmin : Int) ≤ (dmax : Int) / 10 * 10 ∧ (dmin : Int) < (dmax : Int)) ∨ (d = dmin ∧ p = -((i : Int) - 348) ∧ ¬ (dmin : Int) ≤ (dmax : Int) / 10 * 10 ∧ ¬ (dmin : Int) < (dmax : Int)) := by
  by_cases c1 : (dmin : Int) ≤ (dmax : Int) / 10 * 10
  · exact ⟨_, _, .inl ⟨rfl, rfl, c1⟩⟩
  · by_cases c2 : (dmin : Int) < (dmax : Int)
    · exact ⟨_, _, .inr (.inl ⟨rfl, rfl, c1, c2⟩)⟩
    · exact ⟨_, _, .inr (.inr ⟨rfl, rfl, c1, c2⟩)⟩
 refine ⟨d, p, by omega, by omega, by omega, fun hg => ?_, fun w hT hg => ?_⟩
 · rw [HVAL.out hg]
   rcases hdp with ⟨rfl, rfl, c1⟩ | ⟨rfl, rfl, c1, c2⟩ | ⟨rfl, rfl, c1, c2⟩
   · rw [if_pos (by omega)]
     refine Prod.ext rfl ?_
     show -((i : Int) - 348 - 1) = 1 - ((i : Int) - 348)
     omega
   · rw [if_neg (by omega), if_pos (by omega)]
   · rw [if_neg (by omega), if_neg (by omega)]
 clear HVAL
 have HDP := Lib.hid hdp
 clear hdp
 have HTT := Lib.hid hT
 have HGG := Lib.hid hg
 clear hT hg
 have hp1 : -5000 ≤ (i : Int) - 348 := by omega
 have hp2 : (i : Int) - 348 ≤ 5000 := by omega
 go_enter Tryz.func112, Tryz.ntmps112
 skip
 go_upto_region 27 with (first | (go_at_call 102; with_reducible refine (log10_any _ hz1 hz2 _).mono ?_; rintro en w' ⟨rfl, hww⟩; obtain rfl := hww.symm))
 rw [HI.out, EOD.out]
 try rw [EMN.out]
 try rw [EMX.out]
 obtain ⟨W1, hW1⟩ : ∃ W, w.alloc (.cells #[.int .u64 0, .int .u64 0, .int .i64 0] 209) = W := ⟨_, rfl⟩
 have hk1 : Keeps (fun _ => False) w W1 := by rw [← hW1]; exact (Keeps.refl _ w).alloc _
 have hr1 : W1.heap[w.heap.size]? = some (.cells #[.int .u64 0, .int .u64 0, .int .i64 0] 209 (0, 0)) := by rw [← hW1]; exact heap_alloc_new w _
 obtain ⟨K, hK⟩ : ∃ K, w.heap.size = K := ⟨_, rfl⟩
 have HKs : Hid (w.heap.size ≤ K) := Nat.le_of_eq hK
 have HKg : Hid (10 ≠ K) := by show _ ≠ _; have := HGG.out; omega
 rw [hK] at hr1
 have KK := Lib.hid hk1
 have KR := Lib.hid hr1
 have KT : Hid (P10At PT W1) := HTT.out.keeps hk1
 have HPR : Hid (∀ (v0 v1 v2 : Value) (w : World), P10At PT w → w.heap[K]? = some (.cells #[v0, v1, v2] 209 (0, 0)) → Calls Tryz.prog 137 #[.pointer (some ⟨K, 0, none⟩), .int .i64 e, .int .i64 ((i : Int) - 348), .int .i64 lp] w fun en w' => en = .returned (.tuple #[]) ∧ w'.heap[K]? = some (.cells #[.int .u64 ((PT i).1 : Int), .int .u64 ((PT i).2 : Int), .int .i64 (-(e + lp + 3))] 209 (0, 0)) ∧ Keeps (fun k => k = K) w w') := fun v0 v1 v2 w hT hc => prescale_any PT K v0 v1 v2 e lp i hi2 (by omega) (by omega) hlp.1 hlp.2 w hT hc HKg.out
 go_upto_region 28 with (fail)
 try rw [hW1]
 try rw [hK]
 clear hW1 hK hk1 hr1
 rcases HDP.out with ⟨rfl, rfl, c1⟩ | ⟨rfl, rfl, c1, c2⟩ | ⟨rfl, rfl, c1, c2⟩
 all_goals go_wp2_with (first
  | (go_at_call 138; with_reducible refine (log2_any _ hp1 hp2 _).mono ?_; rintro en w' ⟨rfl, rfl⟩; rw [ELP.out])
  | (go_at_call 137; refine (HPR.out _ _ _ _ KT.out KR.out).mono ?_; rintro en w2 ⟨rfl, r2, k2⟩; have K2 : Hid (Keeps (fun _ => False) w w2) := KK.out.trans k2 (fun j hj e => by have := HKs.out; omega); have q0 := cell_row (j := 0) r2; have q1 := cell_row (j := 1) r2; have q2 := cell_row (j := 2) r2; simp at q0 q1 q2; clear r2 k2)
  | (go_at_call 139; have _h := K4; refine (U3.out _ _ q0 q1 q2).mono ?_; rintro en w5 ⟨rfl, k5⟩; have K5 : Hid (Keeps (fun _ => False) w w5) := K4.out.trans k5 (fun _ _ h => h); clear k5)
  | (go_at_call 139; have _h := K3; refine (U2.out _ _ q0 q1 q2).mono ?_; rintro en w4 ⟨rfl, k4⟩; have q0 := k4.cell q0 id; have q1 := k4.cell q1 id; have q2 := k4.cell q2 id; have K4 : Hid (Keeps (fun _ => False) w w4) := K3.out.trans k4 (fun _ _ h => h); clear k4)
  | (go_at_call 139; have _h := K2; refine (U1.out _ _ q0 q1 q2).mono ?_; rintro en w3 ⟨rfl, k3⟩; have q0 := k3.cell q0 id; have q1 := k3.cell q1 id; have q2 := k3.cell q2 id; have K3 : Hid (Keeps (fun _ => False) w w3) := K2.out.trans k3 (fun _ _ h => h); clear k3)
  | (go_at_call 140; with_reducible refine (N1.out _).mono ?_; rintro en w' ⟨rfl, rfl⟩)
  | (go_at_call 140; with_reducible refine (N2.out _).mono ?_; rintro en w' ⟨rfl, rfl⟩)
  | (go_at_call 141; with_reducible refine (C1.out _).mono ?_; rintro en w' ⟨rfl, rfl⟩)
  | (go_at_call 142; with_reducible refine (C2.out _).mono ?_; rintro en w' ⟨rfl, rfl⟩)
  | (go_at_call 143; with_reducible refine (C3.out _).mono ?_; rintro en w' ⟨rfl, rfl⟩))
 all_goals go_ret2
 all_goals first | exact ⟨rfl, K4.out⟩ | exact ⟨rfl, K5.out⟩
set_option maxRecDepth 1000000 in
set_option maxHeartbeats 40000000 in
theorem short32_Ctrue (PT : Nat → Nat × Nat) (hPT : ∀ i, i < 696 → (PT i).1 < 18446744073709551616 ∧ (PT i).2 < 18446744073709551616) (m : Nat) (e : Int) (hm : 9223372036854775808 ≤ m) (hm2 : m < 18446744073709551616) (h0 : -249 ≤ e) (h1 : e ≤ 200) (hq : ((m : Int) == 9223372036854775808) = true) (hB : ¬ -189 ≤ e) :
 ∃ (d : Nat) (p : Int), d < 18446744073709551616 ∧ -400 ≤ p ∧ p ≤ 400 ∧ (Fl.ShGood PT 23 (-189) m e → (d, p) = Fl.shX PT 23 (-189) m e) ∧ ∀ w, P10At PT w → 10 < w.heap.size → Calls Tryz.prog 112 #[.int .u64 (m : Int), .int .i64 e] w (Says w (.tuple #[.int .u64 (d : Int), .int .i64 p])) := by
 have hB' : ¬ -189 < e := by omega
 obtain ⟨z, hz⟩ : ∃ z : Nat, 40 + (-189 - e) = (z : Int) := ⟨(40 + (-189 - e)).toNat, by omega⟩
 obtain ⟨k, hk⟩ : ∃ k : Nat, (z : Int) - 1 = (k : Int) := ⟨z - 1, by omega⟩
 have hen : e + (z : Int) = -149 := by omega
 have hk64 : k < 200 := by omega
 have hz1 : (-5000 : Int) ≤ -149 := by omega
 have hz2 : (-149 : Int) ≤ 5000 := by omega
 obtain ⟨i, hi⟩ : ∃ i : Nat, (45 : Int) = (i : Int) - 348 := ⟨((45 : Int) + 348).toNat, by omega⟩
 have hi2 : i < 696 := by omega
 obtain ⟨mn, hmn, emn⟩ := u64_nat (IntKind.u64.wrap ((m : Int) - IntKind.u64.wrap (2 ^ min k 64))) (by first | (with_reducible exact (wrapu_range _).1) | omega) (by first | (with_reducible exact (wrapu_range _).2) | omega)
 obtain ⟨mx, hmx, emx⟩ := u64_nat (IntKind.u64.wrap ((m : Int) + IntKind.u64.wrap (2 ^ min k 64))) (by first | (with_reducible exact (wrapu_range _).1) | omega) (by first | (with_reducible exact (wrapu_range _).2) | omega)
 obtain ⟨od, eod⟩ : ∃ o : Int, bits .and .i64 (wrap64 ((m : Int) / 2 ^ min z 64)) 1 = o := ⟨_, rfl⟩
 have hod : od = 0 ∨ od = 1 := by rw [← eod]; exact and1_cases _
 have EOD := Lib.hid eod
 have EMN := Lib.hid emn
 have EMX := Lib.hid emx
 obtain ⟨lp, elp⟩ : ∃ l : Int, ((i : Int) - 348) * 108853 / 32768 = l := ⟨_, rfl⟩
 have hlp : -5000 ≤ lp ∧ lp ≤ 5000 := by omega
 obtain ⟨a1, ha1, v1, u1⟩ := uscale_ex mn (PT i).1 (PT i).2 (-(e + lp + 3)) hmn (hPT i hi2).1 (hPT i hi2).2
 obtain ⟨a2, ha2, v2, u2⟩ := nudge_ex a1 od
 obtain ⟨dmin, hdmin, v3, u3⟩ := ceil_ex a2 ha2
 obtain ⟨a3, ha3, v4, u4⟩ := uscale_ex mx (PT i).1 (PT i).2 (-(e + lp + 3)) hmx (hPT i hi2).1 (hPT i hi2).2
 obtain ⟨a4, ha4, v5, u5⟩ := nudge_ex a3 (-od)
 obtain ⟨dmax, hdmax, v6, u6⟩ := floor_ex a4 ha4
 obtain ⟨a5, ha5, v7, u7⟩ := uscale_ex m (PT i).1 (PT i).2 (-(e + lp + 3)) (by omega) (hPT i hi2).1 (hPT i hi2).2
 obtain ⟨dr, hdr, v8, u8⟩ := round_ex a5 ha5
 have hval : Fl.ShGood PT 23 (-189) m e → Fl.shX PT 23 (-189) m e = if dmin ≤ dmax / 10 * 10 then (dmax / 10, 1 - ((i : Int) - 348)) else if dmin < dmax then (dr, -((i : Int) - 348)) else (dmin, -((i : Int) - 348)) := by
  intro hg
  have hsk : Fl.shSk (-189) m e = false := by unfold Fl.shSk; exact decide_eq_false (fun h => hB' h.2)
  have hz' : Fl.shZ 23 (-189) e = z := by unfold Fl.shZ; rw [if_neg hB]; omega
  have hPw : Fl.shPow 23 (-189) m e = (45 : Int) := by unfold Fl.shPow; rw [hsk, hz', hen]; rfl
  have hz63 := hg.z
  rw [hz'] at hz63
  have hhi := hg.hi
  rw [hz', show z - 1 = k by clear v1 v2 v3 v4 v5 v6 v7 v8; omega] at hhi
  have hmk : min k 64 = k := by clear v1 v2 v3 v4 v5 v6 v7 v8; omega
  have hmz : min z 64 = z := by clear v1 v2 v3 v4 v5 v6 v7 v8; omega
  have hkl : k ≤ 62 := by clear v1 v2 v3 v4 v5 v6 v7 v8; omega
  have hzk : z - 1 = k := by clear v1 v2 v3 v4 v5 v6 v7 v8; omega
  have hk63 : 2 ^ k ≤ 2 ^ 62 := Nat.pow_le_pow_right (by decide) hkl
  have hk62 : (2 : Nat) ^ 62 = 4611686018427387904 := by decide
  have hpk : (2 : Int) ^ k = ((2 ^ k : Nat) : Int) := by push_cast; rfl
  rw [hmk, hpk, IntKind.wrap_u64, IntKind.wrap_u64] at emn
  rw [hmk, hpk, IntKind.wrap_u64, IntKind.wrap_u64] at emx
  rw [hk62] at hk63
  obtain ⟨K, hK⟩ : ∃ K, 2 ^ k = K := ⟨_, rfl⟩
  rw [hK] at hk63 emn emx hhi
  obtain ⟨emn', emx'⟩ := vc_ends hm hm2 hk63 hhi emn emx
  clear emn emx
  have hbd := vc_bounds hm hk63 emn' emx'
  have hzp := Nat.two_pow_pos z
  have hdz : (m : Int) / 2 ^ z = ((m / 2 ^ z : Nat) : Int) := by push_cast; rfl
  have hz1 : 1 ≤ z := by clear v1 v2 v3 v4 v5 v6 v7 v8 emn' emx'; omega
  have hdl : m / 2 ^ z ≤ m / 2 := Nat.div_le_div_left (Nat.pow_le_pow_right (show 0 < 2 by decide) hz1) (by decide)
  obtain ⟨Z, hZ⟩ : ∃ Z, m / 2 ^ z = Z := ⟨_, rfl⟩
  rw [hZ] at hdz hdl
  have hwz : wrap64 (Z : Int) = (Z : Int) := vc_wrap hm2 hdl
  have hodn : od = ((m / 2 ^ z % 2 : Nat) : Int) := by rw [← eod, and1, hmz, hdz, hwz, hZ]; rfl
  have key := Fl.shV_of (PT := PT) (mn := mn) (mx := mx) (m := m) (od := (m / 2 ^ z % 2)) (P := (i : Int) - 348) (e := e) (OD := od) (hg.tab i hi2) rfl elp (by have := hg.s; rw [hPw, hi] at this; exact this) hodn (Nat.le_of_lt_succ (Nat.mod_lt _ (by decide))) hbd.1 hmn hbd.2.1 hmx hbd.2.2 hm2 v1 v2 v3 v4 v5 v6 v7 v8
  rw [← key, ← hi, ← hPw]
  unfold Fl.shX
  rw [hsk, hz']
  have r1 : m - 2 ^ (z - 1) = mn := by
   rw [hzk, hK]
   exact Nat.sub_eq_of_eq_add emn'.symm
  have r2 : m + 2 ^ (z - 1) = mx := by
   rw [hzk, hK]
   exact emx'.symm
  simp only [Bool.false_eq_true, if_false]
  rw [r1, r2]
 have HVAL := Lib.hid hval
 clear hval v1 v2 v3 v4 v5 v6 v7 v8 eod emn emx
 have U1 := Lib.hid u1
 have N1 := Lib.hid u2
 have C1 := Lib.hid u3
 have U2 := Lib.hid u4
 have N2 := Lib.hid u5
 have C2 := Lib.hid u6
 have U3 := Lib.hid u7
 have C3 := Lib.hid u8
 clear u1 u2 u3 u4 u5 u6 u7 u8 ha1 ha2 ha3 ha4 ha5 hmn hmx
 have ELP := Lib.hid elp
 have HI := Lib.hid hi
 clear elp hi
 obtain ⟨d, p, hdp⟩ : ∃ (d : Nat) (p : Int), (d = dmax / 10 ∧ p = -((i : Int) - 348 - 1) ∧ (dmin : Int) ≤ (dmax : Int) / 10 * 10) ∨ (d = dr ∧ p = -((i : Int) - 348) ∧ ¬ (dmin : Int) ≤ (dmax : Int) / 10 * 10 ∧ (dmin : Int) < (dmax : Int)) ∨ (d = dmin ∧ p = -((i : Int) - 348) ∧ ¬ (dmin : Int) ≤ (dmax : Int) / 10 * 10 ∧ ¬ (dmin : Int) < (dmax : Int)) := by
  by_cases c1 : (dmin : Int) ≤ (dmax : Int) / 10 * 10
  · exact ⟨_, _, .inl ⟨rfl, rfl, c1⟩⟩
  · by_cases c2 : (dmin : Int) < (dmax : Int)
    · exact ⟨_, _, .inr (.inl ⟨rfl, rfl, c1, c2⟩)⟩
    · exact ⟨_, _, .inr (.inr ⟨rfl, rfl, c1, c2⟩)⟩
 refine ⟨d, p, by omega, by omega, by omega, fun hg => ?_, fun w hT hg => ?_⟩
 · rw [HVAL.out hg]
   rcases hdp with ⟨rfl, rfl, c1⟩ | ⟨rfl, rfl, c1, c2⟩ | ⟨rfl, rfl, c1, c2⟩
   · rw [if_pos (by omega)]
     refine Prod.ext rfl ?_
     show -((i : Int) - 348 - 1) = 1 - ((i : Int) - 348)
     omega
   · rw [if_neg (by omega), if_pos (by omega)]
   · rw [if_neg (by omega), if_neg (by omega)]
 clear HVAL
 have HDP := Lib.hid hdp
 clear hdp
 have HTT := Lib.hid hT
 have HGG := Lib.hid hg
 clear hT hg
 have hp1 : -5000 ≤ (i : Int) - 348 := by omega
 have hp2 : (i : Int) - 348 ≤ 5000 := by omega
 go_enter Tryz.func112, Tryz.ntmps112
 skip
 go_upto_region 27 with (first | (go_at_call 102; with_reducible refine (log10_any _ hz1 hz2 _).mono ?_; rintro en w' ⟨rfl, hww⟩; obtain rfl := hww.symm))
 rw [HI.out, EOD.out]
 try rw [EMN.out]
 try rw [EMX.out]
 obtain ⟨W1, hW1⟩ : ∃ W, w.alloc (.cells #[.int .u64 0, .int .u64 0, .int .i64 0] 209) = W := ⟨_, rfl⟩
 have hk1 : Keeps (fun _ => False) w W1 := by rw [← hW1]; exact (Keeps.refl _ w).alloc _
 have hr1 : W1.heap[w.heap.size]? = some (.cells #[.int .u64 0, .int .u64 0, .int .i64 0] 209 (0, 0)) := by rw [← hW1]; exact heap_alloc_new w _
 obtain ⟨K, hK⟩ : ∃ K, w.heap.size = K := ⟨_, rfl⟩
 have HKs : Hid (w.heap.size ≤ K) := Nat.le_of_eq hK
 have HKg : Hid (10 ≠ K) := by show _ ≠ _; have := HGG.out; omega
 rw [hK] at hr1
 have KK := Lib.hid hk1
 have KR := Lib.hid hr1
 have KT : Hid (P10At PT W1) := HTT.out.keeps hk1
 have HPR : Hid (∀ (v0 v1 v2 : Value) (w : World), P10At PT w → w.heap[K]? = some (.cells #[v0, v1, v2] 209 (0, 0)) → Calls Tryz.prog 137 #[.pointer (some ⟨K, 0, none⟩), .int .i64 e, .int .i64 ((i : Int) - 348), .int .i64 lp] w fun en w' => en = .returned (.tuple #[]) ∧ w'.heap[K]? = some (.cells #[.int .u64 ((PT i).1 : Int), .int .u64 ((PT i).2 : Int), .int .i64 (-(e + lp + 3))] 209 (0, 0)) ∧ Keeps (fun k => k = K) w w') := fun v0 v1 v2 w hT hc => prescale_any PT K v0 v1 v2 e lp i hi2 (by omega) (by omega) hlp.1 hlp.2 w hT hc HKg.out
 go_upto_region 28 with (fail)
 try rw [hW1]
 try rw [hK]
 clear hW1 hK hk1 hr1
 rcases HDP.out with ⟨rfl, rfl, c1⟩ | ⟨rfl, rfl, c1, c2⟩ | ⟨rfl, rfl, c1, c2⟩
 all_goals go_wp2_with (first
  | (go_at_call 138; with_reducible refine (log2_any _ hp1 hp2 _).mono ?_; rintro en w' ⟨rfl, rfl⟩; rw [ELP.out])
  | (go_at_call 137; refine (HPR.out _ _ _ _ KT.out KR.out).mono ?_; rintro en w2 ⟨rfl, r2, k2⟩; have K2 : Hid (Keeps (fun _ => False) w w2) := KK.out.trans k2 (fun j hj e => by have := HKs.out; omega); have q0 := cell_row (j := 0) r2; have q1 := cell_row (j := 1) r2; have q2 := cell_row (j := 2) r2; simp at q0 q1 q2; clear r2 k2)
  | (go_at_call 139; have _h := K4; refine (U3.out _ _ q0 q1 q2).mono ?_; rintro en w5 ⟨rfl, k5⟩; have K5 : Hid (Keeps (fun _ => False) w w5) := K4.out.trans k5 (fun _ _ h => h); clear k5)
  | (go_at_call 139; have _h := K3; refine (U2.out _ _ q0 q1 q2).mono ?_; rintro en w4 ⟨rfl, k4⟩; have q0 := k4.cell q0 id; have q1 := k4.cell q1 id; have q2 := k4.cell q2 id; have K4 : Hid (Keeps (fun _ => False) w w4) := K3.out.trans k4 (fun _ _ h => h); clear k4)
  | (go_at_call 139; have _h := K2; refine (U1.out _ _ q0 q1 q2).mono ?_; rintro en w3 ⟨rfl, k3⟩; have q0 := k3.cell q0 id; have q1 := k3.cell q1 id; have q2 := k3.cell q2 id; have K3 : Hid (Keeps (fun _ => False) w w3) := K2.out.trans k3 (fun _ _ h => h); clear k3)
  | (go_at_call 140; with_reducible refine (N1.out _).mono ?_; rintro en w' ⟨rfl, rfl⟩)
  | (go_at_call 140; with_reducible refine (N2.out _).mono ?_; rintro en w' ⟨rfl, rfl⟩)
  | (go_at_call 141; with_reducible refine (C1.out _).mono ?_; rintro en w' ⟨rfl, rfl⟩)
  | (go_at_call 142; with_reducible refine (C2.out _).mono ?_; rintro en w' ⟨rfl, rfl⟩)
  | (go_at_call 143; with_reducible refine (C3.out _).mono ?_; rintro en w' ⟨rfl, rfl⟩))
 all_goals go_ret2
 all_goals first | exact ⟨rfl, K4.out⟩ | exact ⟨rfl, K5.out⟩
set_option maxRecDepth 1000000 in
set_option maxHeartbeats 40000000 in
theorem short32_Bfalse (PT : Nat → Nat × Nat) (hPT : ∀ i, i < 696 → (PT i).1 < 18446744073709551616 ∧ (PT i).2 < 18446744073709551616) (m : Nat) (e : Int) (hm : 9223372036854775808 ≤ m) (hm2 : m < 18446744073709551616) (h0 : -249 ≤ e) (h1 : e ≤ 200) (hq : ((m : Int) == 9223372036854775808) = false) (hB : -189 ≤ e) :
 ∃ (d : Nat) (p : Int), d < 18446744073709551616 ∧ -400 ≤ p ∧ p ≤ 400 ∧ (Fl.ShGood PT 23 (-189) m e → (d, p) = Fl.shX PT 23 (-189) m e) ∧ ∀ w, P10At PT w → 10 < w.heap.size → Calls Tryz.prog 112 #[.int .u64 (m : Int), .int .i64 e] w (Says w (.tuple #[.int .u64 (d : Int), .int .i64 p])) := by
 have hz1 : -5000 ≤ e + 40 := by omega
 have hz2 : e + 40 ≤ 5000 := by omega
 obtain ⟨i, hi⟩ : ∃ i : Nat, (-((e + 40) * 78913 / 262144)) = (i : Int) - 348 := ⟨((-((e + 40) * 78913 / 262144)) + 348).toNat, by omega⟩
 have hi2 : i < 696 := by omega
 obtain ⟨mn, hmn, emn⟩ := u64_nat ((m : Int) - 549755813888) (by first | (with_reducible exact (wrapu_range _).1) | omega) (by first | (with_reducible exact (wrapu_range _).2) | omega)
 obtain ⟨mx, hmx, emx⟩ := u64_nat (IntKind.u64.wrap ((m : Int) + 549755813888)) (by first | (with_reducible exact (wrapu_range _).1) | omega) (by first | (with_reducible exact (wrapu_range _).2) | omega)
 obtain ⟨od, eod⟩ : ∃ o : Int, bits .and .i64 ((m : Int) / 1099511627776) 1 = o := ⟨_, rfl⟩
 have hod : od = 0 ∨ od = 1 := by rw [← eod]; exact and1_cases _
 have EOD := Lib.hid eod
 have EMN := Lib.hid emn
 have EMX := Lib.hid emx
 obtain ⟨lp, elp⟩ : ∃ l : Int, ((i : Int) - 348) * 108853 / 32768 = l := ⟨_, rfl⟩
 have hlp : -5000 ≤ lp ∧ lp ≤ 5000 := by omega
 obtain ⟨a1, ha1, v1, u1⟩ := uscale_ex mn (PT i).1 (PT i).2 (-(e + lp + 3)) hmn (hPT i hi2).1 (hPT i hi2).2
 obtain ⟨a2, ha2, v2, u2⟩ := nudge_ex a1 od
 obtain ⟨dmin, hdmin, v3, u3⟩ := ceil_ex a2 ha2
 obtain ⟨a3, ha3, v4, u4⟩ := uscale_ex mx (PT i).1 (PT i).2 (-(e + lp + 3)) hmx (hPT i hi2).1 (hPT i hi2).2
 obtain ⟨a4, ha4, v5, u5⟩ := nudge_ex a3 (-od)
 obtain ⟨dmax, hdmax, v6, u6⟩ := floor_ex a4 ha4
 obtain ⟨a5, ha5, v7, u7⟩ := uscale_ex m (PT i).1 (PT i).2 (-(e + lp + 3)) (by omega) (hPT i hi2).1 (hPT i hi2).2
 obtain ⟨dr, hdr, v8, u8⟩ := round_ex a5 ha5
 have hval : Fl.ShGood PT 23 (-189) m e → Fl.shX PT 23 (-189) m e = if dmin ≤ dmax / 10 * 10 then (dmax / 10, 1 - ((i : Int) - 348)) else if dmin < dmax then (dr, -((i : Int) - 348)) else (dmin, -((i : Int) - 348)) := by
  intro hg
  have hsk : Fl.shSk (-189) m e = false := by unfold Fl.shSk; exact decide_eq_false (fun h => by simp at hq; omega)
  have hz : Fl.shZ 23 (-189) e = 40 := by unfold Fl.shZ; rw [if_pos hB]; rfl
  have hPw : Fl.shPow 23 (-189) m e = (-((e + 40) * 78913 / 262144)) := by unfold Fl.shPow; rw [hsk, hz]; rfl
  have hodn : od = ((m / 1099511627776 % 2 : Nat) : Int) := by rw [← eod, and1]; omega
  have hhi := hg.hi
  rw [hz, show (2 : Nat) ^ (40 - 1) = 549755813888 by decide] at hhi
  rw [IntKind.wrap_u64] at emx
  have hbd : 2 ≤ mn ∧ 2 ≤ mx ∧ 2 ≤ m := by clear v1 v2 v3 v4 v5 v6 v7 v8; omega
  have key := Fl.shV_of (PT := PT) (mn := mn) (mx := mx) (m := m) (od := (m / 1099511627776 % 2)) (P := (i : Int) - 348) (e := e) (OD := od) (hg.tab i hi2) rfl elp (by have := hg.s; rw [hPw, hi] at this; exact this) hodn (Nat.le_of_lt_succ (Nat.mod_lt _ (by decide))) hbd.1 hmn hbd.2.1 hmx hbd.2.2 hm2 v1 v2 v3 v4 v5 v6 v7 v8
  rw [← key, ← hi, ← hPw]
  unfold Fl.shX
  rw [hsk, hz]
  have r1 : m - 2 ^ (40 - 1) = mn := by
   have : (2 : Nat) ^ (40 - 1) = 549755813888 := by decide
   omega
  have r2 : m + 2 ^ (40 - 1) = mx := by
   have : (2 : Nat) ^ (40 - 1) = 549755813888 := by decide
   omega
  have r3 : m / 2 ^ 40 % 2 = m / 1099511627776 % 2 := by rw [show (2 : Nat) ^ 40 = 1099511627776 by decide]
  simp only [Bool.false_eq_true, if_false]
  rw [r1, r2, r3]
 have HVAL := Lib.hid hval
 clear hval v1 v2 v3 v4 v5 v6 v7 v8 eod emn emx
 have U1 := Lib.hid u1
 have N1 := Lib.hid u2
 have C1 := Lib.hid u3
 have U2 := Lib.hid u4
 have N2 := Lib.hid u5
 have C2 := Lib.hid u6
 have U3 := Lib.hid u7
 have C3 := Lib.hid u8
 clear u1 u2 u3 u4 u5 u6 u7 u8 ha1 ha2 ha3 ha4 ha5 hmn hmx
 have ELP := Lib.hid elp
 have HI := Lib.hid hi
 clear elp hi
 obtain ⟨d, p, hdp⟩ : ∃ (d : Nat) (p : Int), (d = dmax / 10 ∧ p = -((i : Int) - 348 - 1) ∧ (dmin : Int) ≤ (dmax : Int) / 10 * 10) ∨ (d = dr ∧ p = -((i : Int) - 348) ∧ ¬ (dmin : Int) ≤ (dmax : Int) / 10 * 10 ∧ (dmin : Int) < (dmax : Int)) ∨ (d = dmin ∧ p = -((i : Int) - 348) ∧ ¬ (dmin : Int) ≤ (dmax : Int) / 10 * 10 ∧ ¬ (dmin : Int) < (dmax : Int)) := by
  by_cases c1 : (dmin : Int) ≤ (dmax : Int) / 10 * 10
  · exact ⟨_, _, .inl ⟨rfl, rfl, c1⟩⟩
  · by_cases c2 : (dmin : Int) < (dmax : Int)
    · exact ⟨_, _, .inr (.inl ⟨rfl, rfl, c1, c2⟩)⟩
    · exact ⟨_, _, .inr (.inr ⟨rfl, rfl, c1, c2⟩)⟩
 refine ⟨d, p, by omega, by omega, by omega, fun hg => ?_, fun w hT hg => ?_⟩
 · rw [HVAL.out hg]
   rcases hdp with ⟨rfl, rfl, c1⟩ | ⟨rfl, rfl, c1, c2⟩ | ⟨rfl, rfl, c1, c2⟩
   · rw [if_pos (by omega)]
     refine Prod.ext rfl ?_
     show -((i : Int) - 348 - 1) = 1 - ((i : Int) - 348)
     omega
   · rw [if_neg (by omega), if_pos (by omega)]
   · rw [if_neg (by omega), if_neg (by omega)]
 clear HVAL
 have HDP := Lib.hid hdp
 clear hdp
 have HTT := Lib.hid hT
 have HGG := Lib.hid hg
 clear hT hg
 have hp1 : -5000 ≤ (i : Int) - 348 := by omega
 have hp2 : (i : Int) - 348 ≤ 5000 := by omega
 go_enter Tryz.func112, Tryz.ntmps112
 skip
 go_upto_region 27 with (first | (go_at_call 102; with_reducible refine (log10_any _ hz1 hz2 _).mono ?_; rintro en w' ⟨rfl, hww⟩; obtain rfl := hww.symm))
 rw [HI.out, EOD.out]
 try rw [EMN.out]
 try rw [EMX.out]
 obtain ⟨W1, hW1⟩ : ∃ W, w.alloc (.cells #[.int .u64 0, .int .u64 0, .int .i64 0] 209) = W := ⟨_, rfl⟩
 have hk1 : Keeps (fun _ => False) w W1 := by rw [← hW1]; exact (Keeps.refl _ w).alloc _
 have hr1 : W1.heap[w.heap.size]? = some (.cells #[.int .u64 0, .int .u64 0, .int .i64 0] 209 (0, 0)) := by rw [← hW1]; exact heap_alloc_new w _
 obtain ⟨K, hK⟩ : ∃ K, w.heap.size = K := ⟨_, rfl⟩
 have HKs : Hid (w.heap.size ≤ K) := Nat.le_of_eq hK
 have HKg : Hid (10 ≠ K) := by show _ ≠ _; have := HGG.out; omega
 rw [hK] at hr1
 have KK := Lib.hid hk1
 have KR := Lib.hid hr1
 have KT : Hid (P10At PT W1) := HTT.out.keeps hk1
 have HPR : Hid (∀ (v0 v1 v2 : Value) (w : World), P10At PT w → w.heap[K]? = some (.cells #[v0, v1, v2] 209 (0, 0)) → Calls Tryz.prog 137 #[.pointer (some ⟨K, 0, none⟩), .int .i64 e, .int .i64 ((i : Int) - 348), .int .i64 lp] w fun en w' => en = .returned (.tuple #[]) ∧ w'.heap[K]? = some (.cells #[.int .u64 ((PT i).1 : Int), .int .u64 ((PT i).2 : Int), .int .i64 (-(e + lp + 3))] 209 (0, 0)) ∧ Keeps (fun k => k = K) w w') := fun v0 v1 v2 w hT hc => prescale_any PT K v0 v1 v2 e lp i hi2 (by omega) (by omega) hlp.1 hlp.2 w hT hc HKg.out
 go_upto_region 28 with (fail)
 try rw [hW1]
 try rw [hK]
 clear hW1 hK hk1 hr1
 rcases HDP.out with ⟨rfl, rfl, c1⟩ | ⟨rfl, rfl, c1, c2⟩ | ⟨rfl, rfl, c1, c2⟩
 all_goals go_wp2_with (first
  | (go_at_call 138; with_reducible refine (log2_any _ hp1 hp2 _).mono ?_; rintro en w' ⟨rfl, rfl⟩; rw [ELP.out])
  | (go_at_call 137; refine (HPR.out _ _ _ _ KT.out KR.out).mono ?_; rintro en w2 ⟨rfl, r2, k2⟩; have K2 : Hid (Keeps (fun _ => False) w w2) := KK.out.trans k2 (fun j hj e => by have := HKs.out; omega); have q0 := cell_row (j := 0) r2; have q1 := cell_row (j := 1) r2; have q2 := cell_row (j := 2) r2; simp at q0 q1 q2; clear r2 k2)
  | (go_at_call 139; have _h := K4; refine (U3.out _ _ q0 q1 q2).mono ?_; rintro en w5 ⟨rfl, k5⟩; have K5 : Hid (Keeps (fun _ => False) w w5) := K4.out.trans k5 (fun _ _ h => h); clear k5)
  | (go_at_call 139; have _h := K3; refine (U2.out _ _ q0 q1 q2).mono ?_; rintro en w4 ⟨rfl, k4⟩; have q0 := k4.cell q0 id; have q1 := k4.cell q1 id; have q2 := k4.cell q2 id; have K4 : Hid (Keeps (fun _ => False) w w4) := K3.out.trans k4 (fun _ _ h => h); clear k4)
  | (go_at_call 139; have _h := K2; refine (U1.out _ _ q0 q1 q2).mono ?_; rintro en w3 ⟨rfl, k3⟩; have q0 := k3.cell q0 id; have q1 := k3.cell q1 id; have q2 := k3.cell q2 id; have K3 : Hid (Keeps (fun _ => False) w w3) := K2.out.trans k3 (fun _ _ h => h); clear k3)
  | (go_at_call 140; with_reducible refine (N1.out _).mono ?_; rintro en w' ⟨rfl, rfl⟩)
  | (go_at_call 140; with_reducible refine (N2.out _).mono ?_; rintro en w' ⟨rfl, rfl⟩)
  | (go_at_call 141; with_reducible refine (C1.out _).mono ?_; rintro en w' ⟨rfl, rfl⟩)
  | (go_at_call 142; with_reducible refine (C2.out _).mono ?_; rintro en w' ⟨rfl, rfl⟩)
  | (go_at_call 143; with_reducible refine (C3.out _).mono ?_; rintro en w' ⟨rfl, rfl⟩))
 all_goals go_ret2
 all_goals first | exact ⟨rfl, K4.out⟩ | exact ⟨rfl, K5.out⟩
set_option maxRecDepth 1000000 in
set_option maxHeartbeats 40000000 in
theorem short32_Cfalse (PT : Nat → Nat × Nat) (hPT : ∀ i, i < 696 → (PT i).1 < 18446744073709551616 ∧ (PT i).2 < 18446744073709551616) (m : Nat) (e : Int) (hm : 9223372036854775808 ≤ m) (hm2 : m < 18446744073709551616) (h0 : -249 ≤ e) (h1 : e ≤ 200) (hq : ((m : Int) == 9223372036854775808) = false) (hB : ¬ -189 ≤ e) :
 ∃ (d : Nat) (p : Int), d < 18446744073709551616 ∧ -400 ≤ p ∧ p ≤ 400 ∧ (Fl.ShGood PT 23 (-189) m e → (d, p) = Fl.shX PT 23 (-189) m e) ∧ ∀ w, P10At PT w → 10 < w.heap.size → Calls Tryz.prog 112 #[.int .u64 (m : Int), .int .i64 e] w (Says w (.tuple #[.int .u64 (d : Int), .int .i64 p])) := by
 have hB' : ¬ -189 < e := by omega
 obtain ⟨z, hz⟩ : ∃ z : Nat, 40 + (-189 - e) = (z : Int) := ⟨(40 + (-189 - e)).toNat, by omega⟩
 obtain ⟨k, hk⟩ : ∃ k : Nat, (z : Int) - 1 = (k : Int) := ⟨z - 1, by omega⟩
 have hen : e + (z : Int) = -149 := by omega
 have hk64 : k < 200 := by omega
 have hz1 : (-5000 : Int) ≤ -149 := by omega
 have hz2 : (-149 : Int) ≤ 5000 := by omega
 obtain ⟨i, hi⟩ : ∃ i : Nat, (45 : Int) = (i : Int) - 348 := ⟨((45 : Int) + 348).toNat, by omega⟩
 have hi2 : i < 696 := by omega
 obtain ⟨mn, hmn, emn⟩ := u64_nat (IntKind.u64.wrap ((m : Int) - IntKind.u64.wrap (2 ^ min k 64))) (by first | (with_reducible exact (wrapu_range _).1) | omega) (by first | (with_reducible exact (wrapu_range _).2) | omega)
 obtain ⟨mx, hmx, emx⟩ := u64_nat (IntKind.u64.wrap ((m : Int) + IntKind.u64.wrap (2 ^ min k 64))) (by first | (with_reducible exact (wrapu_range _).1) | omega) (by first | (with_reducible exact (wrapu_range _).2) | omega)
 obtain ⟨od, eod⟩ : ∃ o : Int, bits .and .i64 (wrap64 ((m : Int) / 2 ^ min z 64)) 1 = o := ⟨_, rfl⟩
 have hod : od = 0 ∨ od = 1 := by rw [← eod]; exact and1_cases _
 have EOD := Lib.hid eod
 have EMN := Lib.hid emn
 have EMX := Lib.hid emx
 obtain ⟨lp, elp⟩ : ∃ l : Int, ((i : Int) - 348) * 108853 / 32768 = l := ⟨_, rfl⟩
 have hlp : -5000 ≤ lp ∧ lp ≤ 5000 := by omega
 obtain ⟨a1, ha1, v1, u1⟩ := uscale_ex mn (PT i).1 (PT i).2 (-(e + lp + 3)) hmn (hPT i hi2).1 (hPT i hi2).2
 obtain ⟨a2, ha2, v2, u2⟩ := nudge_ex a1 od
 obtain ⟨dmin, hdmin, v3, u3⟩ := ceil_ex a2 ha2
 obtain ⟨a3, ha3, v4, u4⟩ := uscale_ex mx (PT i).1 (PT i).2 (-(e + lp + 3)) hmx (hPT i hi2).1 (hPT i hi2).2
 obtain ⟨a4, ha4, v5, u5⟩ := nudge_ex a3 (-od)
 obtain ⟨dmax, hdmax, v6, u6⟩ := floor_ex a4 ha4
 obtain ⟨a5, ha5, v7, u7⟩ := uscale_ex m (PT i).1 (PT i).2 (-(e + lp + 3)) (by omega) (hPT i hi2).1 (hPT i hi2).2
 obtain ⟨dr, hdr, v8, u8⟩ := round_ex a5 ha5
 have hval : Fl.ShGood PT 23 (-189) m e → Fl.shX PT 23 (-189) m e = if dmin ≤ dmax / 10 * 10 then (dmax / 10, 1 - ((i : Int) - 348)) else if dmin < dmax then (dr, -((i : Int) - 348)) else (dmin, -((i : Int) - 348)) := by
  intro hg
  have hsk : Fl.shSk (-189) m e = false := by unfold Fl.shSk; exact decide_eq_false (fun h => hB' h.2)
  have hz' : Fl.shZ 23 (-189) e = z := by unfold Fl.shZ; rw [if_neg hB]; omega
  have hPw : Fl.shPow 23 (-189) m e = (45 : Int) := by unfold Fl.shPow; rw [hsk, hz', hen]; rfl
  have hz63 := hg.z
  rw [hz'] at hz63
  have hhi := hg.hi
  rw [hz', show z - 1 = k by clear v1 v2 v3 v4 v5 v6 v7 v8; omega] at hhi
  have hmk : min k 64 = k := by clear v1 v2 v3 v4 v5 v6 v7 v8; omega
  have hmz : min z 64 = z := by clear v1 v2 v3 v4 v5 v6 v7 v8; omega
  have hkl : k ≤ 62 := by clear v1 v2 v3 v4 v5 v6 v7 v8; omega
  have hzk : z - 1 = k := by clear v1 v2 v3 v4 v5 v6 v7 v8; omega
  have hk63 : 2 ^ k ≤ 2 ^ 62 := Nat.pow_le_pow_right (by decide) hkl
  have hk62 : (2 : Nat) ^ 62 = 4611686018427387904 := by decide
  have hpk : (2 : Int) ^ k = ((2 ^ k : Nat) : Int) := by push_cast; rfl
  rw [hmk, hpk, IntKind.wrap_u64, IntKind.wrap_u64] at emn
  rw [hmk, hpk, IntKind.wrap_u64, IntKind.wrap_u64] at emx
  rw [hk62] at hk63
  obtain ⟨K, hK⟩ : ∃ K, 2 ^ k = K := ⟨_, rfl⟩
  rw [hK] at hk63 emn emx hhi
  obtain ⟨emn', emx'⟩ := vc_ends hm hm2 hk63 hhi emn emx
  clear emn emx
  have hbd := vc_bounds hm hk63 emn' emx'
  have hzp := Nat.two_pow_pos z
  have hdz : (m : Int) / 2 ^ z = ((m / 2 ^ z : Nat) : Int) := by push_cast; rfl
  have hz1 : 1 ≤ z := by clear v1 v2 v3 v4 v5 v6 v7 v8 emn' emx'; omega
  have hdl : m / 2 ^ z ≤ m / 2 := Nat.div_le_div_left (Nat.pow_le_pow_right (show 0 < 2 by decide) hz1) (by decide)
  obtain ⟨Z, hZ⟩ : ∃ Z, m / 2 ^ z = Z := ⟨_, rfl⟩
  rw [hZ] at hdz hdl
  have hwz : wrap64 (Z : Int) = (Z : Int) := vc_wrap hm2 hdl
  have hodn : od = ((m / 2 ^ z % 2 : Nat) : Int) := by rw [← eod, and1, hmz, hdz, hwz, hZ]; rfl
  have key := Fl.shV_of (PT := PT) (mn := mn) (mx := mx) (m := m) (od := (m / 2 ^ z % 2)) (P := (i : Int) - 348) (e := e) (OD := od) (hg.tab i hi2) rfl elp (by have := hg.s; rw [hPw, hi] at this; exact this) hodn (Nat.le_of_lt_succ (Nat.mod_lt _ (by decide))) hbd.1 hmn hbd.2.1 hmx hbd.2.2 hm2 v1 v2 v3 v4 v5 v6 v7 v8
  rw [← key, ← hi, ← hPw]
  unfold Fl.shX
  rw [hsk, hz']
  have r1 : m - 2 ^ (z - 1) = mn := by
   rw [hzk, hK]
   exact Nat.sub_eq_of_eq_add emn'.symm
  have r2 : m + 2 ^ (z - 1) = mx := by
   rw [hzk, hK]
   exact emx'.symm
  simp only [Bool.false_eq_true, if_false]
  rw [r1, r2]
 have HVAL := Lib.hid hval
 clear hval v1 v2 v3 v4 v5 v6 v7 v8 eod emn emx
 have U1 := Lib.hid u1
 have N1 := Lib.hid u2
 have C1 := Lib.hid u3
 have U2 := Lib.hid u4
 have N2 := Lib.hid u5
 have C2 := Lib.hid u6
 have U3 := Lib.hid u7
 have C3 := Lib.hid u8
 clear u1 u2 u3 u4 u5 u6 u7 u8 ha1 ha2 ha3 ha4 ha5 hmn hmx
 have ELP := Lib.hid elp
 have HI := Lib.hid hi
 clear elp hi
 obtain ⟨d, p, hdp⟩ : ∃ (d : Nat) (p : Int), (d = dmax / 10 ∧ p = -((i : Int) - 348 - 1) ∧ (dmin : Int) ≤ (dmax : Int) / 10 * 10) ∨ (d = dr ∧ p = -((i : Int) - 348) ∧ ¬ (dmin : Int) ≤ (dmax : Int) / 10 * 10 ∧ (dmin : Int) < (dmax : Int)) ∨ (d = dmin ∧ p = -((i : Int) - 348) ∧ ¬ (dmin : Int) ≤ (dmax : Int) / 10 * 10 ∧ ¬ (dmin : Int) < (dmax : Int)) := by
  by_cases c1 : (dmin : Int) ≤ (dmax : Int) / 10 * 10
  · exact ⟨_, _, .inl ⟨rfl, rfl, c1⟩⟩
  · by_cases c2 : (dmin : Int) < (dmax : Int)
    · exact ⟨_, _, .inr (.inl ⟨rfl, rfl, c1, c2⟩)⟩
    · exact ⟨_, _, .inr (.inr ⟨rfl, rfl, c1, c2⟩)⟩
 refine ⟨d, p, by omega, by omega, by omega, fun hg => ?_, fun w hT hg => ?_⟩
 · rw [HVAL.out hg]
   rcases hdp with ⟨rfl, rfl, c1⟩ | ⟨rfl, rfl, c1, c2⟩ | ⟨rfl, rfl, c1, c2⟩
   · rw [if_pos (by omega)]
     refine Prod.ext rfl ?_
     show -((i : Int) - 348 - 1) = 1 - ((i : Int) - 348)
     omega
   · rw [if_neg (by omega), if_pos (by omega)]
   · rw [if_neg (by omega), if_neg (by omega)]
 clear HVAL
 have HDP := Lib.hid hdp
 clear hdp
 have HTT := Lib.hid hT
 have HGG := Lib.hid hg
 clear hT hg
 have hp1 : -5000 ≤ (i : Int) - 348 := by omega
 have hp2 : (i : Int) - 348 ≤ 5000 := by omega
 go_enter Tryz.func112, Tryz.ntmps112
 skip
 go_upto_region 27 with (first | (go_at_call 102; with_reducible refine (log10_any _ hz1 hz2 _).mono ?_; rintro en w' ⟨rfl, hww⟩; obtain rfl := hww.symm))
 rw [HI.out, EOD.out]
 try rw [EMN.out]
 try rw [EMX.out]
 obtain ⟨W1, hW1⟩ : ∃ W, w.alloc (.cells #[.int .u64 0, .int .u64 0, .int .i64 0] 209) = W := ⟨_, rfl⟩
 have hk1 : Keeps (fun _ => False) w W1 := by rw [← hW1]; exact (Keeps.refl _ w).alloc _
 have hr1 : W1.heap[w.heap.size]? = some (.cells #[.int .u64 0, .int .u64 0, .int .i64 0] 209 (0, 0)) := by rw [← hW1]; exact heap_alloc_new w _
 obtain ⟨K, hK⟩ : ∃ K, w.heap.size = K := ⟨_, rfl⟩
 have HKs : Hid (w.heap.size ≤ K) := Nat.le_of_eq hK
 have HKg : Hid (10 ≠ K) := by show _ ≠ _; have := HGG.out; omega
 rw [hK] at hr1
 have KK := Lib.hid hk1
 have KR := Lib.hid hr1
 have KT : Hid (P10At PT W1) := HTT.out.keeps hk1
 have HPR : Hid (∀ (v0 v1 v2 : Value) (w : World), P10At PT w → w.heap[K]? = some (.cells #[v0, v1, v2] 209 (0, 0)) → Calls Tryz.prog 137 #[.pointer (some ⟨K, 0, none⟩), .int .i64 e, .int .i64 ((i : Int) - 348), .int .i64 lp] w fun en w' => en = .returned (.tuple #[]) ∧ w'.heap[K]? = some (.cells #[.int .u64 ((PT i).1 : Int), .int .u64 ((PT i).2 : Int), .int .i64 (-(e + lp + 3))] 209 (0, 0)) ∧ Keeps (fun k => k = K) w w') := fun v0 v1 v2 w hT hc => prescale_any PT K v0 v1 v2 e lp i hi2 (by omega) (by omega) hlp.1 hlp.2 w hT hc HKg.out
 go_upto_region 28 with (fail)
 try rw [hW1]
 try rw [hK]
 clear hW1 hK hk1 hr1
 rcases HDP.out with ⟨rfl, rfl, c1⟩ | ⟨rfl, rfl, c1, c2⟩ | ⟨rfl, rfl, c1, c2⟩
 all_goals go_wp2_with (first
  | (go_at_call 138; with_reducible refine (log2_any _ hp1 hp2 _).mono ?_; rintro en w' ⟨rfl, rfl⟩; rw [ELP.out])
  | (go_at_call 137; refine (HPR.out _ _ _ _ KT.out KR.out).mono ?_; rintro en w2 ⟨rfl, r2, k2⟩; have K2 : Hid (Keeps (fun _ => False) w w2) := KK.out.trans k2 (fun j hj e => by have := HKs.out; omega); have q0 := cell_row (j := 0) r2; have q1 := cell_row (j := 1) r2; have q2 := cell_row (j := 2) r2; simp at q0 q1 q2; clear r2 k2)
  | (go_at_call 139; have _h := K4; refine (U3.out _ _ q0 q1 q2).mono ?_; rintro en w5 ⟨rfl, k5⟩; have K5 : Hid (Keeps (fun _ => False) w w5) := K4.out.trans k5 (fun _ _ h => h); clear k5)
  | (go_at_call 139; have _h := K3; refine (U2.out _ _ q0 q1 q2).mono ?_; rintro en w4 ⟨rfl, k4⟩; have q0 := k4.cell q0 id; have q1 := k4.cell q1 id; have q2 := k4.cell q2 id; have K4 : Hid (Keeps (fun _ => False) w w4) := K3.out.trans k4 (fun _ _ h => h); clear k4)
  | (go_at_call 139; have _h := K2; refine (U1.out _ _ q0 q1 q2).mono ?_; rintro en w3 ⟨rfl, k3⟩; have q0 := k3.cell q0 id; have q1 := k3.cell q1 id; have q2 := k3.cell q2 id; have K3 : Hid (Keeps (fun _ => False) w w3) := K2.out.trans k3 (fun _ _ h => h); clear k3)
  | (go_at_call 140; with_reducible refine (N1.out _).mono ?_; rintro en w' ⟨rfl, rfl⟩)
  | (go_at_call 140; with_reducible refine (N2.out _).mono ?_; rintro en w' ⟨rfl, rfl⟩)
  | (go_at_call 141; with_reducible refine (C1.out _).mono ?_; rintro en w' ⟨rfl, rfl⟩)
  | (go_at_call 142; with_reducible refine (C2.out _).mono ?_; rintro en w' ⟨rfl, rfl⟩)
  | (go_at_call 143; with_reducible refine (C3.out _).mono ?_; rintro en w' ⟨rfl, rfl⟩))
 all_goals go_ret2
 all_goals first | exact ⟨rfl, K4.out⟩ | exact ⟨rfl, K5.out⟩
theorem short32_ex (PT : Nat → Nat × Nat) (hPT : ∀ i, i < 696 → (PT i).1 < 18446744073709551616 ∧ (PT i).2 < 18446744073709551616) (m : Nat) (e : Int) (hm : 9223372036854775808 ≤ m) (hm2 : m < 18446744073709551616) (h0 : -249 ≤ e) (h1 : e ≤ 200) :
 ∃ (d : Nat) (p : Int), d < 18446744073709551616 ∧ -400 ≤ p ∧ p ≤ 400 ∧ (Fl.ShGood PT 23 (-189) m e → (d, p) = Fl.shX PT 23 (-189) m e) ∧ ∀ w, P10At PT w → 10 < w.heap.size → Calls Tryz.prog 112 #[.int .u64 (m : Int), .int .i64 e] w (Says w (.tuple #[.int .u64 (d : Int), .int .i64 p])) := by
 by_cases hA : m = 9223372036854775808
 · have hq : ((m : Int) == 9223372036854775808) = true := by simp; omega
   by_cases hB : -189 < e
   · exact short32_A PT hPT m e hm hm2 h0 h1 hA hB
   · by_cases hC : -189 ≤ e
     · exact short32_Btrue PT hPT m e hm hm2 h0 h1 hq hC hB
     · exact short32_Ctrue PT hPT m e hm hm2 h0 h1 hq hC
 · have hq : ((m : Int) == 9223372036854775808) = false := by simp; omega
   by_cases hC : -189 ≤ e
   · exact short32_Bfalse PT hPT m e hm hm2 h0 h1 hq hC
   · exact short32_Cfalse PT hPT m e hm hm2 h0 h1 hq hC
end Go.Proofs.YtonegoemmologaaGreatDoor
