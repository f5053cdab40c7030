/-
  parseFloat64, parseFloat32: a decimal number of at most 64 bits, rounded to the nearest.
-/
import Derived.Test.YtonegoemmologaaGreatDoorM07
import Derived.Test.YtonegoemmologaaGreatDoorM24
import Derived.Deep.DeepCutAuto
set_option linter.unusedVariables false
set_option linter.unusedSimpArgs false
namespace Go.Proofs.YtonegoemmologaaGreatDoor
open Go.RowKit
theorem bitLen_len (d : Nat) (h0 : 0 < d) (h : d < 2 ^ 64) : Lib.bitLen d = Fl.len d := by
 obtain ⟨a, b, c⟩ := Lib.bitLenAux_bounds 64 d h (by omega)
 have e : Lib.bitLen d = Lib.bitLenAux 64 d := rfl
 rw [← e] at a b c
 obtain ⟨L, hL⟩ : ∃ L, Lib.bitLen d = L := ⟨_, rfl⟩
 rw [hL] at a b c ⊢
 have hlog : d.log2 = L - 1 := (Nat.log2_eq_iff (by omega)).2 ⟨b, by rw [show L - 1 + 1 = L by omega]; exact c⟩
 unfold Fl.len
 omega
theorem unmin64_any (w : World) : Calls Tryz.prog 144 #[.int .u64 9007199254740992] w fun e w' => e = .returned (.int .u64 36028797018963966) ∧ w' = w := by
 go_enter Tryz.func144, Tryz.ntmps144
 go_wp2_with (fail)
 go_ret
 exact ⟨rfl, rfl⟩
theorem or_last (u : Nat) (h : u < 18446744073709551616) : bits .or .u64 (u : Int) ((u % 2 : Nat) : Int) = (u : Int) := by
 rw [u64_or_nat u (u % 2) h (by omega)]
 rcases Nat.mod_two_eq_zero_or_one u with g | g
 · rw [g, Nat.or_zero]
 · have := or_one u h
   rw [show (1 : Int) = ((1 : Nat) : Int) from rfl, u64_or_nat u 1 h (by omega)] at this
   rw [g]
   have h2 : u ||| 1 = u / 2 * 2 + 1 := by exact_mod_cast this
   rw [h2]; congr 1; omega
theorem or_half (u : Nat) (h : u < 18446744073709551616) : bits .or .u64 ((u / 2 : Nat) : Int) ((u % 2 : Nat) : Int) = ((Fl.rsh1 u : Nat) : Int) := by
 unfold Fl.rsh1
 rcases Nat.mod_two_eq_zero_or_one u with g | g
 · rw [g, if_neg (by omega)]
   exact or_zero (u / 2) (by omega)
 · rw [g, if_pos rfl]
   exact or_one (u / 2) (by omega)
theorem sgn_or64 (neg : Bool) (m : Nat) (h : m < 9223372036854775808) : bits .or .u64 ((sgn64 neg : Nat) : Int) (m : Int) = ((sgn64 neg + m : Nat) : Int) := by
 have hs : sgn64 neg = 0 ∨ sgn64 neg = 9223372036854775808 := by cases neg <;> simp [sgn64]
 rw [u64_or_nat _ m (by omega) (by omega), nat_join 63 _ m (by rcases hs with e | e <;> rw [e] <;> decide) (by simpa using h)]
theorem usc_pre {d hi : Nat} (h0 : 0 < d) (h : d < 2 ^ 64) (hhi : 2 ^ 63 ≤ hi) : 2 ^ 63 ≤ d * 2 ^ (64 - Fl.len d) ∧ d * 2 ^ (64 - Fl.len d) < 2 ^ 64 ∧ 2 ^ 64 ≤ d * 2 ^ (64 - Fl.len d) * hi := by
 have hl := Fl.len_le h0 h
 have hb := Fl.len_bounds h0
 have a1 : 2 ^ 63 ≤ d * 2 ^ (64 - Fl.len d) := by
  calc 2 ^ 63 = 2 ^ (Fl.len d - 1) * 2 ^ (64 - Fl.len d) := by rw [← Nat.pow_add]; congr 1; omega
   _ ≤ _ := Nat.mul_le_mul_right _ hb.1
 refine ⟨a1, ?_, ?_⟩
 · calc d * 2 ^ (64 - Fl.len d) < 2 ^ Fl.len d * 2 ^ (64 - Fl.len d) := Nat.mul_lt_mul_of_pos_right hb.2 (Nat.two_pow_pos _)
    _ = 2 ^ 64 := by rw [← Nat.pow_add]; congr 1; omega
 · calc 2 ^ 64 ≤ 2 ^ 63 * 2 ^ 63 := by decide
    _ ≤ _ := Nat.mul_le_mul a1 hhi
set_option maxRecDepth 1000000 in
set_option maxHeartbeats 40000000 in
theorem parse64_tiny (PT : Nat → Nat × Nat) (hok : PTOk PT) (neg : Bool) (d i hi lo : Nat) (p : Int) (hp : p = (i : Int) - 348) (hi1 : (PT i).1 = hi) (hlo1 : (PT i).2 = lo) (hd0 : 0 < d) (hd : d < 18446744073709551616) (h1 : -345 ≤ p) (h2 : p ≤ 310) (hS : 64 ≤ Fl.prsS 52 1074 d p) (w : World) (hT : P10At PT w) (hg : 10 < w.heap.size) :
 Calls Tryz.prog 165 #[.int .u64 (d : Int), .int .i64 p, .int .u64 ((sgn64 neg : Nat) : Int)] w fun en w' => en = .returned (Prs64 neg (some 0)) ∧ Keeps (fun _ => False) w w' := by
 have hi2 : i < 696 := by omega
 have hP := hok i hi2
 have hPh := hok.hi i hi2
 rw [hi1, hlo1] at hP
 rw [hi1] at hPh
 have pre := usc_pre (hi := hi) hd0 (by simpa using hd) hPh.1
 have hbl := bitLen_len d hd0 (by simpa using hd)
 have hl := Fl.len_le hd0 (by simpa using hd)
 have hge := (Fl.prsS_ge 52 1074 d p (by decide)).2
 obtain ⟨E, hE⟩ : ∃ E, Fl.prsE 52 1074 d p = E := ⟨_, rfl⟩
 obtain ⟨S, hS1⟩ : ∃ S, Fl.prsS 52 1074 d p = S := ⟨_, rfl⟩
 obtain ⟨lp, hlp⟩ : ∃ lp : Int, p * 108853 / 32768 = lp := ⟨_, rfl⟩
 obtain ⟨L, hL⟩ : ∃ L, Lib.bitLen d = L := ⟨_, rfl⟩
 have hlpb : -5000 ≤ lp ∧ lp ≤ 5000 := by omega
 have hSe : S = 61 - (L : Int) - E - lp := by rw [← hS1, ← hE, ← hL, ← hlp, hbl]; rfl
 have hEe : min (1074 : Int) (53 - (L : Int) - lp) = E := by rw [← hE, ← hL, ← hlp, hbl]; rfl
 have hEb : -2000 ≤ E ∧ E ≤ 1074 := by omega
 have hSn : -(E - (64 - (L : Int)) + lp + 3) = S := by omega
 rw [hbl] at hL
 rw [hL] at hl
 rw [hS1] at hS hge
 obtain ⟨g, hgl⟩ : ∃ g, sgn64 neg = g := ⟨_, rfl⟩
 have hgb : g < 18446744073709551616 := by rw [← hgl]; cases neg <;> simp [sgn64]
 have hor : bits .or .u64 (g : Int) 0 = (g : Int) := by
  have := sgn_or64 neg 0 (by omega)
  rw [hgl] at this
  simpa using this
 have hres : Prs64 neg (some 0) = .tuple #[.float .f64 g, .nilIface] := by simp [Prs64, hgl]
 rw [hres]
 have hfr : ∀ w', (callFunc 163 #[.int .u64 (g : Int)]).run Tryz.prog w' = .ok (.value (.float .f64 g)) w' := f64from_run g
 rw [hgl]
 have hlog : p * 108853 / 32768 = lp := hlp
 have HLEN := Lib.hid (len64_any d (by omega))
 rw [hbl, hL] at HLEN
 have HLOG := Lib.hid (log2_any p (by omega) (by omega))
 rw [hlp] at HLOG
 have HPI := Lib.hid hp
 have HSN := Lib.hid hSn
 have HTT := Lib.hid hT
 have HGG := Lib.hid hg
 have hp1 : -5000 ≤ p := by omega
 have hp2 : p ≤ 5000 := by omega
 have HEE := Lib.hid hEe
 clear hP hPh hbl hlp hE hS1 hlog hSe hL hgl hEe hT hg hp hSn pre hres
 go_enter Tryz.func165, Tryz.ntmps165
 go_upto_region 4 with (first
  | (go_at_call 103; refine (HLEN.out _).mono ?_; rintro en w2 ⟨rfl, hww⟩; obtain rfl := hww.symm)
  | (go_at_call 138; refine (HLOG.out _).mono ?_; rintro en w2 ⟨rfl, hww⟩; obtain rfl := hww.symm))
 rw [HEE.out]
 obtain ⟨W1, hW1⟩ : ∃ W, w.alloc (.cells #[.int .u64 0, .int .u64 0, .int .i64 0] 209) = W := ⟨_, rfl⟩
 have hk1 : Keeps (fun _ => False) w W1 := by rw [← hW1]; exact (Keeps.refl _ w).alloc _
 have hr1 : W1.heap[w.heap.size]? = some (.cells #[.int .u64 0, .int .u64 0, .int .i64 0] 209 (0, 0)) := by rw [← hW1]; exact heap_alloc_new w _
 obtain ⟨K, hK⟩ : ∃ K, w.heap.size = K := ⟨_, rfl⟩
 have HKs : Hid (w.heap.size ≤ K) := Nat.le_of_eq hK
 have HKg : Hid (10 ≠ K) := by show _ ≠ _; have := HGG.out; omega
 rw [hK] at hr1
 have KK := Lib.hid hk1
 have KR := Lib.hid hr1
 have KT : Hid (P10At PT W1) := HTT.out.keeps hk1
 have HPR : Hid (∀ (v0 v1 v2 : Value) (w : World), P10At PT w → w.heap[K]? = some (.cells #[v0, v1, v2] 209 (0, 0)) → Calls Tryz.prog 137 #[.pointer (some ⟨K, 0, none⟩), .int .i64 (E - (64 - (L : Int))), .int .i64 p, .int .i64 lp] w fun en w' => en = .returned (.tuple #[]) ∧ w'.heap[K]? = some (.cells #[.int .u64 (hi : Int), .int .u64 (lo : Int), .int .i64 S] 209 (0, 0)) ∧ Keeps (fun k => k = K) w w') := fun v0 v1 v2 w hT hc => by
  have h := prescale_any PT K v0 v1 v2 (E - (64 - (L : Int))) lp i hi2 (by omega) (by omega) hlpb.1 hlpb.2 w hT hc HKg.out
  rw [HSN.out, ← HPI.out, hi1, hlo1] at h
  exact h
 go_upto_region 5 with (fail)
 try rw [hW1]
 try rw [hK]
 clear hW1 hK hk1 hr1
 go_wp2_with (first
  | (go_at_call 137; refine (HPR.out _ _ _ _ KT.out KR.out).mono ?_; rintro en w2 ⟨rfl, r2, k2⟩; have K2 : Hid (Keeps (fun _ => False) w w2) := KK.out.trans k2 (fun j hj e => by have := HKs.out; omega); have q0 := cell_row (j := 0) r2; have q1 := cell_row (j := 1) r2; have q2 := cell_row (j := 2) r2; simp at q0 q1 q2; clear r2 k2)
  | fail)
 go_ret2
 exact ⟨rfl, K2.out⟩
set_option maxRecDepth 1000000 in
set_option maxHeartbeats 40000000 in
theorem parse64_big (PT : Nat → Nat × Nat) (hok : PTOk PT) (neg : Bool) (d i hi lo : Nat) (p : Int) (hp : p = (i : Int) - 348) (hi1 : (PT i).1 = hi) (hlo1 : (PT i).2 = lo) (hd0 : 0 < d) (hd : d < 18446744073709551616) (h1 : -345 ≤ p) (h2 : p ≤ 310) (hS : Fl.prsS 52 1074 d p < 64) (hB : 36028797018963966 ≤ Fl.prsU 52 1074 d p hi lo) (w : World) (hT : P10At PT w) (hg : 10 < w.heap.size) :
 Calls Tryz.prog 165 #[.int .u64 (d : Int), .int .i64 p, .int .u64 ((sgn64 neg : Nat) : Int)] w fun en w' => en = .returned (Prs64 neg (Fl.cutInf 9218868437227405312 (Fl.prsM 52 1074 d p hi lo + Fl.prsJ 52 1074 d p hi lo * 4503599627370496))) ∧ Keeps (fun _ => False) w w' := by
 have hi2 : i < 696 := by omega
 have hP := hok i hi2
 have hPh := hok.hi i hi2
 rw [hi1, hlo1] at hP
 rw [hi1] at hPh
 have pre := usc_pre (hi := hi) hd0 (by simpa using hd) hPh.1
 have hbl := bitLen_len d hd0 (by simpa using hd)
 have hl := Fl.len_le hd0 (by simpa using hd)
 have hge := (Fl.prsS_ge 52 1074 d p (by decide)).2
 obtain ⟨u, hu, uv, U1⟩ := uscale_ex (d * 2 ^ (64 - Fl.len d)) hi lo (Fl.prsS 52 1074 d p) (by simpa using pre.2.1) (by simpa using hPh.2) (by simpa using hP.2.2)
 have hm64 : Fl.prsS 52 1074 d p % 64 = Fl.prsS 52 1074 d p := by omega
 have huv : u = Fl.prsU 52 1074 d p hi lo := by rw [uv (by simpa using pre.2.2), hm64]; rfl
 clear uv hm64
 rw [← huv] at hB
 have hub := (Fl.prsU_bounds 52 1074 d p hi lo hd0 (by simpa using hd) h1 h2 (by decide) (by rw [hp]; exact hP.1) hP.2.2).2.1
 rw [← huv, show (2 : Nat) ^ (52 + 4) = 72057594037927936 from rfl] at hub
 obtain ⟨v, hv⟩ : ∃ v, Fl.rsh1 u = v := ⟨_, rfl⟩
 have hvb : v ≤ u := by rw [← hv]; unfold Fl.rsh1; split <;> omega
 have hrs : bits .or .u64 ((u : Int) / 2) (bits .and .u64 (u : Int) 1) = (v : Int) := by
  rw [and_one u hu, ← hv]
  exact or_half u hu
 obtain ⟨M, hMb, Mv, R1⟩ := round_ex v (by omega)
 obtain ⟨J, hJ⟩ : ∃ J, Fl.prsJ 52 1074 d p hi lo = J := ⟨_, rfl⟩
 have hMe : Fl.prsM 52 1074 d p hi lo = M := by
  rw [Mv (by omega), ← hv]
  unfold Fl.prsM
  rw [← huv, show (2 : Nat) ^ (52 + 3) - 2 = 36028797018963966 from rfl, if_pos hB]
 have near := Fl.prs_near 52 1074 d p hi lo hd0 (by simpa using hd) h1 h2 (by decide) (by rw [hp]; exact hP.1) hP.2.2
 rw [hMe, hJ] at near
 have hJe : Fl.prsE 52 1074 d p - 1 = 1074 - (J : Int) := by
  have e1 : Fl.prsE 52 1074 d p ≤ 1074 := by unfold Fl.prsE; omega
  rw [← hJ]
  unfold Fl.prsJ
  rw [← huv, show (2 : Nat) ^ (52 + 3) - 2 = 36028797018963966 from rfl, if_pos hB]
  omega
 rw [hMe, hJ]
 clear Mv hMe hJ huv
 obtain ⟨E, hE⟩ : ∃ E, Fl.prsE 52 1074 d p = E := ⟨_, rfl⟩
 obtain ⟨S, hS1⟩ : ∃ S, Fl.prsS 52 1074 d p = S := ⟨_, rfl⟩
 obtain ⟨lp, hlp⟩ : ∃ lp : Int, p * 108853 / 32768 = lp := ⟨_, rfl⟩
 obtain ⟨L, hL⟩ : ∃ L, Lib.bitLen d = L := ⟨_, rfl⟩
 have hlpb : -5000 ≤ lp ∧ lp ≤ 5000 := by omega
 have hSe : S = 61 - (L : Int) - E - lp := by rw [← hS1, ← hE, ← hL, ← hlp, hbl]; rfl
 have hEe : min (1074 : Int) (53 - (L : Int) - lp) = E := by rw [← hE, ← hL, ← hlp, hbl]; rfl
 have hEb : -2000 ≤ E ∧ E ≤ 1074 := by omega
 have hSn : -(E - (64 - (L : Int)) + lp + 3) = S := by omega
 rw [hbl] at hL
 rw [hL] at hl
 rw [hS1] at hS hge
 rw [hE] at hJe
 rw [hL, hS1] at U1
 rw [hL] at pre
 obtain ⟨x, hx⟩ : ∃ x, d * 2 ^ (64 - L) = x := ⟨_, rfl⟩
 rw [hx] at U1 pre
 have hsh : IntKind.u64.wrap ((d : Int) * 2 ^ (64 - L)) = (x : Int) := by
  rw [← hx, IntKind.wrap_u64]
  have : ((d * 2 ^ (64 - L) : Nat) : Int) = (d : Int) * 2 ^ (64 - L) := by push_cast; rfl
  rw [← this]
  have := pre.2.1
  omega
 have hMJ : M < 9007199254740992 ∧ J ≤ 4000 ∧ (4503599627370496 ≤ M ∨ J = 0) := ⟨by simpa using near.2.1, by omega, by simpa using near.2.2⟩
 obtain ⟨g, hgl⟩ : ∃ g, sgn64 neg = g := ⟨_, rfl⟩
 have hgb : g < 18446744073709551616 := by rw [← hgl]; cases neg <;> simp [sgn64]
 have hMw : M < 9007199254740992 := hMJ.1
 have hor : bits .or .u64 (g : Int) (M : Int) = ((g + M : Nat) : Int) := by
  have := sgn_or64 neg M (by omega)
  rwa [hgl] at this
 have CPK := Lib.hid (pack64_any neg M J hMJ.1 hMJ.2.1 hMJ.2.2)
 obtain ⟨r1, r2, hR⟩ : ∃ r1 r2, Prs64 neg (Fl.cutInf 9218868437227405312 (M + J * 4503599627370496)) = .tuple #[r1, r2] := by cases Fl.cutInf 9218868437227405312 (M + J * 4503599627370496) <;> exact ⟨_, _, rfl⟩
 rw [hR, hgl, show ((J : Int) - 1074) = -(1074 - (J : Int)) by omega] at CPK
 rw [hR]
 obtain ⟨y, hy⟩ : ∃ y, g + M = y := ⟨_, rfl⟩
 rw [hy] at hor CPK
 have hneg : -(E - 1) = (J : Int) - 1074 := by omega
 have CU := Lib.hid U1
 have CR := Lib.hid R1
 have CM := Lib.hid (unmin64_any)
 have hcm : ((u : Int) ≥ 36028797018963966) = True := by simp; omega
 clear near hR hy U1 R1 hMJ hv hub
 rw [hgl]
 have hlog : p * 108853 / 32768 = lp := hlp
 have HLEN := Lib.hid (len64_any d (by omega))
 rw [hbl, hL] at HLEN
 have HLOG := Lib.hid (log2_any p (by omega) (by omega))
 rw [hlp] at HLOG
 have HPI := Lib.hid hp
 have HSN := Lib.hid hSn
 have HTT := Lib.hid hT
 have HGG := Lib.hid hg
 have hp1 : -5000 ≤ p := by omega
 have hp2 : p ≤ 5000 := by omega
 have HEE := Lib.hid hEe
 clear hP hPh hbl hlp hE hS1 hlog hSe hL hgl hEe hT hg hp hSn
 go_enter Tryz.func165, Tryz.ntmps165
 go_upto_region 4 with (first
  | (go_at_call 103; refine (HLEN.out _).mono ?_; rintro en w2 ⟨rfl, hww⟩; obtain rfl := hww.symm)
  | (go_at_call 138; refine (HLOG.out _).mono ?_; rintro en w2 ⟨rfl, hww⟩; obtain rfl := hww.symm))
 rw [HEE.out]
 obtain ⟨W1, hW1⟩ : ∃ W, w.alloc (.cells #[.int .u64 0, .int .u64 0, .int .i64 0] 209) = W := ⟨_, rfl⟩
 have hk1 : Keeps (fun _ => False) w W1 := by rw [← hW1]; exact (Keeps.refl _ w).alloc _
 have hr1 : W1.heap[w.heap.size]? = some (.cells #[.int .u64 0, .int .u64 0, .int .i64 0] 209 (0, 0)) := by rw [← hW1]; exact heap_alloc_new w _
 obtain ⟨K, hK⟩ : ∃ K, w.heap.size = K := ⟨_, rfl⟩
 have HKs : Hid (w.heap.size ≤ K) := Nat.le_of_eq hK
 have HKg : Hid (10 ≠ K) := by show _ ≠ _; have := HGG.out; omega
 rw [hK] at hr1
 have KK := Lib.hid hk1
 have KR := Lib.hid hr1
 have KT : Hid (P10At PT W1) := HTT.out.keeps hk1
 have HPR : Hid (∀ (v0 v1 v2 : Value) (w : World), P10At PT w → w.heap[K]? = some (.cells #[v0, v1, v2] 209 (0, 0)) → Calls Tryz.prog 137 #[.pointer (some ⟨K, 0, none⟩), .int .i64 (E - (64 - (L : Int))), .int .i64 p, .int .i64 lp] w fun en w' => en = .returned (.tuple #[]) ∧ w'.heap[K]? = some (.cells #[.int .u64 (hi : Int), .int .u64 (lo : Int), .int .i64 S] 209 (0, 0)) ∧ Keeps (fun k => k = K) w w') := fun v0 v1 v2 w hT hc => by
  have h := prescale_any PT K v0 v1 v2 (E - (64 - (L : Int))) lp i hi2 (by omega) (by omega) hlpb.1 hlpb.2 w hT hc HKg.out
  rw [HSN.out, ← HPI.out, hi1, hlo1] at h
  exact h
 go_upto_region 5 with (fail)
 try rw [hW1]
 try rw [hK]
 clear hW1 hK hk1 hr1
 go_wp2_with (first
  | (go_at_call 137; refine (HPR.out _ _ _ _ KT.out KR.out).mono ?_; rintro en w2 ⟨rfl, r2, k2⟩; have K2 : Hid (Keeps (fun _ => False) w w2) := KK.out.trans k2 (fun j hj e => by have := HKs.out; omega); have q0 := cell_row (j := 0) r2; have q1 := cell_row (j := 1) r2; have q2 := cell_row (j := 2) r2; simp at q0 q1 q2; clear r2 k2)
  | (go_at_call 139; refine (CU.out _ _ q0 q1 q2).mono ?_; rintro en w3 ⟨rfl, k3⟩; have K3 : Hid (Keeps (fun _ => False) w w3) := K2.out.trans k3 (fun _ _ h => h); clear k3)
  | (go_at_call 144; with_reducible refine (CM.out _).mono ?_; rintro en w' ⟨rfl, rfl⟩)
  | (go_at_call 104; with_reducible refine (bool2i_any _ _).mono ?_; rintro en w' ⟨rfl, rfl⟩)
  | (go_at_call 143; (try rw [hrs]); with_reducible refine (CR.out _).mono ?_; rintro en w' ⟨rfl, rfl⟩)
  | (go_at_call 182; with_reducible refine (CPK.out _).mono ?_; rintro en w' ⟨rfl, rfl⟩))
 go_ret2
 exact ⟨rfl, K3.out⟩
set_option maxRecDepth 1000000 in
set_option maxHeartbeats 40000000 in
theorem parse64_small (PT : Nat → Nat × Nat) (hok : PTOk PT) (neg : Bool) (d i hi lo : Nat) (p : Int) (hp : p = (i : Int) - 348) (hi1 : (PT i).1 = hi) (hlo1 : (PT i).2 = lo) (hd0 : 0 < d) (hd : d < 18446744073709551616) (h1 : -345 ≤ p) (h2 : p ≤ 310) (hS : Fl.prsS 52 1074 d p < 64) (hB : Fl.prsU 52 1074 d p hi lo < 36028797018963966) (w : World) (hT : P10At PT w) (hg : 10 < w.heap.size) :
 Calls Tryz.prog 165 #[.int .u64 (d : Int), .int .i64 p, .int .u64 ((sgn64 neg : Nat) : Int)] w fun en w' => en = .returned (Prs64 neg (Fl.cutInf 9218868437227405312 (Fl.prsM 52 1074 d p hi lo + Fl.prsJ 52 1074 d p hi lo * 4503599627370496))) ∧ Keeps (fun _ => False) w w' := by
 have hi2 : i < 696 := by omega
 have hP := hok i hi2
 have hPh := hok.hi i hi2
 rw [hi1, hlo1] at hP
 rw [hi1] at hPh
 have pre := usc_pre (hi := hi) hd0 (by simpa using hd) hPh.1
 have hbl := bitLen_len d hd0 (by simpa using hd)
 have hl := Fl.len_le hd0 (by simpa using hd)
 have hge := (Fl.prsS_ge 52 1074 d p (by decide)).2
 obtain ⟨u, hu, uv, U1⟩ := uscale_ex (d * 2 ^ (64 - Fl.len d)) hi lo (Fl.prsS 52 1074 d p) (by simpa using pre.2.1) (by simpa using hPh.2) (by simpa using hP.2.2)
 have hm64 : Fl.prsS 52 1074 d p % 64 = Fl.prsS 52 1074 d p := by omega
 have huv : u = Fl.prsU 52 1074 d p hi lo := by rw [uv (by simpa using pre.2.2), hm64]; rfl
 clear uv hm64
 rw [← huv] at hB
 have hub := (Fl.prsU_bounds 52 1074 d p hi lo hd0 (by simpa using hd) h1 h2 (by decide) (by rw [hp]; exact hP.1) hP.2.2).2.1
 rw [← huv, show (2 : Nat) ^ (52 + 4) = 72057594037927936 from rfl] at hub
 obtain ⟨v, hv⟩ : ∃ v, u = v := ⟨_, rfl⟩
 have hvb : v ≤ u := by omega
 have hrs : bits .or .u64 ((u : Int)) (bits .and .u64 (u : Int) 1) = (v : Int) := by
  rw [and_one u hu, ← hv]
  exact or_last u hu
 obtain ⟨M, hMb, Mv, R1⟩ := round_ex v (by omega)
 obtain ⟨J, hJ⟩ : ∃ J, Fl.prsJ 52 1074 d p hi lo = J := ⟨_, rfl⟩
 have hMe : Fl.prsM 52 1074 d p hi lo = M := by
  rw [Mv (by omega), ← hv]
  unfold Fl.prsM
  rw [← huv, show (2 : Nat) ^ (52 + 3) - 2 = 36028797018963966 from rfl, if_neg (by omega)]
 have near := Fl.prs_near 52 1074 d p hi lo hd0 (by simpa using hd) h1 h2 (by decide) (by rw [hp]; exact hP.1) hP.2.2
 rw [hMe, hJ] at near
 have hJe : Fl.prsE 52 1074 d p - 0 = 1074 - (J : Int) := by
  have e1 : Fl.prsE 52 1074 d p ≤ 1074 := by unfold Fl.prsE; omega
  rw [← hJ]
  unfold Fl.prsJ
  rw [← huv, show (2 : Nat) ^ (52 + 3) - 2 = 36028797018963966 from rfl, if_neg (by omega)]
  omega
 rw [hMe, hJ]
 clear Mv hMe hJ huv
 obtain ⟨E, hE⟩ : ∃ E, Fl.prsE 52 1074 d p = E := ⟨_, rfl⟩
 obtain ⟨S, hS1⟩ : ∃ S, Fl.prsS 52 1074 d p = S := ⟨_, rfl⟩
 obtain ⟨lp, hlp⟩ : ∃ lp : Int, p * 108853 / 32768 = lp := ⟨_, rfl⟩
 obtain ⟨L, hL⟩ : ∃ L, Lib.bitLen d = L := ⟨_, rfl⟩
 have hlpb : -5000 ≤ lp ∧ lp ≤ 5000 := by omega
 have hSe : S = 61 - (L : Int) - E - lp := by rw [← hS1, ← hE, ← hL, ← hlp, hbl]; rfl
 have hEe : min (1074 : Int) (53 - (L : Int) - lp) = E := by rw [← hE, ← hL, ← hlp, hbl]; rfl
 have hEb : -2000 ≤ E ∧ E ≤ 1074 := by omega
 have hSn : -(E - (64 - (L : Int)) + lp + 3) = S := by omega
 rw [hbl] at hL
 rw [hL] at hl
 rw [hS1] at hS hge
 rw [hE] at hJe
 rw [hL, hS1] at U1
 rw [hL] at pre
 obtain ⟨x, hx⟩ : ∃ x, d * 2 ^ (64 - L) = x := ⟨_, rfl⟩
 rw [hx] at U1 pre
 have hsh : IntKind.u64.wrap ((d : Int) * 2 ^ (64 - L)) = (x : Int) := by
  rw [← hx, IntKind.wrap_u64]
  have : ((d * 2 ^ (64 - L) : Nat) : Int) = (d : Int) * 2 ^ (64 - L) := by push_cast; rfl
  rw [← this]
  have := pre.2.1
  omega
 have hMJ : M < 9007199254740992 ∧ J ≤ 4000 ∧ (4503599627370496 ≤ M ∨ J = 0) := ⟨by simpa using near.2.1, by omega, by simpa using near.2.2⟩
 obtain ⟨g, hgl⟩ : ∃ g, sgn64 neg = g := ⟨_, rfl⟩
 have hgb : g < 18446744073709551616 := by rw [← hgl]; cases neg <;> simp [sgn64]
 have hMw : M < 9007199254740992 := hMJ.1
 have hor : bits .or .u64 (g : Int) (M : Int) = ((g + M : Nat) : Int) := by
  have := sgn_or64 neg M (by omega)
  rwa [hgl] at this
 have CPK := Lib.hid (pack64_any neg M J hMJ.1 hMJ.2.1 hMJ.2.2)
 obtain ⟨r1, r2, hR⟩ : ∃ r1 r2, Prs64 neg (Fl.cutInf 9218868437227405312 (M + J * 4503599627370496)) = .tuple #[r1, r2] := by cases Fl.cutInf 9218868437227405312 (M + J * 4503599627370496) <;> exact ⟨_, _, rfl⟩
 rw [hR, hgl, show ((J : Int) - 1074) = -(1074 - (J : Int)) by omega] at CPK
 rw [hR]
 obtain ⟨y, hy⟩ : ∃ y, g + M = y := ⟨_, rfl⟩
 rw [hy] at hor CPK
 have hneg : -(E - 0) = (J : Int) - 1074 := by omega
 have CU := Lib.hid U1
 have CR := Lib.hid R1
 have CM := Lib.hid (unmin64_any)
 have hcm : ((u : Int) ≥ 36028797018963966) = False := by simp; omega
 clear near hR hy U1 R1 hMJ hv hub
 rw [hgl]
 have hlog : p * 108853 / 32768 = lp := hlp
 have HLEN := Lib.hid (len64_any d (by omega))
 rw [hbl, hL] at HLEN
 have HLOG := Lib.hid (log2_any p (by omega) (by omega))
 rw [hlp] at HLOG
 have HPI := Lib.hid hp
 have HSN := Lib.hid hSn
 have HTT := Lib.hid hT
 have HGG := Lib.hid hg
 have hp1 : -5000 ≤ p := by omega
 have hp2 : p ≤ 5000 := by omega
 have HEE := Lib.hid hEe
 clear hP hPh hbl hlp hE hS1 hlog hSe hL hgl hEe hT hg hp hSn
 go_enter Tryz.func165, Tryz.ntmps165
 go_upto_region 4 with (first
  | (go_at_call 103; refine (HLEN.out _).mono ?_; rintro en w2 ⟨rfl, hww⟩; obtain rfl := hww.symm)
  | (go_at_call 138; refine (HLOG.out _).mono ?_; rintro en w2 ⟨rfl, hww⟩; obtain rfl := hww.symm))
 rw [HEE.out]
 obtain ⟨W1, hW1⟩ : ∃ W, w.alloc (.cells #[.int .u64 0, .int .u64 0, .int .i64 0] 209) = W := ⟨_, rfl⟩
 have hk1 : Keeps (fun _ => False) w W1 := by rw [← hW1]; exact (Keeps.refl _ w).alloc _
 have hr1 : W1.heap[w.heap.size]? = some (.cells #[.int .u64 0, .int .u64 0, .int .i64 0] 209 (0, 0)) := by rw [← hW1]; exact heap_alloc_new w _
 obtain ⟨K, hK⟩ : ∃ K, w.heap.size = K := ⟨_, rfl⟩
 have HKs : Hid (w.heap.size ≤ K) := Nat.le_of_eq hK
 have HKg : Hid (10 ≠ K) := by show _ ≠ _; have := HGG.out; omega
 rw [hK] at hr1
 have KK := Lib.hid hk1
 have KR := Lib.hid hr1
 have KT : Hid (P10At PT W1) := HTT.out.keeps hk1
 have HPR : Hid (∀ (v0 v1 v2 : Value) (w : World), P10At PT w → w.heap[K]? = some (.cells #[v0, v1, v2] 209 (0, 0)) → Calls Tryz.prog 137 #[.pointer (some ⟨K, 0, none⟩), .int .i64 (E - (64 - (L : Int))), .int .i64 p, .int .i64 lp] w fun en w' => en = .returned (.tuple #[]) ∧ w'.heap[K]? = some (.cells #[.int .u64 (hi : Int), .int .u64 (lo : Int), .int .i64 S] 209 (0, 0)) ∧ Keeps (fun k => k = K) w w') := fun v0 v1 v2 w hT hc => by
  have h := prescale_any PT K v0 v1 v2 (E - (64 - (L : Int))) lp i hi2 (by omega) (by omega) hlpb.1 hlpb.2 w hT hc HKg.out
  rw [HSN.out, ← HPI.out, hi1, hlo1] at h
  exact h
 go_upto_region 5 with (fail)
 try rw [hW1]
 try rw [hK]
 clear hW1 hK hk1 hr1
 go_wp2_with (first
  | (go_at_call 137; refine (HPR.out _ _ _ _ KT.out KR.out).mono ?_; rintro en w2 ⟨rfl, r2, k2⟩; have K2 : Hid (Keeps (fun _ => False) w w2) := KK.out.trans k2 (fun j hj e => by have := HKs.out; omega); have q0 := cell_row (j := 0) r2; have q1 := cell_row (j := 1) r2; have q2 := cell_row (j := 2) r2; simp at q0 q1 q2; clear r2 k2)
  | (go_at_call 139; refine (CU.out _ _ q0 q1 q2).mono ?_; rintro en w3 ⟨rfl, k3⟩; have K3 : Hid (Keeps (fun _ => False) w w3) := K2.out.trans k3 (fun _ _ h => h); clear k3)
  | (go_at_call 144; with_reducible refine (CM.out _).mono ?_; rintro en w' ⟨rfl, rfl⟩)
  | (go_at_call 104; with_reducible refine (bool2i_any _ _).mono ?_; rintro en w' ⟨rfl, rfl⟩)
  | (go_at_call 143; (try rw [hrs]); with_reducible refine (CR.out _).mono ?_; rintro en w' ⟨rfl, rfl⟩)
  | (go_at_call 182; with_reducible refine (CPK.out _).mono ?_; rintro en w' ⟨rfl, rfl⟩))
 go_ret2
 exact ⟨rfl, K3.out⟩
theorem parse64_ex (PT : Nat → Nat × Nat) (hok : PTOk PT) (neg : Bool) (d : Nat) (p : Int) (hd0 : 0 < d) (hd : d < 18446744073709551616) (h1 : -345 ≤ p) (h2 : p ≤ 310) :
 ∃ r, Fl.Answers 52 1074 9218868437227405312 d p r ∧ ∀ w, P10At PT w → 10 < w.heap.size →
  Calls Tryz.prog 165 #[.int .u64 (d : Int), .int .i64 p, .int .u64 ((sgn64 neg : Nat) : Int)] w fun en w' => en = .returned (Prs64 neg r) ∧ Keeps (fun _ => False) w w' := by
 obtain ⟨i, hi⟩ : ∃ i : Nat, p = (i : Int) - 348 := ⟨(p + 348).toNat, by omega⟩
 by_cases hS : 64 ≤ Fl.prsS 52 1074 d p
 · exact ⟨some 0, ⟨by decide, Fl.prs_tiny 52 1074 d p hd0 (by simpa using hd) h1 h2 (by decide) hS⟩, fun w hT hg => parse64_tiny PT hok neg d i _ _ p hi rfl rfl hd0 hd h1 h2 hS w hT hg⟩
 · have hP := hok i (by omega)
   have near := Fl.prs_near 52 1074 d p (PT i).1 (PT i).2 hd0 (by simpa using hd) h1 h2 (by decide) (by rw [hi]; exact hP.1) hP.2.2
   refine ⟨_, near.1.answers (inf := 9218868437227405312) (by decide), fun w hT hg => ?_⟩
   rcases Nat.lt_or_ge (Fl.prsU 52 1074 d p (PT i).1 (PT i).2) 36028797018963966 with hB | hB
   · exact parse64_small PT hok neg d i _ _ p hi rfl rfl hd0 hd h1 h2 (by omega) hB w hT hg
   · exact parse64_big PT hok neg d i _ _ p hi rfl rfl hd0 hd h1 h2 (by omega) hB w hT hg
end Go.Proofs.YtonegoemmologaaGreatDoor
