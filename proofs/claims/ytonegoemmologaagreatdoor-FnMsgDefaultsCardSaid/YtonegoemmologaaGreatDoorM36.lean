/-
  readFloat at a text of a number: without a sign, with a power.
  readFloat at a text of a number: with a sign, with a power.
-/
import Derived.Test.YtonegoemmologaaGreatDoorM34
set_option linter.unusedVariables false
set_option linter.unusedSimpArgs false
namespace Go.Proofs.YtonegoemmologaaGreatDoor
open Go.RowKit
set_option maxRecDepth 1000000 in
set_option maxHeartbeats 40000000 in
theorem rf_false_pow (s : ByteArray) (N M : Nat) (ch : Nat → Nat) (I F : List UInt8) (hsz : (s.size : Int) = (N : Int)) (hat : ∀ k, k < N → ∀ w', (Instr.index 9 (.string s) (.int .i64 (k : Int))).run Tryz.prog w' = .ok (.int .u8 (ch k : Int)) w')
 (hM : (Fl.body I F).length = M) (hM1 : 1 ≤ M) (hMl : M ≤ 1000001) (hbody : ∀ k (h : k < (Fl.body I F).length), ch (0 + k) = ((Fl.body I F)[k]).toNat) (hch0 : 48 ≤ ch 0 ∧ ch 0 ≤ 57) (hch1 : 0 + 1 < N → ch (0 + 1) < 256 ∧ ((48 ≤ ch (0 + 1) ∧ ch (0 + 1) ≤ 57) ∨ ch (0 + 1) = 46 ∨ ch (0 + 1) = 101))
 (hI0 : I ≠ []) (hI : ∀ c ∈ I, Fl.isDig c) (hF : ∀ c ∈ F, Fl.isDig c) (hb : Fl.nval (I ++ F) < 10 ^ 19) (ds : List UInt8) (sc : Nat) (ev : Int) (hev : (sc = 43 ∧ ev = (Fl.nval ds : Int)) ∨ (sc = 45 ∧ ev = -(Fl.nval ds : Int))) (J : Nat) (hJ : ds.length = J) (hJ1 : 1 ≤ J) (hJ4 : J ≤ 4) (hds : ∀ c ∈ ds, Fl.isDig c) (hN : N = 0 + M + 2 + J) (he1 : ch (0 + M) = 101) (he2 : ch (0 + M + 1) = sc) (hed : ∀ j (h : j < ds.length), ch (0 + M + 2 + j) = (ds[j]).toNat) (w : World) :
 Calls Tryz.prog 154 #[.string s] w fun en w' => en = .returned (.tuple #[.int .u64 (Fl.nval (I ++ F) : Int), .int .i64 (if Fl.nval (I ++ F) = 0 then 0 else (ev : Int) - (F.length : Int)), .bool false, .bool false, .bool false, .int .i64 (N : Int), .bool true]) ∧ w' = w := by
 obtain ⟨ex, hex⟩ : ∃ ex : Int, (if Fl.nval (I ++ F) = 0 then 0 else (ev : Int) - (F.length : Int)) = ex := ⟨_, rfl⟩
 obtain ⟨V, hV⟩ : ∃ V, Fl.nval (I ++ F) = V := ⟨_, rfl⟩
 rw [hex, hV]
 rw [hV] at hex hb
 have hN0 : (0 : Int) < (N : Int) := by omega
 have hx0 : ∀ w', (Instr.index 9 (.string s) (.int .i64 0)).run Tryz.prog w' = .ok (.int .u8 (ch 0 : Int)) w' := hat 0 (by omega)
 obtain ⟨c0, hc0⟩ : ∃ c, ch 0 = c := ⟨_, rfl⟩
 have hxp : ∀ w', (Instr.index 9 (.string s) (.int .i64 0)).run Tryz.prog w' = .ok (.int .u8 (ch 0 : Int)) w' := hat 0 (by omega)
 rw [hc0] at hxp hch0
 clear hx0
 have q43 : ((c0 : Int) == 43) = false := by simp; omega
 have q45 : ((c0 : Int) == 45) = false := by simp; omega
 obtain ⟨g1, g2⟩ := hch0
 obtain ⟨d1, hd1⟩ : ∃ c, ch (0 + 1) = c := ⟨_, rfl⟩
 have hx1 : ∀ w', (Instr.index 9 (.string s) (.int .i64 1)).run Tryz.prog w' = .ok (.int .u8 (ch 1 : Int)) w' := hat 1 (by omega)
 have hch1 := hch1 (by omega)
 rw [hd1] at hch1
 have e1 : ch 1 = d1 := hd1
 rw [e1] at hx1
 have q120 : ((d1 : Int) == 120) = false := by simp; omega
 have HLOW : Hid (∀ w, Calls Tryz.prog 95 #[.int .u8 (d1 : Int)] w fun e w' => e = .returned (.int .u8 (d1 : Int)) ∧ w' = w) := fun w => lower_any d1 hch1.1 hch1.2 w
 have n2 : (2 : Int) < (N : Int) := by omega
 clear hch1 hd1 e1
 clear hc0
 have HAT := Lib.hid hat
 have HM := Lib.hid hM
 have HB := Lib.hid hb
 have HBO := Lib.hid hbody
 have HI := Lib.hid hI
 have HF := Lib.hid hF
 have HI0 := Lib.hid hI0
 have HM1 := Lib.hid hM1
 have HML := Lib.hid hMl
 have HN := Lib.hid hN
 have HEX := Lib.hid hex
 have HV := Lib.hid hV
 have HE1 := Lib.hid he1
 have HE2 := Lib.hid he2
 have HED := Lib.hid hed
 have HJ := Lib.hid hJ
 have HJ1 := Lib.hid hJ1
 have HJ4 := Lib.hid hJ4
 have HDS := Lib.hid hds
 have HEV := Lib.hid hev
 clear he1 he2 hed hJ hJ1 hJ4 hds hev
 clear hex hV hat hM hb hbody hI hF hI0 hM1 hMl hN
 go_enter Tryz.func154, Tryz.ntmps154
 go_wp2_with (fail)
 go_step3
 go_upto_region 12 with (fail)
 go_cut [54] from 21 to 54 (fun a wx => a = .bool false ∧ w = wx)
 case first =>
  go_wp2_with (go_at_call 95; refine (HLOW.out _).mono ?_; rintro en w2 ⟨rfl, hww⟩; obtain rfl := hww.symm)
  all_goals go_meet
  all_goals exact ⟨rfl, rfl⟩
 obtain ⟨rfl, rfl⟩ := hcut
 go_wp2_with (fail)
 go_step3
 go_wp2_with (fail)
 go_loopw [2, 5, 7, 9, 13, 14, 15, 16, 17] (fun m tr i und dot dig nd ndm dp wr => RFrel I F 0 M w m tr i und dot dig nd ndm dp wr) (fun _ _ i _ _ _ _ _ _ _ => 2000000 - natOf i)
 all_goals first
  | (case atStart => exact ⟨0, 0, 0, 0, false, false, 0, rfl, rfl, rfl, rfl, rfl, rfl, rfl, rfl, rfl, rfl, rfl, by omega, Fl.RF.start I F⟩)
  | skip
 case round =>
  obtain ⟨k, p, mant, n, b1, b2, q, rfl, rfl, rfl, rfl, rfl, rfl, rfl, rfl, rfl, rfl, hpk, hkM, hrf⟩ := hrel
  obtain ⟨m1, m2, m3, m4, m5⟩ := hrf.room HI.out HF.out (by rw [HV.out]; exact HB.out)
  obtain ⟨hq1, hq2⟩ := rf_q hrf m2
  have hML := HML.out
  have hN := HN.out
  have hkq : (k : Int) ≤ 1000001 := by omega
  rcases Nat.lt_or_ge k M with hk | hk
  · have hkb : k < (Fl.body I F).length := by rw [HM.out]; exact hk
    have hst := hrf.step HI0.out HI.out HF.out (by rw [HV.out]; exact HB.out) hkb
    have hchk := HBO.out k hkb
    rw [show 0 + k = p by omega] at hchk
    have hpN : (p : Int) < (N : Int) := by omega
    have hpl : (p : Int) < 1100000 := by omega
    have hxc := HAT.out p (by omega)
    obtain ⟨c8, hc8⟩ : ∃ c8, (Fl.body I F)[k] = c8 := ⟨_, rfl⟩
    rw [hc8] at hst hchk
    obtain ⟨c, hcb⟩ : ∃ c, c8.toNat = c := ⟨_, rfl⟩
    rw [hchk, hcb] at hxc
    have HPK := Lib.hid hpk
    have hq1 : -1000001 ≤ q := by omega
    clear hrf hchk hc8 hkb hkM hpk hN hML m4 m5 hkq
    rcases hst with ⟨e46, rfl, hr⟩ | hst
    · obtain rfl : c = 46 := by rw [← hcb, e46]; rfl
      have HR := Lib.hid hr
      clear hr hcb e46
      go_wp2_with (fail)
      go_roundw
      case rel => exact ⟨k + 1, p + 1, mant, n, true, b2, (n : Int), by first | rfl | (congr 1; omega), rfl, by congr 1, rfl, by first | rfl | (congr 1), rfl, by first | rfl | (congr 1), by first | rfl | (congr 1), by first | rfl | (congr 1), rfl, by have := HPK.out; omega, by omega, HR.out⟩
      case measure => have := HPK.out; have := HML.out; simp [natOf]; omega
    · have HRS := Lib.hid hst
      clear hst
      have hd := HRS.out
      obtain ⟨d1, d2, d3⟩ := hd
      obtain ⟨dl, dh⟩ := d1
      have hcz : c = 48 → c8 = 48 := fun e => UInt8.toNat_inj.1 (by rw [hcb, e]; rfl)
      have hcb48 : c8 = 48 → c = 48 := fun e => by rw [← hcb, e]; rfl
      rw [hcb] at dl dh
      have d2 := Lib.hid d2
      have d3 := Lib.hid d3
      have q95 : ((c : Int) == 95) = false := by simp; omega
      have q46 : ((c : Int) == 46) = false := by simp; omega
      have l48 : (48 : Int) ≤ (c : Int) := by omega
      have l57 : (c : Int) ≤ 57 := by omega
      rcases Nat.eq_zero_or_pos n with hn0 | hn0
      · subst hn0
        by_cases h48 : c = 48
        · subst h48
          have hr := d2.out ⟨rfl, hcz rfl⟩
          have HR := Lib.hid hr
          clear hr d2 d3 HRS
          go_wp2_with (fail)
          go_roundw
          case rel => exact ⟨k + 1, p + 1, mant, 0, b1, true, (q - 1), by first | rfl | (congr 1; omega), rfl, by congr 1, rfl, by first | rfl | (congr 1), rfl, by first | rfl | (congr 1), by first | rfl | (congr 1), by first | rfl | (congr 1), rfl, by have := HPK.out; omega, by omega, HR.out⟩
          case measure => have := HPK.out; have := HML.out; simp [natOf]; omega
        · have q48 : ((c : Int) == 48) = false := by simp; omega
          have hr := d3.out (by intro h; exact absurd (hcb48 h.2) h48)
          rw [hcb] at hr
          obtain ⟨hn18, hmb, hr⟩ := hr
          have HR := Lib.hid hr
          have n19 : ((0 : Nat) : Int) < 19 := by omega
          have m10 : (mant : Int) * 10 < 18446744073709551616 := by omega
          have msum : (mant : Int) * 10 + ((c : Int) - 48) < 18446744073709551616 := by omega
          have c48 : (0 : Int) ≤ (c : Int) - 48 := by omega
          clear hr d2 d3 HRS
          go_wp2_with (fail)
          go_roundw
          case rel => exact ⟨k + 1, p + 1, (mant * 10 + (c - 48)), (0 + 1), b1, true, q, by first | rfl | (congr 1; omega), rfl, by congr 1, rfl, by first | rfl | (congr 1), rfl, by first | rfl | (congr 1), by first | rfl | (congr 1), by first | rfl | (congr 1), rfl, by have := HPK.out; omega, by omega, HR.out⟩
          case measure => have := HPK.out; have := HML.out; simp [natOf]; omega
      · have qn : ((n : Int) == 0) = false := by simp; omega
        by_cases h48 : c = 48
        · subst h48
          have hr := d3.out (by omega)
          rw [hcb] at hr
          obtain ⟨hn18, hmb, hr⟩ := hr
          have HR := Lib.hid hr
          have n19 : ((n : Nat) : Int) < 19 := by omega
          have m10 : (mant : Int) * 10 < 18446744073709551616 := by omega
          have msum : (mant : Int) * 10 + (48 - 48) < 18446744073709551616 := by omega
          have c48 : (0 : Int) ≤ 48 - 48 := by omega
          clear hr d2 d3 HRS
          go_wp2_with (fail)
          go_roundw
          case rel => exact ⟨k + 1, p + 1, (mant * 10 + (48 - 48)), (n + 1), b1, true, q, by first | rfl | (congr 1; omega), rfl, by congr 1, rfl, by first | rfl | (congr 1), rfl, by first | rfl | (congr 1), by first | rfl | (congr 1), by first | rfl | (congr 1), rfl, by have := HPK.out; omega, by omega, HR.out⟩
          case measure => have := HPK.out; have := HML.out; simp [natOf]; omega
        · have q48 : ((c : Int) == 48) = false := by simp; omega
          have hr := d3.out (by omega)
          rw [hcb] at hr
          obtain ⟨hn18, hmb, hr⟩ := hr
          have HR := Lib.hid hr
          have n19 : ((n : Nat) : Int) < 19 := by omega
          have m10 : (mant : Int) * 10 < 18446744073709551616 := by omega
          have msum : (mant : Int) * 10 + ((c : Int) - 48) < 18446744073709551616 := by omega
          have c48 : (0 : Int) ≤ (c : Int) - 48 := by omega
          clear hr d2 d3 HRS
          go_wp2_with (fail)
          go_roundw
          case rel => exact ⟨k + 1, p + 1, (mant * 10 + (c - 48)), (n + 1), b1, true, q, by first | rfl | (congr 1; omega), rfl, by congr 1, rfl, by first | rfl | (congr 1), rfl, by first | rfl | (congr 1), by first | rfl | (congr 1), by first | rfl | (congr 1), rfl, by have := HPK.out; omega, by omega, HR.out⟩
          case measure => have := HPK.out; have := HML.out; simp [natOf]; omega
  · obtain rfl : k = M := by omega
    have hdone := by
     have h := hrf
     rw [← HM.out] at h
     exact h.done HI0.out
    rw [HV.out] at hdone
    obtain ⟨rfl, rfl, hdot⟩ := hdone
    clear hrf m1 m3
    have HEXP := Lib.hid hdot
    clear hdot
    have hpN : (p : Int) < (N : Int) := by have := HJ1.out; omega
    have hpe : p = 0 + k := by omega
    have hxe := HAT.out p (by omega)
    rw [hpe, HE1.out, ← hpe, show (((101 : Nat)) : Int) = 101 from rfl] at hxe
    have hxs := HAT.out (p + 1) (by have := HJ1.out; omega)
    rw [show p + 1 = 0 + k + 1 by omega, HE2.out] at hxs
    obtain ⟨pa, hpa⟩ : ∃ pa : Nat, p + 1 = pa := ⟨_, rfl⟩
    obtain ⟨pb, hpb⟩ : ∃ pb : Nat, pa + 1 = pb := ⟨_, rfl⟩
    rw [show ((0 + k + 1 : Nat) : Int) = (pa : Int) by omega] at hxs
    have hx2 := HAT.out (p + 2) (by have := HJ1.out; omega)
    obtain ⟨f0, hf0⟩ : ∃ f0, ch (p + 2) = f0 := ⟨_, rfl⟩
    have hf0d : 48 ≤ f0 ∧ f0 ≤ 57 := by
     have h1 := HED.out 0 (by rw [HJ.out]; exact HJ1.out)
     rw [show 0 + k + 2 + 0 = p + 2 by omega, hf0] at h1
     have h2 := HDS.out _ (List.getElem_mem (by rw [HJ.out]; exact HJ1.out : 0 < ds.length))
     rw [h1]; exact h2
    rw [hf0, show ((p + 2 : Nat) : Int) = (pb : Int) by omega] at hx2
    obtain ⟨f1, f2⟩ := hf0d
    have p1N : ¬ (N : Int) ≤ (pa : Int) := by have := HJ1.out; omega
    have p2N : ¬ (N : Int) ≤ (pb : Int) := by have := HJ1.out; omega
    have hwb : (pa : Int) + 1 = (pb : Int) := by omega
    have hwa : (p : Int) + 1 = (pa : Int) := by omega
    have hpl : (p : Int) < 1100000 := by omega
    have HPB : Hid (pb = p + 2) := by show _ = _; omega
    have HPE := Lib.hid hpe
    have P1N := Lib.hid p1N
    have P2N := Lib.hid p2N
    have HWA := Lib.hid hwa
    have HWB := Lib.hid hwb
    clear hk hkM hpk hN hML hf0 hpe m4 m5 hpa hpb p1N p2N hwa hwb
    rcases HEV.out with ⟨rfl, rfl⟩ | ⟨rfl, rfl⟩ <;> cases b1
    all_goals
     first | rw [show (((43 : Nat)) : Int) = 43 from rfl] at hxs | rw [show (((45 : Nat)) : Int) = 45 from rfl] at hxs
     go_upto_region 58 with (go_at_call 95; refine (lower_101 _).mono ?_; rintro en w2 ⟨rfl, hww⟩; obtain rfl := hww.symm)
     clear hpN hxe
     have hwa := HWA.out
     go_upto_region 59 with (fail)
     clear hwa hpl
     have p1N := P1N.out
     go_upto_region 60 with (fail)
     clear p1N
     have hwb := HWB.out
     have hpal : (pa : Int) < 1200000 := by have := HML.out; have := HPE.out; have := HPB.out; omega
     go_upto_region 67 with (fail)
     clear hwb hpal hxs
     have p2N := P2N.out
     go_upto_region 68 with (fail)
     clear p2N hx2 f1 f2
     go_wp2_with (fail)
     go_loopw [7, 9, 20] (fun i und e wx => EXrel ds (0 + k + 2) J wr i und e wx) (fun i _ _ _ => 2000000 - natOf i)
     case atStart => exact ⟨0, pb, rfl, rfl, rfl, rfl, by have := HPE.out; have := HPB.out; omega, Nat.zero_le _⟩
     case round =>
      obtain ⟨j, pi, rfl, rfl, rfl, rfl, hpi, hjJ⟩ := hrel
      have hJe := HJ.out
      obtain ⟨ev, hev⟩ : ∃ ev, Fl.nval (ds.take j) = ev := ⟨_, rfl⟩
      have hML := HML.out
      have hN := HN.out
      have hJ4 := HJ4.out
      rw [hev]
      rcases Nat.lt_or_ge j J with hj | hj
      · have hjd : j < ds.length := by omega
        have hdj := HED.out j hjd
        obtain ⟨c8, hc8⟩ : ∃ c8, ds[j] = c8 := ⟨_, rfl⟩
        have hdg : Fl.isDig c8 := by rw [← hc8]; exact HDS.out _ (List.getElem_mem hjd)
        have hdt : ds = ds.take j ++ c8 :: ds.drop (j + 1) := by rw [← hc8, ← List.drop_eq_getElem_cons hjd, List.take_append_drop]
        have hst := Fl.exp_step (ds.take j) (ds.drop (j + 1)) c8 (by rw [← hdt]; exact HDS.out) (by rw [← hdt]; omega)
        have htk : ds.take (j + 1) = ds.take j ++ [c8] := by rw [List.take_succ_eq_append_getElem hjd, hc8]
        rw [← htk, hev] at hst
        obtain ⟨he1, he2⟩ := hst
        have HE2' := Lib.hid he2
        obtain ⟨c, hcb⟩ : ∃ c, c8.toNat = c := ⟨_, rfl⟩
        obtain ⟨f1, f2⟩ := hdg
        rw [hc8] at hdj
        rw [hcb] at f1 f2 hdj HE2'
        have hxc := HAT.out pi (by omega)
        rw [hpi, hdj, ← hpi] at hxc
        have hpN : (pi : Int) < (N : Int) := by omega
        have hpl : (pi : Int) < 1300000 := by omega
        have q95 : ((c : Int) == 95) = false := by simp; omega
        have l48 : (48 : Int) ≤ (c : Int) := by omega
        have l57 : (c : Int) ≤ 57 := by omega
        have e4 : (ev : Int) < 10000 := by omega
        have c48 : (0 : Int) ≤ (ev : Int) * 10 + (c : Int) - 48 := by omega
        have HPI := Lib.hid hpi
        clear hpi hjd hdt htk hJe hML hN hJ4 he1 he2 hc8 hcb hdj hev f1 f2
        go_wp2_with (fail)
        go_roundw
        case rel => exact ⟨j + 1, pi + 1, by congr 1, rfl, by rw [HE2'.out]; congr 1; omega, rfl, by have := HPI.out; omega, by omega⟩
        case measure => have := HPI.out; have := HML.out; have := HJ4.out; simp [natOf]; omega
      · obtain rfl : j = J := by omega
        have hevn : Fl.nval ds = ev := by rw [← hev, ← hJe, List.take_length]
        have hlt := Fl.nval_lt ds HDS.out
        have hp4 : 10 ^ ds.length ≤ 10 ^ 4 := Nat.pow_le_pow_right (by omega) (by omega)
        have hevb : ev < 10000 := by omega
        have hpN : pi = N := by omega
        subst hpN
        have hpn : ¬ (pi : Int) < (pi : Int) := by omega
        rw [hevn] at HEX
        clear hev hevn hlt hp4 hML hN hJ4 hpi hjJ hj hJe
        by_cases hm0 : mant = 0
        · subst hm0
          go_wp2_with (fail)
          (try simp only [Exit.inBlock, Exit.then])
          refine bodyPost_ret (results_tmp7 rfl _ _ _) rfl ?_
          have hE := HEX.out
          have hD := HEXP.out
          refine ⟨?_, rfl⟩
          simp at hE
          rcases hD with ⟨hb1, hD⟩ | ⟨hb1, hD⟩
          · first | exact absurd hb1 (by decide) | (simp; omega)
          · first | exact absurd hb1 (by decide) | (simp; omega)
        · have hmi : ((mant : Int) == 0) = false := by simp; omega
          have HMN : Hid (mant ≠ 0) := hm0
          clear hm0
          go_wp2_with (fail)
          (try simp only [Exit.inBlock, Exit.then])
          refine bodyPost_ret (results_tmp7 rfl _ _ _) rfl ?_
          have hE := HEX.out
          have hD := HEXP.out
          refine ⟨?_, rfl⟩
          rw [if_neg HMN.out] at hE
          rcases hD with ⟨hb1, hD⟩ | ⟨hb1, hD⟩
          · first | exact absurd hb1 (by decide) | (simp; omega)
          · first | exact absurd hb1 (by decide) | (simp; omega)
end Go.Proofs.YtonegoemmologaaGreatDoor
namespace Go.Proofs.YtonegoemmologaaGreatDoor
open Go.RowKit
set_option maxRecDepth 1000000 in
set_option maxHeartbeats 40000000 in
theorem rf_true_pow (s : ByteArray) (N M : Nat) (ch : Nat → Nat) (I F : List UInt8) (hsz : (s.size : Int) = (N : Int)) (hat : ∀ k, k < N → ∀ w', (Instr.index 9 (.string s) (.int .i64 (k : Int))).run Tryz.prog w' = .ok (.int .u8 (ch k : Int)) w')
 (hM : (Fl.body I F).length = M) (hM1 : 1 ≤ M) (hMl : M ≤ 1000001) (hbody : ∀ k (h : k < (Fl.body I F).length), ch (1 + k) = ((Fl.body I F)[k]).toNat) (hch0 : 48 ≤ ch 1 ∧ ch 1 ≤ 57) (hch1 : 1 + 1 < N → ch (1 + 1) < 256 ∧ ((48 ≤ ch (1 + 1) ∧ ch (1 + 1) ≤ 57) ∨ ch (1 + 1) = 46 ∨ ch (1 + 1) = 101))
 (hI0 : I ≠ []) (hI : ∀ c ∈ I, Fl.isDig c) (hF : ∀ c ∈ F, Fl.isDig c) (hb : Fl.nval (I ++ F) < 10 ^ 19) (hneg : ch 0 = 45) (ds : List UInt8) (sc : Nat) (ev : Int) (hev : (sc = 43 ∧ ev = (Fl.nval ds : Int)) ∨ (sc = 45 ∧ ev = -(Fl.nval ds : Int))) (J : Nat) (hJ : ds.length = J) (hJ1 : 1 ≤ J) (hJ4 : J ≤ 4) (hds : ∀ c ∈ ds, Fl.isDig c) (hN : N = 1 + M + 2 + J) (he1 : ch (1 + M) = 101) (he2 : ch (1 + M + 1) = sc) (hed : ∀ j (h : j < ds.length), ch (1 + M + 2 + j) = (ds[j]).toNat) (w : World) :
 Calls Tryz.prog 154 #[.string s] w fun en w' => en = .returned (.tuple #[.int .u64 (Fl.nval (I ++ F) : Int), .int .i64 (if Fl.nval (I ++ F) = 0 then 0 else (ev : Int) - (F.length : Int)), .bool true, .bool false, .bool false, .int .i64 (N : Int), .bool true]) ∧ w' = w := by
 obtain ⟨ex, hex⟩ : ∃ ex : Int, (if Fl.nval (I ++ F) = 0 then 0 else (ev : Int) - (F.length : Int)) = ex := ⟨_, rfl⟩
 obtain ⟨V, hV⟩ : ∃ V, Fl.nval (I ++ F) = V := ⟨_, rfl⟩
 rw [hex, hV]
 rw [hV] at hex hb
 have hN0 : (1 : Int) < (N : Int) := by omega
 have hx0 : ∀ w', (Instr.index 9 (.string s) (.int .i64 0)).run Tryz.prog w' = .ok (.int .u8 (ch 0 : Int)) w' := hat 0 (by omega)
 rw [hneg] at hx0
 obtain ⟨c0, hc0⟩ : ∃ c, ch 1 = c := ⟨_, rfl⟩
 have hxp : ∀ w', (Instr.index 9 (.string s) (.int .i64 1)).run Tryz.prog w' = .ok (.int .u8 (ch 1 : Int)) w' := hat 1 (by omega)
 rw [hc0] at hxp hch0
 have q43 : ((c0 : Int) == 43) = false := by simp; omega
 have q45 : ((c0 : Int) == 45) = false := by simp; omega
 obtain ⟨g1, g2⟩ := hch0
 obtain ⟨d1, hd1⟩ : ∃ c, ch (1 + 1) = c := ⟨_, rfl⟩
 have hx1 : ∀ w', (Instr.index 9 (.string s) (.int .i64 2)).run Tryz.prog w' = .ok (.int .u8 (ch 2 : Int)) w' := hat 2 (by omega)
 have hch1 := hch1 (by omega)
 rw [hd1] at hch1
 have e1 : ch 2 = d1 := hd1
 rw [e1] at hx1
 have q120 : ((d1 : Int) == 120) = false := by simp; omega
 have HLOW : Hid (∀ w, Calls Tryz.prog 95 #[.int .u8 (d1 : Int)] w fun e w' => e = .returned (.int .u8 (d1 : Int)) ∧ w' = w) := fun w => lower_any d1 hch1.1 hch1.2 w
 have n2 : (3 : Int) < (N : Int) := by omega
 clear hch1 hd1 e1
 clear hc0
 have HAT := Lib.hid hat
 have HM := Lib.hid hM
 have HB := Lib.hid hb
 have HBO := Lib.hid hbody
 have HI := Lib.hid hI
 have HF := Lib.hid hF
 have HI0 := Lib.hid hI0
 have HM1 := Lib.hid hM1
 have HML := Lib.hid hMl
 have HN := Lib.hid hN
 have HEX := Lib.hid hex
 have HV := Lib.hid hV
 have HE1 := Lib.hid he1
 have HE2 := Lib.hid he2
 have HED := Lib.hid hed
 have HJ := Lib.hid hJ
 have HJ1 := Lib.hid hJ1
 have HJ4 := Lib.hid hJ4
 have HDS := Lib.hid hds
 have HEV := Lib.hid hev
 clear he1 he2 hed hJ hJ1 hJ4 hds hev
 clear hex hV hat hM hb hbody hI hF hI0 hM1 hMl hN hneg
 go_enter Tryz.func154, Tryz.ntmps154
 go_wp2_with (fail)
 go_step3
 go_upto_region 12 with (fail)
 go_cut [54] from 21 to 54 (fun a wx => a = .bool false ∧ w = wx)
 case first =>
  go_wp2_with (go_at_call 95; refine (HLOW.out _).mono ?_; rintro en w2 ⟨rfl, hww⟩; obtain rfl := hww.symm)
  all_goals go_meet
  all_goals exact ⟨rfl, rfl⟩
 obtain ⟨rfl, rfl⟩ := hcut
 go_wp2_with (fail)
 go_step3
 go_wp2_with (fail)
 go_loopw [2, 5, 7, 9, 13, 14, 15, 16, 17] (fun m tr i und dot dig nd ndm dp wr => RFrel I F 1 M w m tr i und dot dig nd ndm dp wr) (fun _ _ i _ _ _ _ _ _ _ => 2000000 - natOf i)
 all_goals first
  | (case atStart => exact ⟨0, 1, 0, 0, false, false, 0, rfl, rfl, rfl, rfl, rfl, rfl, rfl, rfl, rfl, rfl, rfl, by omega, Fl.RF.start I F⟩)
  | skip
 case round =>
  obtain ⟨k, p, mant, n, b1, b2, q, rfl, rfl, rfl, rfl, rfl, rfl, rfl, rfl, rfl, rfl, hpk, hkM, hrf⟩ := hrel
  obtain ⟨m1, m2, m3, m4, m5⟩ := hrf.room HI.out HF.out (by rw [HV.out]; exact HB.out)
  obtain ⟨hq1, hq2⟩ := rf_q hrf m2
  have hML := HML.out
  have hN := HN.out
  have hkq : (k : Int) ≤ 1000001 := by omega
  rcases Nat.lt_or_ge k M with hk | hk
  · have hkb : k < (Fl.body I F).length := by rw [HM.out]; exact hk
    have hst := hrf.step HI0.out HI.out HF.out (by rw [HV.out]; exact HB.out) hkb
    have hchk := HBO.out k hkb
    rw [show 1 + k = p by omega] at hchk
    have hpN : (p : Int) < (N : Int) := by omega
    have hpl : (p : Int) < 1100000 := by omega
    have hxc := HAT.out p (by omega)
    obtain ⟨c8, hc8⟩ : ∃ c8, (Fl.body I F)[k] = c8 := ⟨_, rfl⟩
    rw [hc8] at hst hchk
    obtain ⟨c, hcb⟩ : ∃ c, c8.toNat = c := ⟨_, rfl⟩
    rw [hchk, hcb] at hxc
    have HPK := Lib.hid hpk
    have hq1 : -1000001 ≤ q := by omega
    clear hrf hchk hc8 hkb hkM hpk hN hML m4 m5 hkq
    rcases hst with ⟨e46, rfl, hr⟩ | hst
    · obtain rfl : c = 46 := by rw [← hcb, e46]; rfl
      have HR := Lib.hid hr
      clear hr hcb e46
      go_wp2_with (fail)
      go_roundw
      case rel => exact ⟨k + 1, p + 1, mant, n, true, b2, (n : Int), by first | rfl | (congr 1; omega), rfl, by congr 1, rfl, by first | rfl | (congr 1), rfl, by first | rfl | (congr 1), by first | rfl | (congr 1), by first | rfl | (congr 1), rfl, by have := HPK.out; omega, by omega, HR.out⟩
      case measure => have := HPK.out; have := HML.out; simp [natOf]; omega
    · have HRS := Lib.hid hst
      clear hst
      have hd := HRS.out
      obtain ⟨d1, d2, d3⟩ := hd
      obtain ⟨dl, dh⟩ := d1
      have hcz : c = 48 → c8 = 48 := fun e => UInt8.toNat_inj.1 (by rw [hcb, e]; rfl)
      have hcb48 : c8 = 48 → c = 48 := fun e => by rw [← hcb, e]; rfl
      rw [hcb] at dl dh
      have d2 := Lib.hid d2
      have d3 := Lib.hid d3
      have q95 : ((c : Int) == 95) = false := by simp; omega
      have q46 : ((c : Int) == 46) = false := by simp; omega
      have l48 : (48 : Int) ≤ (c : Int) := by omega
      have l57 : (c : Int) ≤ 57 := by omega
      rcases Nat.eq_zero_or_pos n with hn0 | hn0
      · subst hn0
        by_cases h48 : c = 48
        · subst h48
          have hr := d2.out ⟨rfl, hcz rfl⟩
          have HR := Lib.hid hr
          clear hr d2 d3 HRS
          go_wp2_with (fail)
          go_roundw
          case rel => exact ⟨k + 1, p + 1, mant, 0, b1, true, (q - 1), by first | rfl | (congr 1; omega), rfl, by congr 1, rfl, by first | rfl | (congr 1), rfl, by first | rfl | (congr 1), by first | rfl | (congr 1), by first | rfl | (congr 1), rfl, by have := HPK.out; omega, by omega, HR.out⟩
          case measure => have := HPK.out; have := HML.out; simp [natOf]; omega
        · have q48 : ((c : Int) == 48) = false := by simp; omega
          have hr := d3.out (by intro h; exact absurd (hcb48 h.2) h48)
          rw [hcb] at hr
          obtain ⟨hn18, hmb, hr⟩ := hr
          have HR := Lib.hid hr
          have n19 : ((0 : Nat) : Int) < 19 := by omega
          have m10 : (mant : Int) * 10 < 18446744073709551616 := by omega
          have msum : (mant : Int) * 10 + ((c : Int) - 48) < 18446744073709551616 := by omega
          have c48 : (0 : Int) ≤ (c : Int) - 48 := by omega
          clear hr d2 d3 HRS
          go_wp2_with (fail)
          go_roundw
          case rel => exact ⟨k + 1, p + 1, (mant * 10 + (c - 48)), (0 + 1), b1, true, q, by first | rfl | (congr 1; omega), rfl, by congr 1, rfl, by first | rfl | (congr 1), rfl, by first | rfl | (congr 1), by first | rfl | (congr 1), by first | rfl | (congr 1), rfl, by have := HPK.out; omega, by omega, HR.out⟩
          case measure => have := HPK.out; have := HML.out; simp [natOf]; omega
      · have qn : ((n : Int) == 0) = false := by simp; omega
        by_cases h48 : c = 48
        · subst h48
          have hr := d3.out (by omega)
          rw [hcb] at hr
          obtain ⟨hn18, hmb, hr⟩ := hr
          have HR := Lib.hid hr
          have n19 : ((n : Nat) : Int) < 19 := by omega
          have m10 : (mant : Int) * 10 < 18446744073709551616 := by omega
          have msum : (mant : Int) * 10 + (48 - 48) < 18446744073709551616 := by omega
          have c48 : (0 : Int) ≤ 48 - 48 := by omega
          clear hr d2 d3 HRS
          go_wp2_with (fail)
          go_roundw
          case rel => exact ⟨k + 1, p + 1, (mant * 10 + (48 - 48)), (n + 1), b1, true, q, by first | rfl | (congr 1; omega), rfl, by congr 1, rfl, by first | rfl | (congr 1), rfl, by first | rfl | (congr 1), by first | rfl | (congr 1), by first | rfl | (congr 1), rfl, by have := HPK.out; omega, by omega, HR.out⟩
          case measure => have := HPK.out; have := HML.out; simp [natOf]; omega
        · have q48 : ((c : Int) == 48) = false := by simp; omega
          have hr := d3.out (by omega)
          rw [hcb] at hr
          obtain ⟨hn18, hmb, hr⟩ := hr
          have HR := Lib.hid hr
          have n19 : ((n : Nat) : Int) < 19 := by omega
          have m10 : (mant : Int) * 10 < 18446744073709551616 := by omega
          have msum : (mant : Int) * 10 + ((c : Int) - 48) < 18446744073709551616 := by omega
          have c48 : (0 : Int) ≤ (c : Int) - 48 := by omega
          clear hr d2 d3 HRS
          go_wp2_with (fail)
          go_roundw
          case rel => exact ⟨k + 1, p + 1, (mant * 10 + (c - 48)), (n + 1), b1, true, q, by first | rfl | (congr 1; omega), rfl, by congr 1, rfl, by first | rfl | (congr 1), rfl, by first | rfl | (congr 1), by first | rfl | (congr 1), by first | rfl | (congr 1), rfl, by have := HPK.out; omega, by omega, HR.out⟩
          case measure => have := HPK.out; have := HML.out; simp [natOf]; omega
  · obtain rfl : k = M := by omega
    have hdone := by
     have h := hrf
     rw [← HM.out] at h
     exact h.done HI0.out
    rw [HV.out] at hdone
    obtain ⟨rfl, rfl, hdot⟩ := hdone
    clear hrf m1 m3
    have HEXP := Lib.hid hdot
    clear hdot
    have hpN : (p : Int) < (N : Int) := by have := HJ1.out; omega
    have hpe : p = 1 + k := by omega
    have hxe := HAT.out p (by omega)
    rw [hpe, HE1.out, ← hpe, show (((101 : Nat)) : Int) = 101 from rfl] at hxe
    have hxs := HAT.out (p + 1) (by have := HJ1.out; omega)
    rw [show p + 1 = 1 + k + 1 by omega, HE2.out] at hxs
    obtain ⟨pa, hpa⟩ : ∃ pa : Nat, p + 1 = pa := ⟨_, rfl⟩
    obtain ⟨pb, hpb⟩ : ∃ pb : Nat, pa + 1 = pb := ⟨_, rfl⟩
    rw [show ((1 + k + 1 : Nat) : Int) = (pa : Int) by omega] at hxs
    have hx2 := HAT.out (p + 2) (by have := HJ1.out; omega)
    obtain ⟨f0, hf0⟩ : ∃ f0, ch (p + 2) = f0 := ⟨_, rfl⟩
    have hf0d : 48 ≤ f0 ∧ f0 ≤ 57 := by
     have h1 := HED.out 0 (by rw [HJ.out]; exact HJ1.out)
     rw [show 1 + k + 2 + 0 = p + 2 by omega, hf0] at h1
     have h2 := HDS.out _ (List.getElem_mem (by rw [HJ.out]; exact HJ1.out : 0 < ds.length))
     rw [h1]; exact h2
    rw [hf0, show ((p + 2 : Nat) : Int) = (pb : Int) by omega] at hx2
    obtain ⟨f1, f2⟩ := hf0d
    have p1N : ¬ (N : Int) ≤ (pa : Int) := by have := HJ1.out; omega
    have p2N : ¬ (N : Int) ≤ (pb : Int) := by have := HJ1.out; omega
    have hwb : (pa : Int) + 1 = (pb : Int) := by omega
    have hwa : (p : Int) + 1 = (pa : Int) := by omega
    have hpl : (p : Int) < 1100000 := by omega
    have HPB : Hid (pb = p + 2) := by show _ = _; omega
    have HPE := Lib.hid hpe
    have P1N := Lib.hid p1N
    have P2N := Lib.hid p2N
    have HWA := Lib.hid hwa
    have HWB := Lib.hid hwb
    clear hk hkM hpk hN hML hf0 hpe m4 m5 hpa hpb p1N p2N hwa hwb
    rcases HEV.out with ⟨rfl, rfl⟩ | ⟨rfl, rfl⟩ <;> cases b1
    all_goals
     first | rw [show (((43 : Nat)) : Int) = 43 from rfl] at hxs | rw [show (((45 : Nat)) : Int) = 45 from rfl] at hxs
     go_upto_region 58 with (go_at_call 95; refine (lower_101 _).mono ?_; rintro en w2 ⟨rfl, hww⟩; obtain rfl := hww.symm)
     clear hpN hxe
     have hwa := HWA.out
     go_upto_region 59 with (fail)
     clear hwa hpl
     have p1N := P1N.out
     go_upto_region 60 with (fail)
     clear p1N
     have hwb := HWB.out
     have hpal : (pa : Int) < 1200000 := by have := HML.out; have := HPE.out; have := HPB.out; omega
     go_upto_region 67 with (fail)
     clear hwb hpal hxs
     have p2N := P2N.out
     go_upto_region 68 with (fail)
     clear p2N hx2 f1 f2
     go_wp2_with (fail)
     go_loopw [7, 9, 20] (fun i und e wx => EXrel ds (1 + k + 2) J wr i und e wx) (fun i _ _ _ => 2000000 - natOf i)
     case atStart => exact ⟨0, pb, rfl, rfl, rfl, rfl, by have := HPE.out; have := HPB.out; omega, Nat.zero_le _⟩
     case round =>
      obtain ⟨j, pi, rfl, rfl, rfl, rfl, hpi, hjJ⟩ := hrel
      have hJe := HJ.out
      obtain ⟨ev, hev⟩ : ∃ ev, Fl.nval (ds.take j) = ev := ⟨_, rfl⟩
      have hML := HML.out
      have hN := HN.out
      have hJ4 := HJ4.out
      rw [hev]
      rcases Nat.lt_or_ge j J with hj | hj
      · have hjd : j < ds.length := by omega
        have hdj := HED.out j hjd
        obtain ⟨c8, hc8⟩ : ∃ c8, ds[j] = c8 := ⟨_, rfl⟩
        have hdg : Fl.isDig c8 := by rw [← hc8]; exact HDS.out _ (List.getElem_mem hjd)
        have hdt : ds = ds.take j ++ c8 :: ds.drop (j + 1) := by rw [← hc8, ← List.drop_eq_getElem_cons hjd, List.take_append_drop]
        have hst := Fl.exp_step (ds.take j) (ds.drop (j + 1)) c8 (by rw [← hdt]; exact HDS.out) (by rw [← hdt]; omega)
        have htk : ds.take (j + 1) = ds.take j ++ [c8] := by rw [List.take_succ_eq_append_getElem hjd, hc8]
        rw [← htk, hev] at hst
        obtain ⟨he1, he2⟩ := hst
        have HE2' := Lib.hid he2
        obtain ⟨c, hcb⟩ : ∃ c, c8.toNat = c := ⟨_, rfl⟩
        obtain ⟨f1, f2⟩ := hdg
        rw [hc8] at hdj
        rw [hcb] at f1 f2 hdj HE2'
        have hxc := HAT.out pi (by omega)
        rw [hpi, hdj, ← hpi] at hxc
        have hpN : (pi : Int) < (N : Int) := by omega
        have hpl : (pi : Int) < 1300000 := by omega
        have q95 : ((c : Int) == 95) = false := by simp; omega
        have l48 : (48 : Int) ≤ (c : Int) := by omega
        have l57 : (c : Int) ≤ 57 := by omega
        have e4 : (ev : Int) < 10000 := by omega
        have c48 : (0 : Int) ≤ (ev : Int) * 10 + (c : Int) - 48 := by omega
        have HPI := Lib.hid hpi
        clear hpi hjd hdt htk hJe hML hN hJ4 he1 he2 hc8 hcb hdj hev f1 f2
        go_wp2_with (fail)
        go_roundw
        case rel => exact ⟨j + 1, pi + 1, by congr 1, rfl, by rw [HE2'.out]; congr 1; omega, rfl, by have := HPI.out; omega, by omega⟩
        case measure => have := HPI.out; have := HML.out; have := HJ4.out; simp [natOf]; omega
      · obtain rfl : j = J := by omega
        have hevn : Fl.nval ds = ev := by rw [← hev, ← hJe, List.take_length]
        have hlt := Fl.nval_lt ds HDS.out
        have hp4 : 10 ^ ds.length ≤ 10 ^ 4 := Nat.pow_le_pow_right (by omega) (by omega)
        have hevb : ev < 10000 := by omega
        have hpN : pi = N := by omega
        subst hpN
        have hpn : ¬ (pi : Int) < (pi : Int) := by omega
        rw [hevn] at HEX
        clear hev hevn hlt hp4 hML hN hJ4 hpi hjJ hj hJe
        by_cases hm0 : mant = 0
        · subst hm0
          go_wp2_with (fail)
          (try simp only [Exit.inBlock, Exit.then])
          refine bodyPost_ret (results_tmp7 rfl _ _ _) rfl ?_
          have hE := HEX.out
          have hD := HEXP.out
          refine ⟨?_, rfl⟩
          simp at hE
          rcases hD with ⟨hb1, hD⟩ | ⟨hb1, hD⟩
          · first | exact absurd hb1 (by decide) | (simp; omega)
          · first | exact absurd hb1 (by decide) | (simp; omega)
        · have hmi : ((mant : Int) == 0) = false := by simp; omega
          have HMN : Hid (mant ≠ 0) := hm0
          clear hm0
          go_wp2_with (fail)
          (try simp only [Exit.inBlock, Exit.then])
          refine bodyPost_ret (results_tmp7 rfl _ _ _) rfl ?_
          have hE := HEX.out
          have hD := HEXP.out
          refine ⟨?_, rfl⟩
          rw [if_neg HMN.out] at hE
          rcases hD with ⟨hb1, hD⟩ | ⟨hb1, hD⟩
          · first | exact absurd hb1 (by decide) | (simp; omega)
          · first | exact absurd hb1 (by decide) | (simp; omega)
end Go.Proofs.YtonegoemmologaaGreatDoor
