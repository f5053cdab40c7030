/-
  readFloat at a text of a number: its digits as one number, its power of ten.
  readFloat at a text of a number: without a sign, without a power.
-/
import Derived.Test.YtonegoemmologaaGreatDoorM01
import Derived.Test.YtonegoemmologaaGreatDoorM10
import Derived.Test.YtonegoemmologaaGreatDoorM06
import Derived.Deep.DeepCutAuto
import Derived.WalkMore
import Derived.BigQuiet
set_option linter.unusedVariables false
set_option linter.unusedSimpArgs false
namespace Go.Proofs.YtonegoemmologaaGreatDoor
open Go.RowKit
set_option maxRecDepth 1000000 in
set_option maxHeartbeats 40000000 in
theorem lower_any (c : Nat) (hc : c < 256) (h : (48 ≤ c ∧ c ≤ 57) ∨ c = 46 ∨ c = 101) (w : World) : Calls Tryz.prog 95 #[.int .u8 (c : Int)] w fun e w' => e = .returned (.int .u8 (c : Int)) ∧ w' = w := by
 have hor : bits .or .u8 (c : Int) 32 = (c : Int) := by
  have hcases : c = 46 ∨ c = 48 ∨ c = 49 ∨ c = 50 ∨ c = 51 ∨ c = 52 ∨ c = 53 ∨ c = 54 ∨ c = 55 ∨ c = 56 ∨ c = 57 ∨ c = 101 := by omega
  rcases hcases with rfl | rfl | rfl | rfl | rfl | rfl | rfl | rfl | rfl | rfl | rfl | rfl <;> decide
 go_enter Tryz.func95, Tryz.ntmps95
 go_wp2_with (fail)
 go_ret
 exact ⟨by first | rfl | rw [hor] | simp [hor], rfl⟩
theorem rf_q {I F : List UInt8} {k mant n : Nat} {dot dig : Bool} {q : Int} (h : Fl.RF I F k mant n dot dig q) (hn : n ≤ 19) : -(k : Int) ≤ q ∧ q ≤ 19 := by
 rcases h with ⟨_, _, _, _, _, h1, h2⟩ | ⟨j, h1, _, _, _, _, _, h2⟩ <;> omega
theorem lower_101 (w : World) : Calls Tryz.prog 95 #[.int .u8 101] w fun e w' => e = .returned (.int .u8 101) ∧ w' = w := lower_any 101 (by decide) (by decide) w
theorem results_tmp7 {fn : Func} {a b c d e f g : Tmp} (h : fn.results = #[.tmp a, .tmp b, .tmp c, .tmp d, .tmp e, .tmp f, .tmp g]) (tmps : Array Value) (P : Program) (w : World) :
 (results fn tmps).run P w = .ok (.tuple #[tmps.getD a undef, tmps.getD b undef, tmps.getD c undef, tmps.getD d undef, tmps.getD e undef, tmps.getD f undef, tmps.getD g undef]) w := by
 simp [results, h]
def natOf : Value → Nat
 | .int _ n => n.toNat
 | _ => 0
def EXrel (ds : List UInt8) (a J : Nat) (w : World) (i und e : Value) (wx : World) : Prop :=
 ∃ (j p : Nat), i = .int .i64 (p : Int) ∧ und = .bool false ∧ e = .int .i64 ((Fl.nval (ds.take j) : Nat) : Int) ∧ w = wx ∧ p = a + j ∧ j ≤ J
def RFrel (I F : List UInt8) (p0 M : Nat) (w : World) (m tr i und dot dig nd ndm dp : Value) (wr : World) : Prop :=
 ∃ (k p mant n : Nat) (b1 b2 : Bool) (q : Int), m = .int .u64 (mant : Int) ∧ tr = .bool false ∧ i = .int .i64 (p : Int) ∧ und = .bool false ∧ dot = .bool b1 ∧ dig = .bool b2 ∧ nd = .int .i64 (n : Int) ∧ ndm = .int .i64 (n : Int) ∧ dp = .int .i64 q ∧ wr = w ∧ p = p0 + k ∧ k ≤ M ∧ Fl.RF I F k mant n b1 b2 q
end Go.Proofs.YtonegoemmologaaGreatDoor
namespace Go.Proofs.YtonegoemmologaaGreatDoor
open Go.RowKit
set_option maxRecDepth 1000000 in
set_option maxHeartbeats 40000000 in
theorem rf_false_short (s : ByteArray) (N M : Nat) (ch : Nat → Nat) (I F : List UInt8) (hsz : (s.size : Int) = (N : Int)) (hat : ∀ k, k < N → ∀ w', (Instr.index 9 (.string s) (.int .i64 (k : Int))).run Tryz.prog w' = .ok (.int .u8 (ch k : Int)) w')
 (hM : (Fl.body I F).length = M) (hM1 : 1 ≤ M) (hMl : M ≤ 1000001) (hbody : ∀ k (h : k < (Fl.body I F).length), ch (0 + k) = ((Fl.body I F)[k]).toNat) (hch0 : 48 ≤ ch 0 ∧ ch 0 ≤ 57) (hch1 : 0 + 1 < N → ch (0 + 1) < 256 ∧ ((48 ≤ ch (0 + 1) ∧ ch (0 + 1) ≤ 57) ∨ ch (0 + 1) = 46 ∨ ch (0 + 1) = 101))
 (hI0 : I ≠ []) (hI : ∀ c ∈ I, Fl.isDig c) (hF : ∀ c ∈ F, Fl.isDig c) (hb : Fl.nval (I ++ F) < 10 ^ 19) (hN : N = 0 + M) (hsh : N ≤ 0 + 2) (w : World) :
 Calls Tryz.prog 154 #[.string s] w fun en w' => en = .returned (.tuple #[.int .u64 (Fl.nval (I ++ F) : Int), .int .i64 (if Fl.nval (I ++ F) = 0 then 0 else (0 : Int) - (F.length : Int)), .bool false, .bool false, .bool false, .int .i64 (N : Int), .bool true]) ∧ w' = w := by
 obtain ⟨ex, hex⟩ : ∃ ex : Int, (if Fl.nval (I ++ F) = 0 then 0 else (0 : Int) - (F.length : Int)) = ex := ⟨_, rfl⟩
 obtain ⟨V, hV⟩ : ∃ V, Fl.nval (I ++ F) = V := ⟨_, rfl⟩
 rw [hex, hV]
 rw [hV] at hex hb
 have hN0 : (0 : Int) < (N : Int) := by omega
 have hx0 : ∀ w', (Instr.index 9 (.string s) (.int .i64 0)).run Tryz.prog w' = .ok (.int .u8 (ch 0 : Int)) w' := hat 0 (by omega)
 obtain ⟨c0, hc0⟩ : ∃ c, ch 0 = c := ⟨_, rfl⟩
 have hxp : ∀ w', (Instr.index 9 (.string s) (.int .i64 0)).run Tryz.prog w' = .ok (.int .u8 (ch 0 : Int)) w' := hat 0 (by omega)
 rw [hc0] at hxp hch0
 clear hx0
 have q43 : ((c0 : Int) == 43) = false := by simp; omega
 have q45 : ((c0 : Int) == 45) = false := by simp; omega
 obtain ⟨g1, g2⟩ := hch0
 have n2 : ¬ (2 : Int) < (N : Int) := by omega
 clear hch1
 clear hc0
 have HAT := Lib.hid hat
 have HM := Lib.hid hM
 have HB := Lib.hid hb
 have HBO := Lib.hid hbody
 have HI := Lib.hid hI
 have HF := Lib.hid hF
 have HI0 := Lib.hid hI0
 have HM1 := Lib.hid hM1
 have HML := Lib.hid hMl
 have HN := Lib.hid hN
 have HEX := Lib.hid hex
 have HV := Lib.hid hV
 clear hex hV hat hM hb hbody hI hF hI0 hM1 hMl hN
 go_enter Tryz.func154, Tryz.ntmps154
 go_wp2_with (fail)
 go_step3
 go_upto_region 12 with (fail)
 go_cut [54] from 21 to 54 (fun a wx => a = .bool false ∧ w = wx)
 case first =>
  go_wp2_with (fail)
  all_goals go_meet
  all_goals exact ⟨rfl, rfl⟩
 obtain ⟨rfl, rfl⟩ := hcut
 go_wp2_with (fail)
 go_step3
 go_wp2_with (fail)
 go_loopw [2, 5, 7, 9, 13, 14, 15, 16, 17] (fun m tr i und dot dig nd ndm dp wr => RFrel I F 0 M w m tr i und dot dig nd ndm dp wr) (fun _ _ i _ _ _ _ _ _ _ => 2000000 - natOf i)
 all_goals first
  | (case atStart => exact ⟨0, 0, 0, 0, false, false, 0, rfl, rfl, rfl, rfl, rfl, rfl, rfl, rfl, rfl, rfl, rfl, by omega, Fl.RF.start I F⟩)
  | skip
 case round =>
  obtain ⟨k, p, mant, n, b1, b2, q, rfl, rfl, rfl, rfl, rfl, rfl, rfl, rfl, rfl, rfl, hpk, hkM, hrf⟩ := hrel
  obtain ⟨m1, m2, m3, m4, m5⟩ := hrf.room HI.out HF.out (by rw [HV.out]; exact HB.out)
  obtain ⟨hq1, hq2⟩ := rf_q hrf m2
  have hML := HML.out
  have hN := HN.out
  have hkq : (k : Int) ≤ 1000001 := by omega
  rcases Nat.lt_or_ge k M with hk | hk
  · have hkb : k < (Fl.body I F).length := by rw [HM.out]; exact hk
    have hst := hrf.step HI0.out HI.out HF.out (by rw [HV.out]; exact HB.out) hkb
    have hchk := HBO.out k hkb
    rw [show 0 + k = p by omega] at hchk
    have hpN : (p : Int) < (N : Int) := by omega
    have hpl : (p : Int) < 1100000 := by omega
    have hxc := HAT.out p (by omega)
    obtain ⟨c8, hc8⟩ : ∃ c8, (Fl.body I F)[k] = c8 := ⟨_, rfl⟩
    rw [hc8] at hst hchk
    obtain ⟨c, hcb⟩ : ∃ c, c8.toNat = c := ⟨_, rfl⟩
    rw [hchk, hcb] at hxc
    have HPK := Lib.hid hpk
    have hq1 : -1000001 ≤ q := by omega
    clear hrf hchk hc8 hkb hkM hpk hN hML m4 m5 hkq
    rcases hst with ⟨e46, rfl, hr⟩ | hst
    · obtain rfl : c = 46 := by rw [← hcb, e46]; rfl
      have HR := Lib.hid hr
      clear hr hcb e46
      go_wp2_with (fail)
      go_roundw
      case rel => exact ⟨k + 1, p + 1, mant, n, true, b2, (n : Int), by first | rfl | (congr 1; omega), rfl, by congr 1, rfl, by first | rfl | (congr 1), rfl, by first | rfl | (congr 1), by first | rfl | (congr 1), by first | rfl | (congr 1), rfl, by have := HPK.out; omega, by omega, HR.out⟩
      case measure => have := HPK.out; have := HML.out; simp [natOf]; omega
    · have HRS := Lib.hid hst
      clear hst
      have hd := HRS.out
      obtain ⟨d1, d2, d3⟩ := hd
      obtain ⟨dl, dh⟩ := d1
      have hcz : c = 48 → c8 = 48 := fun e => UInt8.toNat_inj.1 (by rw [hcb, e]; rfl)
      have hcb48 : c8 = 48 → c = 48 := fun e => by rw [← hcb, e]; rfl
      rw [hcb] at dl dh
      have d2 := Lib.hid d2
      have d3 := Lib.hid d3
      have q95 : ((c : Int) == 95) = false := by simp; omega
      have q46 : ((c : Int) == 46) = false := by simp; omega
      have l48 : (48 : Int) ≤ (c : Int) := by omega
      have l57 : (c : Int) ≤ 57 := by omega
      rcases Nat.eq_zero_or_pos n with hn0 | hn0
      · subst hn0
        by_cases h48 : c = 48
        · subst h48
          have hr := d2.out ⟨rfl, hcz rfl⟩
          have HR := Lib.hid hr
          clear hr d2 d3 HRS
          go_wp2_with (fail)
          go_roundw
          case rel => exact ⟨k + 1, p + 1, mant, 0, b1, true, (q - 1), by first | rfl | (congr 1; omega), rfl, by congr 1, rfl, by first | rfl | (congr 1), rfl, by first | rfl | (congr 1), by first | rfl | (congr 1), by first | rfl | (congr 1), rfl, by have := HPK.out; omega, by omega, HR.out⟩
          case measure => have := HPK.out; have := HML.out; simp [natOf]; omega
        · have q48 : ((c : Int) == 48) = false := by simp; omega
          have hr := d3.out (by intro h; exact absurd (hcb48 h.2) h48)
          rw [hcb] at hr
          obtain ⟨hn18, hmb, hr⟩ := hr
          have HR := Lib.hid hr
          have n19 : ((0 : Nat) : Int) < 19 := by omega
          have m10 : (mant : Int) * 10 < 18446744073709551616 := by omega
          have msum : (mant : Int) * 10 + ((c : Int) - 48) < 18446744073709551616 := by omega
          have c48 : (0 : Int) ≤ (c : Int) - 48 := by omega
          clear hr d2 d3 HRS
          go_wp2_with (fail)
          go_roundw
          case rel => exact ⟨k + 1, p + 1, (mant * 10 + (c - 48)), (0 + 1), b1, true, q, by first | rfl | (congr 1; omega), rfl, by congr 1, rfl, by first | rfl | (congr 1), rfl, by first | rfl | (congr 1), by first | rfl | (congr 1), by first | rfl | (congr 1), rfl, by have := HPK.out; omega, by omega, HR.out⟩
          case measure => have := HPK.out; have := HML.out; simp [natOf]; omega
      · have qn : ((n : Int) == 0) = false := by simp; omega
        by_cases h48 : c = 48
        · subst h48
          have hr := d3.out (by omega)
          rw [hcb] at hr
          obtain ⟨hn18, hmb, hr⟩ := hr
          have HR := Lib.hid hr
          have n19 : ((n : Nat) : Int) < 19 := by omega
          have m10 : (mant : Int) * 10 < 18446744073709551616 := by omega
          have msum : (mant : Int) * 10 + (48 - 48) < 18446744073709551616 := by omega
          have c48 : (0 : Int) ≤ 48 - 48 := by omega
          clear hr d2 d3 HRS
          go_wp2_with (fail)
          go_roundw
          case rel => exact ⟨k + 1, p + 1, (mant * 10 + (48 - 48)), (n + 1), b1, true, q, by first | rfl | (congr 1; omega), rfl, by congr 1, rfl, by first | rfl | (congr 1), rfl, by first | rfl | (congr 1), by first | rfl | (congr 1), by first | rfl | (congr 1), rfl, by have := HPK.out; omega, by omega, HR.out⟩
          case measure => have := HPK.out; have := HML.out; simp [natOf]; omega
        · have q48 : ((c : Int) == 48) = false := by simp; omega
          have hr := d3.out (by omega)
          rw [hcb] at hr
          obtain ⟨hn18, hmb, hr⟩ := hr
          have HR := Lib.hid hr
          have n19 : ((n : Nat) : Int) < 19 := by omega
          have m10 : (mant : Int) * 10 < 18446744073709551616 := by omega
          have msum : (mant : Int) * 10 + ((c : Int) - 48) < 18446744073709551616 := by omega
          have c48 : (0 : Int) ≤ (c : Int) - 48 := by omega
          clear hr d2 d3 HRS
          go_wp2_with (fail)
          go_roundw
          case rel => exact ⟨k + 1, p + 1, (mant * 10 + (c - 48)), (n + 1), b1, true, q, by first | rfl | (congr 1; omega), rfl, by congr 1, rfl, by first | rfl | (congr 1), rfl, by first | rfl | (congr 1), by first | rfl | (congr 1), by first | rfl | (congr 1), rfl, by have := HPK.out; omega, by omega, HR.out⟩
          case measure => have := HPK.out; have := HML.out; simp [natOf]; omega
  · obtain rfl : k = M := by omega
    have hdone := by
     have h := hrf
     rw [← HM.out] at h
     exact h.done HI0.out
    rw [HV.out] at hdone
    obtain ⟨rfl, rfl, hdot⟩ := hdone
    clear hrf m1 m3
    have HEXP := Lib.hid hdot
    clear hdot
    have hpN : p = N := by omega
    subst hpN
    have hpn : ¬ (p : Int) < (p : Int) := by omega
    clear hk hkM hpk hN hML
    by_cases hm0 : mant = 0
    · subst hm0
      cases b1
      · go_wp2_with (fail)
        (try simp only [Exit.inBlock, Exit.then])
        refine bodyPost_ret (results_tmp7 rfl _ _ _) rfl ?_
        have hE := HEX.out
        have hD := HEXP.out
        refine ⟨?_, rfl⟩
        simp at hE
        rcases hD with ⟨hb1, hD⟩ | ⟨hb1, hD⟩
        · first | exact absurd hb1 (by decide) | (simp; omega)
        · first | exact absurd hb1 (by decide) | (simp; omega)
      · go_wp2_with (fail)
        (try simp only [Exit.inBlock, Exit.then])
        refine bodyPost_ret (results_tmp7 rfl _ _ _) rfl ?_
        have hE := HEX.out
        have hD := HEXP.out
        refine ⟨?_, rfl⟩
        simp at hE
        rcases hD with ⟨hb1, hD⟩ | ⟨hb1, hD⟩
        · first | exact absurd hb1 (by decide) | (simp; omega)
        · first | exact absurd hb1 (by decide) | (simp; omega)
    · have hmi : ((mant : Int) == 0) = false := by simp; omega
      have HMN : Hid (mant ≠ 0) := hm0
      clear hm0
      cases b1
      · go_wp2_with (fail)
        (try simp only [Exit.inBlock, Exit.then])
        refine bodyPost_ret (results_tmp7 rfl _ _ _) rfl ?_
        have hE := HEX.out
        have hD := HEXP.out
        refine ⟨?_, rfl⟩
        rw [if_neg HMN.out] at hE
        rcases hD with ⟨hb1, hD⟩ | ⟨hb1, hD⟩
        · first | exact absurd hb1 (by decide) | (simp; omega)
        · first | exact absurd hb1 (by decide) | (simp; omega)
      · go_wp2_with (fail)
        (try simp only [Exit.inBlock, Exit.then])
        refine bodyPost_ret (results_tmp7 rfl _ _ _) rfl ?_
        have hE := HEX.out
        have hD := HEXP.out
        refine ⟨?_, rfl⟩
        rw [if_neg HMN.out] at hE
        rcases hD with ⟨hb1, hD⟩ | ⟨hb1, hD⟩
        · first | exact absurd hb1 (by decide) | (simp; omega)
        · first | exact absurd hb1 (by decide) | (simp; omega)
set_option maxRecDepth 1000000 in
set_option maxHeartbeats 40000000 in
theorem rf_false_long (s : ByteArray) (N M : Nat) (ch : Nat → Nat) (I F : List UInt8) (hsz : (s.size : Int) = (N : Int)) (hat : ∀ k, k < N → ∀ w', (Instr.index 9 (.string s) (.int .i64 (k : Int))).run Tryz.prog w' = .ok (.int .u8 (ch k : Int)) w')
 (hM : (Fl.body I F).length = M) (hM1 : 1 ≤ M) (hMl : M ≤ 1000001) (hbody : ∀ k (h : k < (Fl.body I F).length), ch (0 + k) = ((Fl.body I F)[k]).toNat) (hch0 : 48 ≤ ch 0 ∧ ch 0 ≤ 57) (hch1 : 0 + 1 < N → ch (0 + 1) < 256 ∧ ((48 ≤ ch (0 + 1) ∧ ch (0 + 1) ≤ 57) ∨ ch (0 + 1) = 46 ∨ ch (0 + 1) = 101))
 (hI0 : I ≠ []) (hI : ∀ c ∈ I, Fl.isDig c) (hF : ∀ c ∈ F, Fl.isDig c) (hb : Fl.nval (I ++ F) < 10 ^ 19) (hN : N = 0 + M) (hlg : 0 + 2 < N) (w : World) :
 Calls Tryz.prog 154 #[.string s] w fun en w' => en = .returned (.tuple #[.int .u64 (Fl.nval (I ++ F) : Int), .int .i64 (if Fl.nval (I ++ F) = 0 then 0 else (0 : Int) - (F.length : Int)), .bool false, .bool false, .bool false, .int .i64 (N : Int), .bool true]) ∧ w' = w := by
 obtain ⟨ex, hex⟩ : ∃ ex : Int, (if Fl.nval (I ++ F) = 0 then 0 else (0 : Int) - (F.length : Int)) = ex := ⟨_, rfl⟩
 obtain ⟨V, hV⟩ : ∃ V, Fl.nval (I ++ F) = V := ⟨_, rfl⟩
 rw [hex, hV]
 rw [hV] at hex hb
 have hN0 : (0 : Int) < (N : Int) := by omega
 have hx0 : ∀ w', (Instr.index 9 (.string s) (.int .i64 0)).run Tryz.prog w' = .ok (.int .u8 (ch 0 : Int)) w' := hat 0 (by omega)
 obtain ⟨c0, hc0⟩ : ∃ c, ch 0 = c := ⟨_, rfl⟩
 have hxp : ∀ w', (Instr.index 9 (.string s) (.int .i64 0)).run Tryz.prog w' = .ok (.int .u8 (ch 0 : Int)) w' := hat 0 (by omega)
 rw [hc0] at hxp hch0
 clear hx0
 have q43 : ((c0 : Int) == 43) = false := by simp; omega
 have q45 : ((c0 : Int) == 45) = false := by simp; omega
 obtain ⟨g1, g2⟩ := hch0
 obtain ⟨d1, hd1⟩ : ∃ c, ch (0 + 1) = c := ⟨_, rfl⟩
 have hx1 : ∀ w', (Instr.index 9 (.string s) (.int .i64 1)).run Tryz.prog w' = .ok (.int .u8 (ch 1 : Int)) w' := hat 1 (by omega)
 have hch1 := hch1 (by omega)
 rw [hd1] at hch1
 have e1 : ch 1 = d1 := hd1
 rw [e1] at hx1
 have q120 : ((d1 : Int) == 120) = false := by simp; omega
 have HLOW : Hid (∀ w, Calls Tryz.prog 95 #[.int .u8 (d1 : Int)] w fun e w' => e = .returned (.int .u8 (d1 : Int)) ∧ w' = w) := fun w => lower_any d1 hch1.1 hch1.2 w
 have n2 : (2 : Int) < (N : Int) := by omega
 clear hch1 hd1 e1
 clear hc0
 have HAT := Lib.hid hat
 have HM := Lib.hid hM
 have HB := Lib.hid hb
 have HBO := Lib.hid hbody
 have HI := Lib.hid hI
 have HF := Lib.hid hF
 have HI0 := Lib.hid hI0
 have HM1 := Lib.hid hM1
 have HML := Lib.hid hMl
 have HN := Lib.hid hN
 have HEX := Lib.hid hex
 have HV := Lib.hid hV
 clear hex hV hat hM hb hbody hI hF hI0 hM1 hMl hN
 go_enter Tryz.func154, Tryz.ntmps154
 go_wp2_with (fail)
 go_step3
 go_upto_region 12 with (fail)
 go_cut [54] from 21 to 54 (fun a wx => a = .bool false ∧ w = wx)
 case first =>
  go_wp2_with (go_at_call 95; refine (HLOW.out _).mono ?_; rintro en w2 ⟨rfl, hww⟩; obtain rfl := hww.symm)
  all_goals go_meet
  all_goals exact ⟨rfl, rfl⟩
 obtain ⟨rfl, rfl⟩ := hcut
 go_wp2_with (fail)
 go_step3
 go_wp2_with (fail)
 go_loopw [2, 5, 7, 9, 13, 14, 15, 16, 17] (fun m tr i und dot dig nd ndm dp wr => RFrel I F 0 M w m tr i und dot dig nd ndm dp wr) (fun _ _ i _ _ _ _ _ _ _ => 2000000 - natOf i)
 all_goals first
  | (case atStart => exact ⟨0, 0, 0, 0, false, false, 0, rfl, rfl, rfl, rfl, rfl, rfl, rfl, rfl, rfl, rfl, rfl, by omega, Fl.RF.start I F⟩)
  | skip
 case round =>
  obtain ⟨k, p, mant, n, b1, b2, q, rfl, rfl, rfl, rfl, rfl, rfl, rfl, rfl, rfl, rfl, hpk, hkM, hrf⟩ := hrel
  obtain ⟨m1, m2, m3, m4, m5⟩ := hrf.room HI.out HF.out (by rw [HV.out]; exact HB.out)
  obtain ⟨hq1, hq2⟩ := rf_q hrf m2
  have hML := HML.out
  have hN := HN.out
  have hkq : (k : Int) ≤ 1000001 := by omega
  rcases Nat.lt_or_ge k M with hk | hk
  · have hkb : k < (Fl.body I F).length := by rw [HM.out]; exact hk
    have hst := hrf.step HI0.out HI.out HF.out (by rw [HV.out]; exact HB.out) hkb
    have hchk := HBO.out k hkb
    rw [show 0 + k = p by omega] at hchk
    have hpN : (p : Int) < (N : Int) := by omega
    have hpl : (p : Int) < 1100000 := by omega
    have hxc := HAT.out p (by omega)
    obtain ⟨c8, hc8⟩ : ∃ c8, (Fl.body I F)[k] = c8 := ⟨_, rfl⟩
    rw [hc8] at hst hchk
    obtain ⟨c, hcb⟩ : ∃ c, c8.toNat = c := ⟨_, rfl⟩
    rw [hchk, hcb] at hxc
    have HPK := Lib.hid hpk
    have hq1 : -1000001 ≤ q := by omega
    clear hrf hchk hc8 hkb hkM hpk hN hML m4 m5 hkq
    rcases hst with ⟨e46, rfl, hr⟩ | hst
    · obtain rfl : c = 46 := by rw [← hcb, e46]; rfl
      have HR := Lib.hid hr
      clear hr hcb e46
      go_wp2_with (fail)
      go_roundw
      case rel => exact ⟨k + 1, p + 1, mant, n, true, b2, (n : Int), by first | rfl | (congr 1; omega), rfl, by congr 1, rfl, by first | rfl | (congr 1), rfl, by first | rfl | (congr 1), by first | rfl | (congr 1), by first | rfl | (congr 1), rfl, by have := HPK.out; omega, by omega, HR.out⟩
      case measure => have := HPK.out; have := HML.out; simp [natOf]; omega
    · have HRS := Lib.hid hst
      clear hst
      have hd := HRS.out
      obtain ⟨d1, d2, d3⟩ := hd
      obtain ⟨dl, dh⟩ := d1
      have hcz : c = 48 → c8 = 48 := fun e => UInt8.toNat_inj.1 (by rw [hcb, e]; rfl)
      have hcb48 : c8 = 48 → c = 48 := fun e => by rw [← hcb, e]; rfl
      rw [hcb] at dl dh
      have d2 := Lib.hid d2
      have d3 := Lib.hid d3
      have q95 : ((c : Int) == 95) = false := by simp; omega
      have q46 : ((c : Int) == 46) = false := by simp; omega
      have l48 : (48 : Int) ≤ (c : Int) := by omega
      have l57 : (c : Int) ≤ 57 := by omega
      rcases Nat.eq_zero_or_pos n with hn0 | hn0
      · subst hn0
        by_cases h48 : c = 48
        · subst h48
          have hr := d2.out ⟨rfl, hcz rfl⟩
          have HR := Lib.hid hr
          clear hr d2 d3 HRS
          go_wp2_with (fail)
          go_roundw
          case rel => exact ⟨k + 1, p + 1, mant, 0, b1, true, (q - 1), by first | rfl | (congr 1; omega), rfl, by congr 1, rfl, by first | rfl | (congr 1), rfl, by first | rfl | (congr 1), by first | rfl | (congr 1), by first | rfl | (congr 1), rfl, by have := HPK.out; omega, by omega, HR.out⟩
          case measure => have := HPK.out; have := HML.out; simp [natOf]; omega
        · have q48 : ((c : Int) == 48) = false := by simp; omega
          have hr := d3.out (by intro h; exact absurd (hcb48 h.2) h48)
          rw [hcb] at hr
          obtain ⟨hn18, hmb, hr⟩ := hr
          have HR := Lib.hid hr
          have n19 : ((0 : Nat) : Int) < 19 := by omega
          have m10 : (mant : Int) * 10 < 18446744073709551616 := by omega
          have msum : (mant : Int) * 10 + ((c : Int) - 48) < 18446744073709551616 := by omega
          have c48 : (0 : Int) ≤ (c : Int) - 48 := by omega
          clear hr d2 d3 HRS
          go_wp2_with (fail)
          go_roundw
          case rel => exact ⟨k + 1, p + 1, (mant * 10 + (c - 48)), (0 + 1), b1, true, q, by first | rfl | (congr 1; omega), rfl, by congr 1, rfl, by first | rfl | (congr 1), rfl, by first | rfl | (congr 1), by first | rfl | (congr 1), by first | rfl | (congr 1), rfl, by have := HPK.out; omega, by omega, HR.out⟩
          case measure => have := HPK.out; have := HML.out; simp [natOf]; omega
      · have qn : ((n : Int) == 0) = false := by simp; omega
        by_cases h48 : c = 48
        · subst h48
          have hr := d3.out (by omega)
          rw [hcb] at hr
          obtain ⟨hn18, hmb, hr⟩ := hr
          have HR := Lib.hid hr
          have n19 : ((n : Nat) : Int) < 19 := by omega
          have m10 : (mant : Int) * 10 < 18446744073709551616 := by omega
          have msum : (mant : Int) * 10 + (48 - 48) < 18446744073709551616 := by omega
          have c48 : (0 : Int) ≤ 48 - 48 := by omega
          clear hr d2 d3 HRS
          go_wp2_with (fail)
          go_roundw
          case rel => exact ⟨k + 1, p + 1, (mant * 10 + (48 - 48)), (n + 1), b1, true, q, by first | rfl | (congr 1; omega), rfl, by congr 1, rfl, by first | rfl | (congr 1), rfl, by first | rfl | (congr 1), by first | rfl | (congr 1), by first | rfl | (congr 1), rfl, by have := HPK.out; omega, by omega, HR.out⟩
          case measure => have := HPK.out; have := HML.out; simp [natOf]; omega
        · have q48 : ((c : Int) == 48) = false := by simp; omega
          have hr := d3.out (by omega)
          rw [hcb] at hr
          obtain ⟨hn18, hmb, hr⟩ := hr
          have HR := Lib.hid hr
          have n19 : ((n : Nat) : Int) < 19 := by omega
          have m10 : (mant : Int) * 10 < 18446744073709551616 := by omega
          have msum : (mant : Int) * 10 + ((c : Int) - 48) < 18446744073709551616 := by omega
          have c48 : (0 : Int) ≤ (c : Int) - 48 := by omega
          clear hr d2 d3 HRS
          go_wp2_with (fail)
          go_roundw
          case rel => exact ⟨k + 1, p + 1, (mant * 10 + (c - 48)), (n + 1), b1, true, q, by first | rfl | (congr 1; omega), rfl, by congr 1, rfl, by first | rfl | (congr 1), rfl, by first | rfl | (congr 1), by first | rfl | (congr 1), by first | rfl | (congr 1), rfl, by have := HPK.out; omega, by omega, HR.out⟩
          case measure => have := HPK.out; have := HML.out; simp [natOf]; omega
  · obtain rfl : k = M := by omega
    have hdone := by
     have h := hrf
     rw [← HM.out] at h
     exact h.done HI0.out
    rw [HV.out] at hdone
    obtain ⟨rfl, rfl, hdot⟩ := hdone
    clear hrf m1 m3
    have HEXP := Lib.hid hdot
    clear hdot
    have hpN : p = N := by omega
    subst hpN
    have hpn : ¬ (p : Int) < (p : Int) := by omega
    clear hk hkM hpk hN hML
    by_cases hm0 : mant = 0
    · subst hm0
      cases b1
      · go_wp2_with (fail)
        (try simp only [Exit.inBlock, Exit.then])
        refine bodyPost_ret (results_tmp7 rfl _ _ _) rfl ?_
        have hE := HEX.out
        have hD := HEXP.out
        refine ⟨?_, rfl⟩
        simp at hE
        rcases hD with ⟨hb1, hD⟩ | ⟨hb1, hD⟩
        · first | exact absurd hb1 (by decide) | (simp; omega)
        · first | exact absurd hb1 (by decide) | (simp; omega)
      · go_wp2_with (fail)
        (try simp only [Exit.inBlock, Exit.then])
        refine bodyPost_ret (results_tmp7 rfl _ _ _) rfl ?_
        have hE := HEX.out
        have hD := HEXP.out
        refine ⟨?_, rfl⟩
        simp at hE
        rcases hD with ⟨hb1, hD⟩ | ⟨hb1, hD⟩
        · first | exact absurd hb1 (by decide) | (simp; omega)
        · first | exact absurd hb1 (by decide) | (simp; omega)
    · have hmi : ((mant : Int) == 0) = false := by simp; omega
      have HMN : Hid (mant ≠ 0) := hm0
      clear hm0
      cases b1
      · go_wp2_with (fail)
        (try simp only [Exit.inBlock, Exit.then])
        refine bodyPost_ret (results_tmp7 rfl _ _ _) rfl ?_
        have hE := HEX.out
        have hD := HEXP.out
        refine ⟨?_, rfl⟩
        rw [if_neg HMN.out] at hE
        rcases hD with ⟨hb1, hD⟩ | ⟨hb1, hD⟩
        · first | exact absurd hb1 (by decide) | (simp; omega)
        · first | exact absurd hb1 (by decide) | (simp; omega)
      · go_wp2_with (fail)
        (try simp only [Exit.inBlock, Exit.then])
        refine bodyPost_ret (results_tmp7 rfl _ _ _) rfl ?_
        have hE := HEX.out
        have hD := HEXP.out
        refine ⟨?_, rfl⟩
        rw [if_neg HMN.out] at hE
        rcases hD with ⟨hb1, hD⟩ | ⟨hb1, hD⟩
        · first | exact absurd hb1 (by decide) | (simp; omega)
        · first | exact absurd hb1 (by decide) | (simp; omega)
end Go.Proofs.YtonegoemmologaaGreatDoor
