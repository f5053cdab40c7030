/-
  appendString of the text form: it appends the string as 'quote' writes it.
-/
import Derived.Test.YtmijjppjodpagaaGreatDoorM15
import Derived.Test.YtmijjppjodpagaaGreatDoorM16
set_option linter.unusedVariables false
set_option linter.unusedSimpArgs false
namespace Go.Proofs.YtmijjppjodpagaaGreatDoor
open Go.RowKit

/-- What holds at the head of each round: the bytes o' are written, r is left. -/
def EncRel (B : World) (v0 : Value) (T : List UInt8) (ascii : Bool) (bound : Nat) (s0 s1 : Value) (wr : World) : Prop :=
  ∃ (o r : List UInt8), s1 = .string (mk r) ∧ Out B v0 wr s0 o ∧ o ++ encL ascii r = T ∧ o.length + 10 * r.length ≤ bound

theorem hexP_len {k n K : Nat} (hK : K = (hexD n).length) : hexP k n = List.replicate (k - K) 48 ++ hexD n := by rw [hK]; rfl

set_option maxRecDepth 100000 in
set_option maxHeartbeats 16000000 in
theorem appendString_any (B : World) (v0 v : Value) (o l : List UInt8) (ascii : Bool) (w : World) (hv : Out B v0 w v o) (hl : o.length + 10 * l.length ≤ 140737488200000) (hTB : Tabs B) (h19 : ∀ k, v0.ownBlock = some k → 14 ≤ k) :
    Calls Tryz.prog 57 #[v, .string (mk l), .bool ascii] w (OutRes B v0 (o ++ quote ascii l)) := by
  have hsz := mk_size l
  have hpl := pre_le l
  have hll : l.length ≤ 9223372036854775807 := by omega
  have hcp := indexNeed_any l hll
  have r1 := fun w' => run_from l (pre l) hpl w'
  have r2 := fun w' => run_to l (pre l) hpl w'
  go_enter Tryz.func57, Tryz.ntmps57
  go_wp2_with (first
    | (at_builtin; refine at_out_lit hv (.tmp 11) (.tmp 12) [34] (by simp; omega) rfl rfl rfl rfl ?_; intro v1 w1 o1; clear hv)
    | (go_at_call 75; refine (hcp _).mono ?_; rintro e w' ⟨rfl, rfl⟩))
  have O2 := Lib.hid o1.drew
  clear o1
  go_region_law (refine step_out_str O2.out (.tmp 19) (.tmp 22) (l.take (pre l)) (by simp; omega) rfl rfl (by simp [Act.eval, Act.put]) (by simp [Act.eval, Act.put]) ?_; intro v3 w3 o3)
  have O3 := Lib.hid o3
  clear o3 O2 r1 r2 hcp
  go_simp
  go_wp2
  go_loopw [0, 1] (fun s0 s1 wr => EncRel B v0 (o ++ 34 :: enc ascii l) ascii (o.length + 10 * l.length + 10) s0 s1 wr) (fun _ s1 _ => strLen s1)
  case atStart => exact ⟨_, _, rfl, O3.out, by rw [enc_eq]; simp, by simp; omega⟩
  case round =>
    obtain ⟨o', r, rfl, hout, hT, hb⟩ := hrel
    have HO := Lib.hid hout
    have HT := Lib.hid hT
    have hszr := mk_size r
    clear hout hT hsz O3
    by_cases h0 : r.length = 0
    · obtain rfl : r = [] := List.eq_nil_of_length_eq_zero h0
      go_wp2_with (at_builtin; refine at_out_lit HO.out (.tmp 169) (.tmp 170) [34] (by simp at hb ⊢; omega) rfl rfl rfl rfl ?_; intro v1 w1 o1)
      go_ret
      exact ⟨_, rfl, by have h := HT.out; rw [encL_nil, List.append_nil] at h; rw [h] at o1; simpa [quote] using o1⟩
    · have hTr : Tabs wr := hTB.keeps HO.out.keeps (fun k hk h => by have := h19 k h; omega)
      have cd := dec_string r wr hTr
      have hg := dec_ascii r h0
      have hg256 := gd_lt r 0
      obtain ⟨R, hR⟩ : ∃ R, (dec r).1 = R := ⟨_, rfl⟩
      obtain ⟨N, hN⟩ : ∃ N, (dec r).2 = N := ⟨_, rfl⟩
      rw [hR, hN] at cd
      have hNl := dec_le r h0
      have hN4 := dec_four r
      have hR1 := dec_rune r
      have hES := encStep_eq ascii r hR hN rfl
      rw [hN] at hNl hN4
      rw [hR] at hR1
      rw [hR] at hg
      have hix : ∀ w', (Instr.index 9 (.string (mk r)) (.int .i64 0)).run Tryz.prog w' = .ok (.int .u8 (gd r 0 : Nat)) w' := fun w' => by
        have h := run_at r 0 (by omega) w'
        rw [show (gd r 0) = (r[0]'(by omega)).toNat from by unfold gd; rw [List.getD, List.getElem?_eq_getElem (by omega)]; rfl]
        exact h
      have hdec : dec r = (R, N) := by rw [← hR, ← hN]
      obtain ⟨c, hc⟩ : ∃ c, gd r 0 = c := ⟨_, rfl⟩
      rw [hc] at hix hg hg256 hES
      have hcR : (R = 65533 ∧ N = 1) → 128 ≤ c := fun h => by
        rcases Nat.lt_or_ge c 128 with h1 | h1
        · have h2 := hg.2 h1
          rw [hdec] at h2
          have : R = c := congrArg Prod.fst h2
          omega
        · exact h1
      have hfrom := fun w' => run_from r N hNl.2 w'
      have hsub := hNl.2
      clear hg hdec hc hR hN hTr
      by_cases hbad : R = 65533 ∧ N = 1
      · have hc128 := hcR hbad
        rw [if_pos hbad] at hES
        have HE := Lib.hid hES
        obtain ⟨rfl, rfl⟩ := hbad
        clear hES hcR
        have hfrom1 : ∀ w', (Instr.slice 9 (.string (mk r)) (some (.int .i64 1)) none none).run Tryz.prog w' = .ok (.string (mk (r.drop 1))) w' := fun w' => run_from r 1 hsub w'
        clear hfrom
        have e3 : ((c : Int) == 34) = false := by simp; omega
        have e4 : ((c : Int) == 92) = false := by simp; omega
        have e5 : ((c : Int) == 10) = false := by simp; omega
        have e6 : ((c : Int) == 13) = false := by simp; omega
        have e7 : ((c : Int) == 9) = false := by simp; omega
        go_wp2_with (first
          | (go_at_call 76; refine cd.mono ?_; rintro e w1 ⟨rfl, k1⟩; have H1 := Lib.hid (HO.out.below k1); clear k1)
          | (at_builtin; refine at_out_lit H1.out (.tmp 67) (.tmp 68) [92] (by simp at hb ⊢; omega) rfl rfl rfl rfl ?_; intro v2 w2 o2; have H2 := Lib.hid o2; clear o2)
          | (at_builtin; refine at_out_lit H2.out (.tmp 71) (.tmp 72) [120] (by simp at hb ⊢; omega) rfl rfl rfl rfl ?_; intro v3 w3 o3; have H3 := Lib.hid o3; clear o3)
          | (go_at_call 77; refine (len32_hex c _ (by omega)).mono ?_; rintro e w4 ⟨⟨b, K, rfl, hbK, hK, hb32⟩, rfl⟩; have HK := Lib.hid hK; have hkb := hexD_le 2 c (by decide) (by omega); rw [← hK] at hkb; have HKB := Lib.hid hkb; have hp := fun w' => pad2 K hkb w'; clear hK hkb)
          | (at_builtin; refine at_out_str H3.out (.tmp 74) (.tmp 81) (List.replicate (2 - K) 48) (by simp at hb ⊢; omega) rfl rfl rfl rfl ?_; intro v4 w4 o4; have H4 := Lib.hid o4; clear o4)
          | (go_at_call 60; refine (appendHex B v0 _ _ c (by omega) _ H4.out (by simp at hb ⊢; omega) (hTB.keeps H4.out.keeps (fun k hk h => by have := h19 k h; omega))).mono ?_; rintro e w5 ⟨v5, rfl, o5⟩; have H5 := Lib.hid o5; clear o5))
        go_roundw
        case rel => exact ⟨_, r.drop 1, (by first | rfl | rw [List.drop_one]), H5.out, enc_next h0 HE.out HT.out (by rw [hexP_len HK.out]; simp), by have h1 := HK.out; have h2 := HKB.out; simp at hb ⊢; omega⟩
        case measure => simp only [strLen, mk_size, List.length_drop, List.length_tail]; omega
      · rw [if_neg hbad] at hES
        have hnb : R = 65533 → ((N : Int) == 1) = false := fun h => by simp; omega
        clear hcR hix hg256
        by_cases h34 : R = 34
        · subst h34
          have HE : Hid (encStep ascii r = ([92, 34], N)) := hES.trans (by simp)
          clear hES hnb hbad
          go_wp2_with (first
            | (go_at_call 76; refine cd.mono ?_; rintro e w1 ⟨rfl, k1⟩; have H1 := Lib.hid (HO.out.below k1); clear k1)
            | (at_builtin; refine at_out_lit H1.out (.tmp 67) (.tmp 68) [92] (by simp at hb ⊢; omega) rfl rfl rfl rfl ?_; intro v2 w2 o2; have H2 := Lib.hid o2; clear o2)
            | (at_builtin; refine at_out_lit H2.out (.tmp 90) (.tmp 93) [34] (by simp at hb ⊢; omega) rfl rfl rfl rfl ?_; intro v3 w3 o3; have H3 := Lib.hid o3; clear o3))
          go_roundw
          case rel => exact ⟨_, r.drop N, (by first | rfl | rw [List.drop_one]), H3.out, enc_next h0 HE.out HT.out (by simp), by simp at hb ⊢; omega⟩
          case measure => simp only [strLen, mk_size, List.length_drop, List.length_tail]; omega
        by_cases h92 : R = 92
        · subst h92
          have HE : Hid (encStep ascii r = ([92, 92], N)) := hES.trans (by simp)
          clear hES hnb hbad h34
          go_wp2_with (first
            | (go_at_call 76; refine cd.mono ?_; rintro e w1 ⟨rfl, k1⟩; have H1 := Lib.hid (HO.out.below k1); clear k1)
            | (at_builtin; refine at_out_lit H1.out (.tmp 67) (.tmp 68) [92] (by simp at hb ⊢; omega) rfl rfl rfl rfl ?_; intro v2 w2 o2; have H2 := Lib.hid o2; clear o2)
            | (at_builtin; refine at_out_lit H2.out (.tmp 90) (.tmp 93) [92] (by simp at hb ⊢; omega) rfl rfl rfl rfl ?_; intro v3 w3 o3; have H3 := Lib.hid o3; clear o3))
          go_roundw
          case rel => exact ⟨_, r.drop N, (by first | rfl | rw [List.drop_one]), H3.out, enc_next h0 HE.out HT.out (by simp), by simp at hb ⊢; omega⟩
          case measure => simp only [strLen, mk_size, List.length_drop, List.length_tail]; omega
        by_cases h10 : R = 10
        · subst h10
          have HE : Hid (encStep ascii r = ([92, 110], N)) := hES.trans (by simp)
          clear hES hnb hbad h34 h92
          go_wp2_with (first
            | (go_at_call 76; refine cd.mono ?_; rintro e w1 ⟨rfl, k1⟩; have H1 := Lib.hid (HO.out.below k1); clear k1)
            | (at_builtin; refine at_out_lit H1.out (.tmp 67) (.tmp 68) [92] (by simp at hb ⊢; omega) rfl rfl rfl rfl ?_; intro v2 w2 o2; have H2 := Lib.hid o2; clear o2)
            | (at_builtin; refine at_out_lit H2.out (.tmp 97) (.tmp 98) [110] (by simp at hb ⊢; omega) rfl rfl rfl rfl ?_; intro v3 w3 o3; have H3 := Lib.hid o3; clear o3))
          go_roundw
          case rel => exact ⟨_, r.drop N, (by first | rfl | rw [List.drop_one]), H3.out, enc_next h0 HE.out HT.out (by simp), by simp at hb ⊢; omega⟩
          case measure => simp only [strLen, mk_size, List.length_drop, List.length_tail]; omega
        by_cases h13 : R = 13
        · subst h13
          have HE : Hid (encStep ascii r = ([92, 114], N)) := hES.trans (by simp)
          clear hES hnb hbad h34 h92
          go_wp2_with (first
            | (go_at_call 76; refine cd.mono ?_; rintro e w1 ⟨rfl, k1⟩; have H1 := Lib.hid (HO.out.below k1); clear k1)
            | (at_builtin; refine at_out_lit H1.out (.tmp 67) (.tmp 68) [92] (by simp at hb ⊢; omega) rfl rfl rfl rfl ?_; intro v2 w2 o2; have H2 := Lib.hid o2; clear o2)
            | (at_builtin; refine at_out_lit H2.out (.tmp 102) (.tmp 103) [114] (by simp at hb ⊢; omega) rfl rfl rfl rfl ?_; intro v3 w3 o3; have H3 := Lib.hid o3; clear o3))
          go_roundw
          case rel => exact ⟨_, r.drop N, (by first | rfl | rw [List.drop_one]), H3.out, enc_next h0 HE.out HT.out (by simp), by simp at hb ⊢; omega⟩
          case measure => simp only [strLen, mk_size, List.length_drop, List.length_tail]; omega
        by_cases h9 : R = 9
        · subst h9
          have HE : Hid (encStep ascii r = ([92, 116], N)) := hES.trans (by simp)
          clear hES hnb hbad h34 h92
          go_wp2_with (first
            | (go_at_call 76; refine cd.mono ?_; rintro e w1 ⟨rfl, k1⟩; have H1 := Lib.hid (HO.out.below k1); clear k1)
            | (at_builtin; refine at_out_lit H1.out (.tmp 67) (.tmp 68) [92] (by simp at hb ⊢; omega) rfl rfl rfl rfl ?_; intro v2 w2 o2; have H2 := Lib.hid o2; clear o2)
            | (at_builtin; refine at_out_lit H2.out (.tmp 107) (.tmp 108) [116] (by simp at hb ⊢; omega) rfl rfl rfl rfl ?_; intro v3 w3 o3; have H3 := Lib.hid o3; clear o3))
          go_roundw
          case rel => exact ⟨_, r.drop N, (by first | rfl | rw [List.drop_one]), H3.out, enc_next h0 HE.out HT.out (by simp), by simp at hb ⊢; omega⟩
          case measure => simp only [strLen, mk_size, List.length_drop, List.length_tail]; omega
        rw [if_neg (by omega), if_neg h10, if_neg h13, if_neg h9] at hES
        have e3 : ((R : Int) == 34) = false := by simp; omega
        have e4 : ((R : Int) == 92) = false := by simp; omega
        have e5 : ((R : Int) == 10) = false := by simp; omega
        have e6 : ((R : Int) == 13) = false := by simp; omega
        have e7 : ((R : Int) == 9) = false := by simp; omega
        by_cases hlow : R < 32
        · rw [if_pos (.inl hlow)] at hES
          have HE := Lib.hid hES
          have e1 : ((R : Int) == 65533) = false := by simp; omega
          have e2 : (R : Int) < 32 := by omega
          clear hES hnb hbad h34 h92 h10 h13 h9
          go_wp2_with (first
            | (go_at_call 76; refine cd.mono ?_; rintro e w1 ⟨rfl, k1⟩; have H1 := Lib.hid (HO.out.below k1); clear k1)
            | (at_builtin; refine at_out_lit H1.out (.tmp 67) (.tmp 68) [92] (by simp at hb ⊢; omega) rfl rfl rfl rfl ?_; intro v2 w2 o2; have H2 := Lib.hid o2; clear o2)
            | (at_builtin; refine at_out_lit H2.out (.tmp 71) (.tmp 72) [120] (by simp at hb ⊢; omega) rfl rfl rfl rfl ?_; intro v3 w3 o3; have H3 := Lib.hid o3; clear o3)
            | (go_at_call 77; refine (len32_hex R _ (by omega)).mono ?_; rintro e w4 ⟨⟨b, K, rfl, hbK, hK, hb32⟩, rfl⟩; have HK := Lib.hid hK; have hkb := hexD_le 2 R (by decide) (by omega); rw [← hK] at hkb; have HKB := Lib.hid hkb; have hp := fun w' => pad2 K hkb w'; clear hK hkb)
            | (at_builtin; refine at_out_str H3.out (.tmp 74) (.tmp 81) (List.replicate (2 - K) 48) (by simp at hb ⊢; omega) rfl rfl rfl rfl ?_; intro v4 w4 o4; have H4 := Lib.hid o4; clear o4)
            | (go_at_call 60; refine (appendHex B v0 _ _ R (by omega) _ H4.out (by simp at hb ⊢; omega) (hTB.keeps H4.out.keeps (fun k hk h => by have := h19 k h; omega))).mono ?_; rintro e w5 ⟨v5, rfl, o5⟩; have H5 := Lib.hid o5; clear o5))
          go_roundw
          case rel => exact ⟨_, r.drop N, (by first | rfl | rw [List.drop_one]), H5.out, enc_next h0 HE.out HT.out (by rw [hexP_len HK.out]; simp), by have h1 := HK.out; have h2 := HKB.out; simp at hb ⊢; omega⟩
          case measure => simp only [strLen, mk_size, List.length_drop, List.length_tail]; omega
        by_cases h127 : R = 127
        · rw [if_pos (.inr h127)] at hES
          have HE := Lib.hid hES
          subst h127
          clear hES hnb hbad h34 h92 h10 h13 h9 hlow e3 e4 e5 e6 e7
          go_wp2_with (first
            | (go_at_call 76; refine cd.mono ?_; rintro e w1 ⟨rfl, k1⟩; have H1 := Lib.hid (HO.out.below k1); clear k1)
            | (at_builtin; refine at_out_lit H1.out (.tmp 67) (.tmp 68) [92] (by simp at hb ⊢; omega) rfl rfl rfl rfl ?_; intro v2 w2 o2; have H2 := Lib.hid o2; clear o2)
            | (at_builtin; refine at_out_lit H2.out (.tmp 71) (.tmp 72) [120] (by simp at hb ⊢; omega) rfl rfl rfl rfl ?_; intro v3 w3 o3; have H3 := Lib.hid o3; clear o3)
            | (go_at_call 77; refine (len32_hex 127 _ (by omega)).mono ?_; rintro e w4 ⟨⟨b, K, rfl, hbK, hK, hb32⟩, rfl⟩; have HK := Lib.hid hK; have hkb := hexD_le 2 127 (by decide) (by omega); rw [← hK] at hkb; have HKB := Lib.hid hkb; have hp := fun w' => pad2 K hkb w'; clear hK hkb)
            | (at_builtin; refine at_out_str H3.out (.tmp 74) (.tmp 81) (List.replicate (2 - K) 48) (by simp at hb ⊢; omega) rfl rfl rfl rfl ?_; intro v4 w4 o4; have H4 := Lib.hid o4; clear o4)
            | (go_at_call 60; refine (appendHex B v0 _ _ 127 (by omega) _ H4.out (by simp at hb ⊢; omega) (hTB.keeps H4.out.keeps (fun k hk h => by have := h19 k h; omega))).mono ?_; rintro e w5 ⟨v5, rfl, o5⟩; have H5 := Lib.hid o5; clear o5))
          go_roundw
          case rel => exact ⟨_, r.drop N, (by first | rfl | rw [List.drop_one]), H5.out, enc_next h0 HE.out HT.out (by rw [hexP_len HK.out]; simp), by have h1 := HK.out; have h2 := HKB.out; simp at hb ⊢; omega⟩
          case measure => simp only [strLen, mk_size, List.length_drop, List.length_tail]; omega
        rw [if_neg (by omega)] at hES
        have e8 : ((R : Int) == 127) = false := by simp; omega
        have e2 : ¬ (R : Int) < 32 := by omega
        by_cases hu : 128 ≤ R ∧ (ascii = true ∨ R ≤ 159)
        · rw [if_pos hu] at hES
          have e9 : (128 : Int) ≤ (R : Int) := by omega
          by_cases h16 : R ≤ 65535
          · rw [if_pos h16] at hES
            have HE := Lib.hid hES
            have e10 : (R : Int) ≤ 65535 := by omega
            clear hES
            cases ascii with
            | true =>
              by_cases h65 : R = 65533
              · have e1 := hnb h65
                subst h65
                clear hnb hbad h34 h92 h10 h13 h9 hlow h127 e2 e3 e4 e5 e6 e7 e8 e9 e10
                go_wp2_with (first
                  | (go_at_call 76; refine cd.mono ?_; rintro e w1 ⟨rfl, k1⟩; have H1 := Lib.hid (HO.out.below k1); clear k1)
                  | (at_builtin; refine at_out_lit H1.out (.tmp 113) (.tmp 114) [92] (by simp at hb ⊢; omega) rfl rfl rfl rfl ?_; intro v2 w2 o2; have H2 := Lib.hid o2; clear o2)
                  | (at_builtin; refine at_out_lit H2.out (.tmp 118) (.tmp 119) [117] (by simp at hb ⊢; omega) rfl rfl rfl rfl ?_; intro v3 w3 o3; have H3 := Lib.hid o3; clear o3)
                  | (go_at_call 77; refine (len32_hex 65533 _ (by omega)).mono ?_; rintro e w4 ⟨⟨b, K, rfl, hbK, hK, hb32⟩, rfl⟩; have HK := Lib.hid hK; have hkb := hexD_le 4 65533 (by decide) (by omega); rw [← hK] at hkb; have HKB := Lib.hid hkb; have hp := fun w' => pad4 K hkb w'; clear hK hkb)
                  | (at_builtin; refine at_out_str H3.out (.tmp 121) (.tmp 128) (List.replicate (4 - K) 48) (by simp at hb ⊢; omega) rfl rfl rfl rfl ?_; intro v4 w4 o4; have H4 := Lib.hid o4; clear o4)
                  | (go_at_call 60; refine (appendHex B v0 _ _ 65533 (by omega) _ H4.out (by simp at hb ⊢; omega) (hTB.keeps H4.out.keeps (fun k hk h => by have := h19 k h; omega))).mono ?_; rintro e w5 ⟨v5, rfl, o5⟩; have H5 := Lib.hid o5; clear o5))
                go_roundw
                case rel => exact ⟨_, r.drop N, (by first | rfl | rw [List.drop_one]), H5.out, enc_next h0 HE.out HT.out (by rw [hexP_len HK.out]; simp), by have h1 := HK.out; have h2 := HKB.out; simp at hb ⊢; omega⟩
                case measure => simp only [strLen, mk_size, List.length_drop, List.length_tail]; omega
              · have e1 : ((R : Int) == 65533) = false := by simp; omega
                clear h65 hnb hbad h34 h92 h10 h13 h9 hlow h127
                go_wp2_with (first
                  | (go_at_call 76; refine cd.mono ?_; rintro e w1 ⟨rfl, k1⟩; have H1 := Lib.hid (HO.out.below k1); clear k1)
                  | (at_builtin; refine at_out_lit H1.out (.tmp 113) (.tmp 114) [92] (by simp at hb ⊢; omega) rfl rfl rfl rfl ?_; intro v2 w2 o2; have H2 := Lib.hid o2; clear o2)
                  | (at_builtin; refine at_out_lit H2.out (.tmp 118) (.tmp 119) [117] (by simp at hb ⊢; omega) rfl rfl rfl rfl ?_; intro v3 w3 o3; have H3 := Lib.hid o3; clear o3)
                  | (go_at_call 77; refine (len32_hex R _ (by omega)).mono ?_; rintro e w4 ⟨⟨b, K, rfl, hbK, hK, hb32⟩, rfl⟩; have HK := Lib.hid hK; have hkb := hexD_le 4 R (by decide) (by omega); rw [← hK] at hkb; have HKB := Lib.hid hkb; have hp := fun w' => pad4 K hkb w'; clear hK hkb)
                  | (at_builtin; refine at_out_str H3.out (.tmp 121) (.tmp 128) (List.replicate (4 - K) 48) (by simp at hb ⊢; omega) rfl rfl rfl rfl ?_; intro v4 w4 o4; have H4 := Lib.hid o4; clear o4)
                  | (go_at_call 60; refine (appendHex B v0 _ _ R (by omega) _ H4.out (by simp at hb ⊢; omega) (hTB.keeps H4.out.keeps (fun k hk h => by have := h19 k h; omega))).mono ?_; rintro e w5 ⟨v5, rfl, o5⟩; have H5 := Lib.hid o5; clear o5))
                go_roundw
                case rel => exact ⟨_, r.drop N, (by first | rfl | rw [List.drop_one]), H5.out, enc_next h0 HE.out HT.out (by rw [hexP_len HK.out]; simp), by have h1 := HK.out; have h2 := HKB.out; simp at hb ⊢; omega⟩
                case measure => simp only [strLen, mk_size, List.length_drop, List.length_tail]; omega
            | false =>
              have e11 : (R : Int) ≤ 159 := by have := hu.2; simp at this; omega
              have e1 : ((R : Int) == 65533) = false := by simp; omega
              clear hnb hbad h34 h92 h10 h13 h9 hlow h127
              go_wp2_with (first
                | (go_at_call 76; refine cd.mono ?_; rintro e w1 ⟨rfl, k1⟩; have H1 := Lib.hid (HO.out.below k1); clear k1)
                | (at_builtin; refine at_out_lit H1.out (.tmp 113) (.tmp 114) [92] (by simp at hb ⊢; omega) rfl rfl rfl rfl ?_; intro v2 w2 o2; have H2 := Lib.hid o2; clear o2)
                | (at_builtin; refine at_out_lit H2.out (.tmp 118) (.tmp 119) [117] (by simp at hb ⊢; omega) rfl rfl rfl rfl ?_; intro v3 w3 o3; have H3 := Lib.hid o3; clear o3)
                | (go_at_call 77; refine (len32_hex R _ (by omega)).mono ?_; rintro e w4 ⟨⟨b, K, rfl, hbK, hK, hb32⟩, rfl⟩; have HK := Lib.hid hK; have hkb := hexD_le 4 R (by decide) (by omega); rw [← hK] at hkb; have HKB := Lib.hid hkb; have hp := fun w' => pad4 K hkb w'; clear hK hkb)
                | (at_builtin; refine at_out_str H3.out (.tmp 121) (.tmp 128) (List.replicate (4 - K) 48) (by simp at hb ⊢; omega) rfl rfl rfl rfl ?_; intro v4 w4 o4; have H4 := Lib.hid o4; clear o4)
                | (go_at_call 60; refine (appendHex B v0 _ _ R (by omega) _ H4.out (by simp at hb ⊢; omega) (hTB.keeps H4.out.keeps (fun k hk h => by have := h19 k h; omega))).mono ?_; rintro e w5 ⟨v5, rfl, o5⟩; have H5 := Lib.hid o5; clear o5))
              go_roundw
              case rel => exact ⟨_, r.drop N, (by first | rfl | rw [List.drop_one]), H5.out, enc_next h0 HE.out HT.out (by rw [hexP_len HK.out]; simp), by have h1 := HK.out; have h2 := HKB.out; simp at hb ⊢; omega⟩
              case measure => simp only [strLen, mk_size, List.length_drop, List.length_tail]; omega
          · rw [if_neg h16] at hES
            have HE := Lib.hid hES
            have e10 : ¬ (R : Int) ≤ 65535 := by omega
            have ha : ascii = true := by rcases hu.2 with h | h; exact h; omega
            subst ha
            have e1 : ((R : Int) == 65533) = false := by simp; omega
            clear hES hnb hbad h34 h92 h10 h13 h9 hlow h127
            go_wp2_with (first
              | (go_at_call 76; refine cd.mono ?_; rintro e w1 ⟨rfl, k1⟩; have H1 := Lib.hid (HO.out.below k1); clear k1)
              | (at_builtin; refine at_out_lit H1.out (.tmp 113) (.tmp 114) [92] (by simp at hb ⊢; omega) rfl rfl rfl rfl ?_; intro v2 w2 o2; have H2 := Lib.hid o2; clear o2)
              | (at_builtin; refine at_out_lit H2.out (.tmp 134) (.tmp 135) [85] (by simp at hb ⊢; omega) rfl rfl rfl rfl ?_; intro v3 w3 o3; have H3 := Lib.hid o3; clear o3)
              | (go_at_call 77; refine (len32_hex R _ (by omega)).mono ?_; rintro e w4 ⟨⟨b, K, rfl, hbK, hK, hb32⟩, rfl⟩; have HK := Lib.hid hK; have hkb := hexD_le 8 R (by decide) (by omega); rw [← hK] at hkb; have HKB := Lib.hid hkb; have hp := fun w' => pad8 K hkb w'; clear hK hkb)
              | (at_builtin; refine at_out_str H3.out (.tmp 137) (.tmp 144) (List.replicate (8 - K) 48) (by simp at hb ⊢; omega) rfl rfl rfl rfl ?_; intro v4 w4 o4; have H4 := Lib.hid o4; clear o4)
              | (go_at_call 60; refine (appendHex B v0 _ _ R (by omega) _ H4.out (by simp at hb ⊢; omega) (hTB.keeps H4.out.keeps (fun k hk h => by have := h19 k h; omega))).mono ?_; rintro e w5 ⟨v5, rfl, o5⟩; have H5 := Lib.hid o5; clear o5))
            go_roundw
            case rel => exact ⟨_, r.drop N, (by first | rfl | rw [List.drop_one]), H5.out, enc_next h0 HE.out HT.out (by rw [hexP_len HK.out]; simp), by have h1 := HK.out; have h2 := HKB.out; simp at hb ⊢; omega⟩
            case measure => simp only [strLen, mk_size, List.length_drop, List.length_tail]; omega
        · rw [if_neg hu] at hES
          have hp := pre_le (r.drop N)
          rw [List.length_drop] at hp
          have hcp := indexNeed_any (r.drop N) (by rw [List.length_drop]; omega)
          obtain ⟨p, hpp⟩ : ∃ p, pre (r.drop N) = p := ⟨_, rfl⟩
          rw [hpp] at hp hcp hES
          have HP := Lib.hid hpp
          obtain ⟨M, hM⟩ : ∃ M, N + p = M := ⟨_, rfl⟩
          rw [hM] at hES
          have hMl : M ≤ r.length := by omega
          have hM1 : 1 ≤ M := by omega
          have HE := Lib.hid hES
          have HM := Lib.hid hM
          have hwr : IntKind.i64.wrap ((N : Int) + (p : Int)) = (M : Int) := by rw [IntWalk.i64_in _ (by omega)]; omega
          have q1 := fun w' => run_from r M hMl w'
          have q2 := fun w' => run_to r M hMl w'
          clear hES hpp hM
          by_cases h128 : 128 ≤ R
          · have hna : ascii = false := by cases ascii; rfl; exact absurd ⟨h128, .inl rfl⟩ hu
            subst hna
            have e9 : (128 : Int) ≤ (R : Int) := by omega
            have e10 : ¬ (R : Int) ≤ 159 := by have : ¬ R ≤ 159 := fun h => hu ⟨h128, .inr h⟩; omega
            clear hu
            by_cases h65 : R = 65533
            · have e1 := hnb h65
              subst h65
              clear hnb hbad h34 h92 h10 h13 h9 hlow h127 e2 e3 e4 e5 e6 e7 e8 e9 e10 h128
              go_wp2_with (first
                | (go_at_call 76; refine cd.mono ?_; rintro e w1 ⟨rfl, k1⟩; have H1 := Lib.hid (HO.out.below k1); clear k1)
                | (go_at_call 75; refine (hcp _).mono ?_; rintro e w' ⟨rfl, rfl⟩))
              have H2 := Lib.hid H1.out.drew
              clear cd hcp
              go_region_law (refine step_out_str H2.out (.tmp 162) (.tmp 167) (r.take M) (by simp at hb ⊢; omega) rfl rfl (by simp [Act.eval, Act.put]) (by simp [Act.eval, Act.put]) ?_; intro v3 w3 o3)
              have H3 := Lib.hid o3
              clear o3 hwr q1 q2
              go_simp
              go_wp2
              go_roundw
              case rel => exact ⟨_, r.drop M, (by first | rfl | rw [List.drop_one]), H3.out, enc_next h0 HE.out HT.out (by rfl), by simp at hb ⊢; omega⟩
              case measure => simp only [strLen, mk_size, List.length_drop, List.length_tail]; omega
            · have e1 : ((R : Int) == 65533) = false := by simp; omega
              clear h65 hnb hbad h34 h92 h10 h13 h9 hlow h127 h128
              go_wp2_with (first
                | (go_at_call 76; refine cd.mono ?_; rintro e w1 ⟨rfl, k1⟩; have H1 := Lib.hid (HO.out.below k1); clear k1)
                | (go_at_call 75; refine (hcp _).mono ?_; rintro e w' ⟨rfl, rfl⟩))
              have H2 := Lib.hid H1.out.drew
              clear cd hcp
              go_region_law (refine step_out_str H2.out (.tmp 162) (.tmp 167) (r.take M) (by simp at hb ⊢; omega) rfl rfl (by simp [Act.eval, Act.put]) (by simp [Act.eval, Act.put]) ?_; intro v3 w3 o3)
              have H3 := Lib.hid o3
              clear o3 hwr q1 q2
              go_simp
              go_wp2
              go_roundw
              case rel => exact ⟨_, r.drop M, (by first | rfl | rw [List.drop_one]), H3.out, enc_next h0 HE.out HT.out (by rfl), by simp at hb ⊢; omega⟩
              case measure => simp only [strLen, mk_size, List.length_drop, List.length_tail]; omega
          · have e9 : ¬ (128 : Int) ≤ (R : Int) := by omega
            have e1 : ((R : Int) == 65533) = false := by simp; omega
            clear hu h128 hnb hbad h34 h92 h10 h13 h9 hlow h127
            go_wp2_with (first
              | (go_at_call 76; refine cd.mono ?_; rintro e w1 ⟨rfl, k1⟩; have H1 := Lib.hid (HO.out.below k1); clear k1)
              | (go_at_call 75; refine (hcp _).mono ?_; rintro e w' ⟨rfl, rfl⟩))
            have H2 := Lib.hid H1.out.drew
            clear cd hcp
            go_region_law (refine step_out_str H2.out (.tmp 162) (.tmp 167) (r.take M) (by simp at hb ⊢; omega) rfl rfl (by simp [Act.eval, Act.put]) (by simp [Act.eval, Act.put]) ?_; intro v3 w3 o3)
            have H3 := Lib.hid o3
            clear o3 hwr q1 q2
            go_simp
            go_wp2
            go_roundw
            case rel => exact ⟨_, r.drop M, (by first | rfl | rw [List.drop_one]), H3.out, enc_next h0 HE.out HT.out (by rfl), by simp at hb ⊢; omega⟩
            case measure => simp only [strLen, mk_size, List.length_drop, List.length_tail]; omega
end Go.Proofs.YtmijjppjodpagaaGreatDoor
