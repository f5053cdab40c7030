/-
  fmtEFG in the form d.ddde+dd.
-/
import Derived.Test.YtonegoemmologaaGreatDoorM18
import Derived.Test.YtonegoemmologaaGreatDoorM02
import Derived.Deep.DeepCutAuto
set_option linter.unusedVariables false
set_option linter.unusedSimpArgs false
namespace Go.Proofs.YtonegoemmologaaGreatDoor
open Go.RowKit
set_option maxRecDepth 1000000 in
set_option maxHeartbeats 40000000 in
theorem fmtE_true_0_m (neg : Bool) (nd : Nat) (dp : Int) (f : Nat → UInt8) (hneg : neg = true) (hnd : nd ≤ 20) (hdp : -500 ≤ dp) (hdp2 : dp ≤ 520) (hX : dp - 1 < -4) (h1 : nd = 0) :
 ∃ T : List UInt8, T.length ≤ 1000 ∧ (Fl.Digits f nd → 1 ≤ nd → Fl.nval (Fl.dsq f 0 nd) < 10 ^ 19 → Fl.NumText neg T (Fl.nval (Fl.dsq f 0 nd)) (dp - nd)) ∧ ∀ (w : World) (v : Value) (l : List UInt8) (B : Nat), Own w v l → ¬ v.ownBlock = some B → Digs w B nd f → l.length ≤ 140737488350000 →
  Calls Tryz.prog 111 #[v, .bool neg, .slice (some ⟨B, 0, none⟩) 32 32, .int .i64 dp, .int .i64 (nd : Int), .int .i64 (nd : Int), .int .u8 103, .bool true] w (OutRes w v (l ++ T)) := by
 subst hneg h1
 refine ⟨[45] ++ [48] ++ [101] ++ [43] ++ [48, 48], by simp; try omega, fun hdg h1n hv => ?_, fun w v l B hown hvb hc hb => ?_⟩
 · exact absurd h1n (by decide)
 have H0 := Lib.hid (Out.start hown)
 have HB := Lib.hid hvb
 clear hc hvb
 go_enter Tryz.func111, Tryz.ntmps111
 go_wp2_with (first | (at_builtin; have _h := H4; refine at_out_lit H4.out (.tmp 155) (.tmp 159) [48, 48] (by simp at hb ⊢; omega) rfl rfl rfl rfl ?_; intro v5 w5 o5; have H5 := Lib.hid o5; clear o5) | (at_builtin; have _h := H3; refine at_out_lit H3.out (.tmp 132) (.tmp 134) [43] (by simp at hb ⊢; omega) rfl rfl rfl rfl ?_; intro v4 w4 o4; have H4 := Lib.hid o4; clear o4) | (at_builtin; have _h := H2; refine at_out_lit H2.out (.tmp 120) (.tmp 122) [101] (by simp at hb ⊢; omega) rfl rfl rfl rfl ?_; intro v3 w3 o3; have H3 := Lib.hid o3; clear o3) | (at_builtin; have _h := H1; refine at_out_lit H1.out (.tmp 87) (.tmp 89) [48] (by simp at hb ⊢; omega) rfl rfl rfl rfl ?_; intro v2 w2 o2; have H2 := Lib.hid o2; clear o2) | (at_builtin; have _h := H0; refine at_out_lit H0.out (.tmp 79) (.tmp 80) [45] (by simp at hb ⊢; omega) rfl rfl rfl rfl ?_; intro v1 w1 o1; have H1 := Lib.hid o1; clear o1))
 go_ret
 refine ⟨_, rfl, ?_⟩
 have h := H5.out
 simp only [List.append_assoc] at h ⊢
 exact h
set_option maxRecDepth 1000000 in
set_option maxHeartbeats 40000000 in
theorem fmtE_true_0_p (neg : Bool) (nd : Nat) (dp : Int) (f : Nat → UInt8) (hneg : neg = true) (hnd : nd ≤ 20) (hdp : -500 ≤ dp) (hdp2 : dp ≤ 520) (hX : 6 ≤ dp - 1) (h1 : nd = 0) :
 ∃ T : List UInt8, T.length ≤ 1000 ∧ (Fl.Digits f nd → 1 ≤ nd → Fl.nval (Fl.dsq f 0 nd) < 10 ^ 19 → Fl.NumText neg T (Fl.nval (Fl.dsq f 0 nd)) (dp - nd)) ∧ ∀ (w : World) (v : Value) (l : List UInt8) (B : Nat), Own w v l → ¬ v.ownBlock = some B → Digs w B nd f → l.length ≤ 140737488350000 →
  Calls Tryz.prog 111 #[v, .bool neg, .slice (some ⟨B, 0, none⟩) 32 32, .int .i64 dp, .int .i64 (nd : Int), .int .i64 (nd : Int), .int .u8 103, .bool true] w (OutRes w v (l ++ T)) := by
 subst hneg h1
 have hX2 : ¬ dp - 1 < -4 := by omega
 refine ⟨[45] ++ [48] ++ [101] ++ [43] ++ [48, 48], by simp; try omega, fun hdg h1n hv => ?_, fun w v l B hown hvb hc hb => ?_⟩
 · exact absurd h1n (by decide)
 have H0 := Lib.hid (Out.start hown)
 have HB := Lib.hid hvb
 clear hc hvb
 go_enter Tryz.func111, Tryz.ntmps111
 go_wp2_with (first | (at_builtin; have _h := H4; refine at_out_lit H4.out (.tmp 155) (.tmp 159) [48, 48] (by simp at hb ⊢; omega) rfl rfl rfl rfl ?_; intro v5 w5 o5; have H5 := Lib.hid o5; clear o5) | (at_builtin; have _h := H3; refine at_out_lit H3.out (.tmp 132) (.tmp 134) [43] (by simp at hb ⊢; omega) rfl rfl rfl rfl ?_; intro v4 w4 o4; have H4 := Lib.hid o4; clear o4) | (at_builtin; have _h := H2; refine at_out_lit H2.out (.tmp 120) (.tmp 122) [101] (by simp at hb ⊢; omega) rfl rfl rfl rfl ?_; intro v3 w3 o3; have H3 := Lib.hid o3; clear o3) | (at_builtin; have _h := H1; refine at_out_lit H1.out (.tmp 87) (.tmp 89) [48] (by simp at hb ⊢; omega) rfl rfl rfl rfl ?_; intro v2 w2 o2; have H2 := Lib.hid o2; clear o2) | (at_builtin; have _h := H0; refine at_out_lit H0.out (.tmp 79) (.tmp 80) [45] (by simp at hb ⊢; omega) rfl rfl rfl rfl ?_; intro v1 w1 o1; have H1 := Lib.hid o1; clear o1))
 go_ret
 refine ⟨_, rfl, ?_⟩
 have h := H5.out
 simp only [List.append_assoc] at h ⊢
 exact h
set_option maxRecDepth 1000000 in
set_option maxHeartbeats 40000000 in
theorem fmtE_true_1_m (neg : Bool) (nd X : Nat) (dp : Int) (f : Nat → UInt8) (hneg : neg = true) (hnd : nd ≤ 20) (hdp : -500 ≤ dp) (hdp2 : dp ≤ 520) (hX : dp - 1 = -(X : Int)) (hX2 : 5 ≤ X) (h1 : nd = 1) :
 ∃ T : List UInt8, T.length ≤ 1000 ∧ (Fl.Digits f nd → 1 ≤ nd → Fl.nval (Fl.dsq f 0 nd) < 10 ^ 19 → Fl.NumText neg T (Fl.nval (Fl.dsq f 0 nd)) (dp - nd)) ∧ ∀ (w : World) (v : Value) (l : List UInt8) (B : Nat), Own w v l → ¬ v.ownBlock = some B → Digs w B nd f → l.length ≤ 140737488350000 →
  Calls Tryz.prog 111 #[v, .bool neg, .slice (some ⟨B, 0, none⟩) 32 32, .int .i64 dp, .int .i64 (nd : Int), .int .i64 (nd : Int), .int .u8 103, .bool true] w (OutRes w v (l ++ T)) := by
 subst hneg h1
 have hX9 : X < 1000 := by omega
 by_cases x1 : X < 10
 · obtain ⟨c0, hu0⟩ := u8_of (X + 48) (by omega)
   have hc0 : (X : Int) + 48 = (c0.toNat : Int) := by omega
   clear hu0
   refine ⟨[45] ++ [f 0] ++ [101] ++ [45] ++ [48, c0], by simp; try omega, fun hdg h1n hv => ?_, fun w v l B hown hvb hc hb => ?_⟩
   · have key := Fl.numText_E true f 1 [] _ _ dp hdg h1n hv (by rfl) (Fl.exp_one true c0 X hc0 x1) (by simp only [if_true]; omega)
     rw [if_pos rfl] at key
     simpa [List.append_assoc] using key
   have H0 := Lib.hid (Out.start hown)
   have hc0 := hc 0 (by omega)
   have HC0 : Hid (∀ w', Keeps (blk v) w w' → w'.cell? ⟨B, 0, none⟩ = some (.int .u8 ((f 0).toNat : Int))) := fun w' hk => hk.cell hc0 hvb
   have HB := Lib.hid hvb
   clear hc hvb
   go_enter Tryz.func111, Tryz.ntmps111
   go_wp2_with (first | (at_builtin; have _h := H4; refine at_out_lit H4.out (.tmp 155) (.tmp 159) [48, c0] (by simp at hb ⊢; omega) rfl rfl rfl rfl ?_; intro v5 w5 o5; have H5 := Lib.hid o5; clear o5) | (at_builtin; have _h := H3; refine at_out_lit H3.out (.tmp 132) (.tmp 134) [45] (by simp at hb ⊢; omega) rfl rfl rfl rfl ?_; intro v4 w4 o4; have H4 := Lib.hid o4; clear o4) | (at_builtin; have _h := H2; refine at_out_lit H2.out (.tmp 120) (.tmp 122) [101] (by simp at hb ⊢; omega) rfl rfl rfl rfl ?_; intro v3 w3 o3; have H3 := Lib.hid o3; clear o3) | (at_builtin; have _h := H1; refine at_out_lit H1.out (.tmp 87) (.tmp 89) [f 0] (by simp at hb ⊢; omega) rfl rfl rfl rfl ?_; intro v2 w2 o2; have H2 := Lib.hid o2; clear o2) | (at_builtin; have _h := H0; refine at_out_lit H0.out (.tmp 79) (.tmp 80) [45] (by simp at hb ⊢; omega) rfl rfl rfl rfl ?_; intro v1 w1 o1; have H1 := Lib.hid o1; clear o1; have q0 := HC0.out _ H1.out.keeps))
   go_ret
   refine ⟨_, rfl, ?_⟩
   have h := H5.out
   simp only [List.append_assoc] at h ⊢
   exact h
 by_cases x2 : X < 100
 · obtain ⟨c0, hu0⟩ := u8_of (X % 10 + 48) (by omega)
   obtain ⟨c1, hu1⟩ := u8_of (X / 10 + 48) (by omega)
   have hc0 : (X : Int) % 10 + 48 = (c0.toNat : Int) := by omega
   have hc1 : (X : Int) / 10 + 48 = (c1.toNat : Int) := by omega
   clear hu0 hu1
   refine ⟨[45] ++ [f 0] ++ [101] ++ [45] ++ [c1, c0], by simp; try omega, fun hdg h1n hv => ?_, fun w v l B hown hvb hc hb => ?_⟩
   · have key := Fl.numText_E true f 1 [] _ _ dp hdg h1n hv (by rfl) (Fl.exp_two true c1 c0 X hc0 hc1 x2) (by simp only [if_true]; omega)
     rw [if_pos rfl] at key
     simpa [List.append_assoc] using key
   have H0 := Lib.hid (Out.start hown)
   have hc0 := hc 0 (by omega)
   have HC0 : Hid (∀ w', Keeps (blk v) w w' → w'.cell? ⟨B, 0, none⟩ = some (.int .u8 ((f 0).toNat : Int))) := fun w' hk => hk.cell hc0 hvb
   have HB := Lib.hid hvb
   clear hc hvb
   go_enter Tryz.func111, Tryz.ntmps111
   go_wp2_with (first | (at_builtin; have _h := H4; refine at_out_lit H4.out (.tmp 164) (.tmp 173) [c1, c0] (by simp at hb ⊢; omega) rfl rfl rfl rfl ?_; intro v5 w5 o5; have H5 := Lib.hid o5; clear o5) | (at_builtin; have _h := H3; refine at_out_lit H3.out (.tmp 132) (.tmp 134) [45] (by simp at hb ⊢; omega) rfl rfl rfl rfl ?_; intro v4 w4 o4; have H4 := Lib.hid o4; clear o4) | (at_builtin; have _h := H2; refine at_out_lit H2.out (.tmp 120) (.tmp 122) [101] (by simp at hb ⊢; omega) rfl rfl rfl rfl ?_; intro v3 w3 o3; have H3 := Lib.hid o3; clear o3) | (at_builtin; have _h := H1; refine at_out_lit H1.out (.tmp 87) (.tmp 89) [f 0] (by simp at hb ⊢; omega) rfl rfl rfl rfl ?_; intro v2 w2 o2; have H2 := Lib.hid o2; clear o2) | (at_builtin; have _h := H0; refine at_out_lit H0.out (.tmp 79) (.tmp 80) [45] (by simp at hb ⊢; omega) rfl rfl rfl rfl ?_; intro v1 w1 o1; have H1 := Lib.hid o1; clear o1; have q0 := HC0.out _ H1.out.keeps))
   go_ret
   refine ⟨_, rfl, ?_⟩
   have h := H5.out
   simp only [List.append_assoc] at h ⊢
   exact h
 · obtain ⟨c0, hu0⟩ := u8_of (X % 10 + 48) (by omega)
   obtain ⟨c1, hu1⟩ := u8_of (X / 10 % 10 + 48) (by omega)
   obtain ⟨c2, hu2⟩ := u8_of (X / 100 + 48) (by omega)
   have hc0 : (X : Int) % 10 + 48 = (c0.toNat : Int) := by omega
   have hc1 : (X : Int) / 10 % 10 + 48 = (c1.toNat : Int) := by omega
   have hc2 : (X : Int) / 100 + 48 = (c2.toNat : Int) := by omega
   clear hu0 hu1 hu2
   refine ⟨[45] ++ [f 0] ++ [101] ++ [45] ++ [c2, c1, c0], by simp; try omega, fun hdg h1n hv => ?_, fun w v l B hown hvb hc hb => ?_⟩
   · have key := Fl.numText_E true f 1 [] _ _ dp hdg h1n hv (by rfl) (Fl.exp_three true c2 c1 c0 X hc0 hc1 hc2 hX9) (by simp only [if_true]; omega)
     rw [if_pos rfl] at key
     simpa [List.append_assoc] using key
   have H0 := Lib.hid (Out.start hown)
   have hc0 := hc 0 (by omega)
   have HC0 : Hid (∀ w', Keeps (blk v) w w' → w'.cell? ⟨B, 0, none⟩ = some (.int .u8 ((f 0).toNat : Int))) := fun w' hk => hk.cell hc0 hvb
   have HB := Lib.hid hvb
   clear hc hvb
   go_enter Tryz.func111, Tryz.ntmps111
   go_wp2_with (first | (at_builtin; have _h := H4; refine at_out_lit H4.out (.tmp 136) (.tmp 150) [c2, c1, c0] (by simp at hb ⊢; omega) rfl rfl rfl rfl ?_; intro v5 w5 o5; have H5 := Lib.hid o5; clear o5) | (at_builtin; have _h := H3; refine at_out_lit H3.out (.tmp 132) (.tmp 134) [45] (by simp at hb ⊢; omega) rfl rfl rfl rfl ?_; intro v4 w4 o4; have H4 := Lib.hid o4; clear o4) | (at_builtin; have _h := H2; refine at_out_lit H2.out (.tmp 120) (.tmp 122) [101] (by simp at hb ⊢; omega) rfl rfl rfl rfl ?_; intro v3 w3 o3; have H3 := Lib.hid o3; clear o3) | (at_builtin; have _h := H1; refine at_out_lit H1.out (.tmp 87) (.tmp 89) [f 0] (by simp at hb ⊢; omega) rfl rfl rfl rfl ?_; intro v2 w2 o2; have H2 := Lib.hid o2; clear o2) | (at_builtin; have _h := H0; refine at_out_lit H0.out (.tmp 79) (.tmp 80) [45] (by simp at hb ⊢; omega) rfl rfl rfl rfl ?_; intro v1 w1 o1; have H1 := Lib.hid o1; clear o1; have q0 := HC0.out _ H1.out.keeps))
   go_ret
   refine ⟨_, rfl, ?_⟩
   have h := H5.out
   simp only [List.append_assoc] at h ⊢
   exact h
set_option maxRecDepth 1000000 in
set_option maxHeartbeats 40000000 in
theorem fmtE_true_1_p (neg : Bool) (nd X : Nat) (dp : Int) (f : Nat → UInt8) (hneg : neg = true) (hnd : nd ≤ 20) (hdp : -500 ≤ dp) (hdp2 : dp ≤ 520) (hX : dp - 1 = (X : Int)) (hX2 : 6 ≤ X) (h1 : nd = 1) :
 ∃ T : List UInt8, T.length ≤ 1000 ∧ (Fl.Digits f nd → 1 ≤ nd → Fl.nval (Fl.dsq f 0 nd) < 10 ^ 19 → Fl.NumText neg T (Fl.nval (Fl.dsq f 0 nd)) (dp - nd)) ∧ ∀ (w : World) (v : Value) (l : List UInt8) (B : Nat), Own w v l → ¬ v.ownBlock = some B → Digs w B nd f → l.length ≤ 140737488350000 →
  Calls Tryz.prog 111 #[v, .bool neg, .slice (some ⟨B, 0, none⟩) 32 32, .int .i64 dp, .int .i64 (nd : Int), .int .i64 (nd : Int), .int .u8 103, .bool true] w (OutRes w v (l ++ T)) := by
 subst hneg h1
 have hX9 : X < 1000 := by omega
 by_cases x1 : X < 10
 · obtain ⟨c0, hu0⟩ := u8_of (X + 48) (by omega)
   have hc0 : (X : Int) + 48 = (c0.toNat : Int) := by omega
   clear hu0
   refine ⟨[45] ++ [f 0] ++ [101] ++ [43] ++ [48, c0], by simp; try omega, fun hdg h1n hv => ?_, fun w v l B hown hvb hc hb => ?_⟩
   · have key := Fl.numText_E true f 1 [] _ _ dp hdg h1n hv (by rfl) (Fl.exp_one false c0 X hc0 x1) (by simp only [Bool.false_eq_true, if_false]; omega)
     rw [if_pos rfl] at key
     simpa [List.append_assoc] using key
   have H0 := Lib.hid (Out.start hown)
   have hc0 := hc 0 (by omega)
   have HC0 : Hid (∀ w', Keeps (blk v) w w' → w'.cell? ⟨B, 0, none⟩ = some (.int .u8 ((f 0).toNat : Int))) := fun w' hk => hk.cell hc0 hvb
   have HB := Lib.hid hvb
   clear hc hvb
   go_enter Tryz.func111, Tryz.ntmps111
   go_wp2_with (first | (at_builtin; have _h := H4; refine at_out_lit H4.out (.tmp 155) (.tmp 159) [48, c0] (by simp at hb ⊢; omega) rfl rfl rfl rfl ?_; intro v5 w5 o5; have H5 := Lib.hid o5; clear o5) | (at_builtin; have _h := H3; refine at_out_lit H3.out (.tmp 132) (.tmp 134) [43] (by simp at hb ⊢; omega) rfl rfl rfl rfl ?_; intro v4 w4 o4; have H4 := Lib.hid o4; clear o4) | (at_builtin; have _h := H2; refine at_out_lit H2.out (.tmp 120) (.tmp 122) [101] (by simp at hb ⊢; omega) rfl rfl rfl rfl ?_; intro v3 w3 o3; have H3 := Lib.hid o3; clear o3) | (at_builtin; have _h := H1; refine at_out_lit H1.out (.tmp 87) (.tmp 89) [f 0] (by simp at hb ⊢; omega) rfl rfl rfl rfl ?_; intro v2 w2 o2; have H2 := Lib.hid o2; clear o2) | (at_builtin; have _h := H0; refine at_out_lit H0.out (.tmp 79) (.tmp 80) [45] (by simp at hb ⊢; omega) rfl rfl rfl rfl ?_; intro v1 w1 o1; have H1 := Lib.hid o1; clear o1; have q0 := HC0.out _ H1.out.keeps))
   go_ret
   refine ⟨_, rfl, ?_⟩
   have h := H5.out
   simp only [List.append_assoc] at h ⊢
   exact h
 by_cases x2 : X < 100
 · obtain ⟨c0, hu0⟩ := u8_of (X % 10 + 48) (by omega)
   obtain ⟨c1, hu1⟩ := u8_of (X / 10 + 48) (by omega)
   have hc0 : (X : Int) % 10 + 48 = (c0.toNat : Int) := by omega
   have hc1 : (X : Int) / 10 + 48 = (c1.toNat : Int) := by omega
   clear hu0 hu1
   refine ⟨[45] ++ [f 0] ++ [101] ++ [43] ++ [c1, c0], by simp; try omega, fun hdg h1n hv => ?_, fun w v l B hown hvb hc hb => ?_⟩
   · have key := Fl.numText_E true f 1 [] _ _ dp hdg h1n hv (by rfl) (Fl.exp_two false c1 c0 X hc0 hc1 x2) (by simp only [Bool.false_eq_true, if_false]; omega)
     rw [if_pos rfl] at key
     simpa [List.append_assoc] using key
   have H0 := Lib.hid (Out.start hown)
   have hc0 := hc 0 (by omega)
   have HC0 : Hid (∀ w', Keeps (blk v) w w' → w'.cell? ⟨B, 0, none⟩ = some (.int .u8 ((f 0).toNat : Int))) := fun w' hk => hk.cell hc0 hvb
   have HB := Lib.hid hvb
   clear hc hvb
   go_enter Tryz.func111, Tryz.ntmps111
   go_wp2_with (first | (at_builtin; have _h := H4; refine at_out_lit H4.out (.tmp 164) (.tmp 173) [c1, c0] (by simp at hb ⊢; omega) rfl rfl rfl rfl ?_; intro v5 w5 o5; have H5 := Lib.hid o5; clear o5) | (at_builtin; have _h := H3; refine at_out_lit H3.out (.tmp 132) (.tmp 134) [43] (by simp at hb ⊢; omega) rfl rfl rfl rfl ?_; intro v4 w4 o4; have H4 := Lib.hid o4; clear o4) | (at_builtin; have _h := H2; refine at_out_lit H2.out (.tmp 120) (.tmp 122) [101] (by simp at hb ⊢; omega) rfl rfl rfl rfl ?_; intro v3 w3 o3; have H3 := Lib.hid o3; clear o3) | (at_builtin; have _h := H1; refine at_out_lit H1.out (.tmp 87) (.tmp 89) [f 0] (by simp at hb ⊢; omega) rfl rfl rfl rfl ?_; intro v2 w2 o2; have H2 := Lib.hid o2; clear o2) | (at_builtin; have _h := H0; refine at_out_lit H0.out (.tmp 79) (.tmp 80) [45] (by simp at hb ⊢; omega) rfl rfl rfl rfl ?_; intro v1 w1 o1; have H1 := Lib.hid o1; clear o1; have q0 := HC0.out _ H1.out.keeps))
   go_ret
   refine ⟨_, rfl, ?_⟩
   have h := H5.out
   simp only [List.append_assoc] at h ⊢
   exact h
 · obtain ⟨c0, hu0⟩ := u8_of (X % 10 + 48) (by omega)
   obtain ⟨c1, hu1⟩ := u8_of (X / 10 % 10 + 48) (by omega)
   obtain ⟨c2, hu2⟩ := u8_of (X / 100 + 48) (by omega)
   have hc0 : (X : Int) % 10 + 48 = (c0.toNat : Int) := by omega
   have hc1 : (X : Int) / 10 % 10 + 48 = (c1.toNat : Int) := by omega
   have hc2 : (X : Int) / 100 + 48 = (c2.toNat : Int) := by omega
   clear hu0 hu1 hu2
   refine ⟨[45] ++ [f 0] ++ [101] ++ [43] ++ [c2, c1, c0], by simp; try omega, fun hdg h1n hv => ?_, fun w v l B hown hvb hc hb => ?_⟩
   · have key := Fl.numText_E true f 1 [] _ _ dp hdg h1n hv (by rfl) (Fl.exp_three false c2 c1 c0 X hc0 hc1 hc2 hX9) (by simp only [Bool.false_eq_true, if_false]; omega)
     rw [if_pos rfl] at key
     simpa [List.append_assoc] using key
   have H0 := Lib.hid (Out.start hown)
   have hc0 := hc 0 (by omega)
   have HC0 : Hid (∀ w', Keeps (blk v) w w' → w'.cell? ⟨B, 0, none⟩ = some (.int .u8 ((f 0).toNat : Int))) := fun w' hk => hk.cell hc0 hvb
   have HB := Lib.hid hvb
   clear hc hvb
   go_enter Tryz.func111, Tryz.ntmps111
   go_wp2_with (first | (at_builtin; have _h := H4; refine at_out_lit H4.out (.tmp 136) (.tmp 150) [c2, c1, c0] (by simp at hb ⊢; omega) rfl rfl rfl rfl ?_; intro v5 w5 o5; have H5 := Lib.hid o5; clear o5) | (at_builtin; have _h := H3; refine at_out_lit H3.out (.tmp 132) (.tmp 134) [43] (by simp at hb ⊢; omega) rfl rfl rfl rfl ?_; intro v4 w4 o4; have H4 := Lib.hid o4; clear o4) | (at_builtin; have _h := H2; refine at_out_lit H2.out (.tmp 120) (.tmp 122) [101] (by simp at hb ⊢; omega) rfl rfl rfl rfl ?_; intro v3 w3 o3; have H3 := Lib.hid o3; clear o3) | (at_builtin; have _h := H1; refine at_out_lit H1.out (.tmp 87) (.tmp 89) [f 0] (by simp at hb ⊢; omega) rfl rfl rfl rfl ?_; intro v2 w2 o2; have H2 := Lib.hid o2; clear o2) | (at_builtin; have _h := H0; refine at_out_lit H0.out (.tmp 79) (.tmp 80) [45] (by simp at hb ⊢; omega) rfl rfl rfl rfl ?_; intro v1 w1 o1; have H1 := Lib.hid o1; clear o1; have q0 := HC0.out _ H1.out.keeps))
   go_ret
   refine ⟨_, rfl, ?_⟩
   have h := H5.out
   simp only [List.append_assoc] at h ⊢
   exact h
end Go.Proofs.YtonegoemmologaaGreatDoor
