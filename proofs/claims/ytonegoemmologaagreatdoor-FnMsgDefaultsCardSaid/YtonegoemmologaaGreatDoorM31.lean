/-
  Small functions of the reference: letters, digits, names; what a kind's values are.
  Utf8, Utf8Size, Utf8Valid, shortFloat of the reference: how they end.
-/
import Derived.Test.YtonegoemmologaaGreatDoorM18
import Derived.Test.YtonegoemmologaaGreatDoorM02
import Derived.BigQuiet
import Derived.Deep.QuietTactic
import Derived.Laws.Externs
set_option linter.unusedVariables false
set_option linter.unusedSimpArgs false
namespace Go.Proofs.YtonegoemmologaaGreatDoor
open Go.RowKit
set_option maxRecDepth 100000 in
theorem sletter (d : Nat) (w : World) : Calls Tryz.prog 63 #[.int .u8 d] w (Tells w True) := by
 go_enter Tryz.func63, Tryz.ntmps63
 go_wp2
 all_goals go_ret
 all_goals exact ⟨_, rfl, fun _ => trivial, Keeps.refl _ _⟩
set_option maxRecDepth 100000 in
theorem sdigit (d : Nat) (w : World) : Calls Tryz.prog 64 #[.int .u8 d] w (Tells w True) := by
 go_enter Tryz.func64, Tryz.ntmps64
 go_wp2
 all_goals go_ret
 all_goals exact ⟨_, rfl, fun _ => trivial, Keeps.refl _ _⟩
set_option maxRecDepth 100000 in
set_option maxHeartbeats 4000000 in
theorem ident_tells (s : ByteArray) (hsz : s.size ≤ 2147483647) (w : World) : Calls Tryz.prog 27 #[.string s] w (Tells w (1 ≤ s.size)) := by
 obtain ⟨l, rfl⟩ : ∃ l, s = mk l := ⟨s.data.toList, (mk_of s).symm⟩
 have hat := fun k h w' => run_at l k h w'
 have HAT := Lib.hid hat
 have HZ : Hid ((mk l).size = l.length) := mk_size l
 obtain ⟨s, hs⟩ : ∃ s, mk l = s := ⟨_, rfl⟩
 have HS := Lib.hid hs
 rw [hs] at hsz HZ ⊢
 clear hat hs
 by_cases h0 : s.size = 0
 · obtain rfl : s = ⟨#[]⟩ := by
    have h1 := HZ.out
    have : l = [] := List.eq_nil_of_length_eq_zero (by omega)
    rw [← HS.out, this]
    rfl
   go_enter Tryz.func27, Tryz.ntmps27
   go_wp2_with (fail)
   refine wp_loop_once ?_
   go_wp2_with (fail)
   go_ret
   exact Tells.no (Keeps.refl _ w)
 · have hne : s.toList.isEmpty = false := by
    have h1 := HZ.out
    rw [← HS.out, mk_toList]
    cases l with
    | nil => exact absurd h1 h0
    | cons x l => rfl
   have HH0 := Lib.hid h0
   go_enter Tryz.func27, Tryz.ntmps27
   go_wp2_with (fail)
   go_loopw [3] (fun i wr => ∃ k : Nat, i = .int .i64 (k : Nat) ∧ k ≤ s.size ∧ Keeps (fun _ => False) w wr) (fun i _ => s.size - natOfV i)
   case atStart => exact ⟨0, rfl, Nat.zero_le _, Keeps.refl _ _⟩
   case round =>
    obtain ⟨k, rfl, hk, hkw⟩ := hrel
    have HK := Lib.hid hkw
    clear hkw
    by_cases hlt : k < s.size
    · have t1 : (k : Int) < (s.size : Int) := by omega
      have t0 : (0 : Int) ≤ (k : Int) := by omega
      have hx := HAT.out k (by have h1 := HZ.out; omega)
      rw [HS.out] at hx
      obtain ⟨d, hd⟩ : ∃ d, (l[k]'(by have h1 := HZ.out; omega)).toNat = d := ⟨_, rfl⟩
      rw [hd] at hx
      have hwr : IntKind.i64.wrap ((k : Int) + 1) = ((k + 1 : Nat) : Int) := by rw [IntWalk.i64_in _ (by omega)]; rfl
      go_wp2_with (first
       | (go_at_call 63; refine (sletter d _).mono ?_; rintro e w' ⟨b1, rfl, _, k1⟩; have K1 := Lib.hid k1; clear k1; cases b1)
       | (go_at_call 64; refine (sdigit d _).mono ?_; rintro e w'' ⟨b2, rfl, _, k2⟩; have K2 := Lib.hid (K1.out.trans k2 (fun _ _ => id)); clear k2; cases b2))
      all_goals first
       | (go_ret; first | exact Tells.no (HK.out.trans K2.out (fun _ _ => id)) | exact Tells.no (HK.out.trans K1.out (fun _ _ => id)))
       | (go_roundw
          case rel => first | exact ⟨k + 1, rfl, by omega, HK.out.trans K2.out (fun _ _ => id)⟩ | exact ⟨k + 1, rfl, by omega, HK.out.trans K1.out (fun _ _ => id)⟩
          case measure => simp [natOfV]; omega)
    · have t1 : ¬ (k : Int) < (s.size : Int) := by omega
      go_wp2_with (fail)
      all_goals go_ret
      all_goals exact Tells.yes (by have h1 := HH0.out; omega) HK.out
def sortK (k : Int) : Int :=
 if k = 8 then 1 else if k = 5 then 2 else if k = 3 then 2 else if k = 17 then 2 else if k = 18 then 2 else if k = 15 then 2 else if k = 16 then 2 else if k = 13 then 3 else if k = 4 then 3 else if k = 7 then 3 else if k = 6 then 3 else if k = 2 then 4 else if k = 1 then 4 else if k = 9 then 5 else if k = 12 then 6 else if k = 14 then 7 else if k = 11 then 8 else if k = 10 then 8 else 0
def narrowK (k : Int) : Bool := decide (k = 2 ∨ k = 5 ∨ k = 7 ∨ k = 13 ∨ k = 15 ∨ k = 17 ∨ k = 14)
set_option maxRecDepth 100000 in
set_option maxHeartbeats 4000000 in
theorem sortOf_any (k : Int) (w : World) : Calls Tryz.prog 65 #[.int .i64 k] w fun e w' => e = .returned (.int .i64 (sortK k)) ∧ w = w' := by
 by_cases h8 : k = 8
 · subst h8
   go_enter Tryz.func65, Tryz.ntmps65
   go_wp2
   go_ret
   exact ⟨rfl, rfl⟩
 by_cases h5 : k = 5
 · subst h5
   go_enter Tryz.func65, Tryz.ntmps65
   go_wp2
   go_ret
   exact ⟨rfl, rfl⟩
 by_cases h3 : k = 3
 · subst h3
   go_enter Tryz.func65, Tryz.ntmps65
   go_wp2
   go_ret
   exact ⟨rfl, rfl⟩
 by_cases h17 : k = 17
 · subst h17
   go_enter Tryz.func65, Tryz.ntmps65
   go_wp2
   go_ret
   exact ⟨rfl, rfl⟩
 by_cases h18 : k = 18
 · subst h18
   go_enter Tryz.func65, Tryz.ntmps65
   go_wp2
   go_ret
   exact ⟨rfl, rfl⟩
 by_cases h15 : k = 15
 · subst h15
   go_enter Tryz.func65, Tryz.ntmps65
   go_wp2
   go_ret
   exact ⟨rfl, rfl⟩
 by_cases h16 : k = 16
 · subst h16
   go_enter Tryz.func65, Tryz.ntmps65
   go_wp2
   go_ret
   exact ⟨rfl, rfl⟩
 by_cases h13 : k = 13
 · subst h13
   go_enter Tryz.func65, Tryz.ntmps65
   go_wp2
   go_ret
   exact ⟨rfl, rfl⟩
 by_cases h4 : k = 4
 · subst h4
   go_enter Tryz.func65, Tryz.ntmps65
   go_wp2
   go_ret
   exact ⟨rfl, rfl⟩
 by_cases h7 : k = 7
 · subst h7
   go_enter Tryz.func65, Tryz.ntmps65
   go_wp2
   go_ret
   exact ⟨rfl, rfl⟩
 by_cases h6 : k = 6
 · subst h6
   go_enter Tryz.func65, Tryz.ntmps65
   go_wp2
   go_ret
   exact ⟨rfl, rfl⟩
 by_cases h2 : k = 2
 · subst h2
   go_enter Tryz.func65, Tryz.ntmps65
   go_wp2
   go_ret
   exact ⟨rfl, rfl⟩
 by_cases h1 : k = 1
 · subst h1
   go_enter Tryz.func65, Tryz.ntmps65
   go_wp2
   go_ret
   exact ⟨rfl, rfl⟩
 by_cases h9 : k = 9
 · subst h9
   go_enter Tryz.func65, Tryz.ntmps65
   go_wp2
   go_ret
   exact ⟨rfl, rfl⟩
 by_cases h12 : k = 12
 · subst h12
   go_enter Tryz.func65, Tryz.ntmps65
   go_wp2
   go_ret
   exact ⟨rfl, rfl⟩
 by_cases h14 : k = 14
 · subst h14
   go_enter Tryz.func65, Tryz.ntmps65
   go_wp2
   go_ret
   exact ⟨rfl, rfl⟩
 by_cases h11 : k = 11
 · subst h11
   go_enter Tryz.func65, Tryz.ntmps65
   go_wp2
   go_ret
   exact ⟨rfl, rfl⟩
 by_cases h10 : k = 10
 · subst h10
   go_enter Tryz.func65, Tryz.ntmps65
   go_wp2
   go_ret
   exact ⟨rfl, rfl⟩
 have t8 : (k == 8) = false := by simp [h8]
 have t5 : (k == 5) = false := by simp [h5]
 have t3 : (k == 3) = false := by simp [h3]
 have t17 : (k == 17) = false := by simp [h17]
 have t18 : (k == 18) = false := by simp [h18]
 have t15 : (k == 15) = false := by simp [h15]
 have t16 : (k == 16) = false := by simp [h16]
 have t13 : (k == 13) = false := by simp [h13]
 have t4 : (k == 4) = false := by simp [h4]
 have t7 : (k == 7) = false := by simp [h7]
 have t6 : (k == 6) = false := by simp [h6]
 have t2 : (k == 2) = false := by simp [h2]
 have t1 : (k == 1) = false := by simp [h1]
 have t9 : (k == 9) = false := by simp [h9]
 have t12 : (k == 12) = false := by simp [h12]
 have t14 : (k == 14) = false := by simp [h14]
 have t11 : (k == 11) = false := by simp [h11]
 have t10 : (k == 10) = false := by simp [h10]
 go_enter Tryz.func65, Tryz.ntmps65
 go_wp2
 go_ret
 exact ⟨by simp [sortK, h8, h5, h3, h17, h18, h15, h16, h13, h4, h7, h6, h2, h1, h9, h12, h14, h11, h10], rfl⟩
set_option maxRecDepth 100000 in
set_option maxHeartbeats 4000000 in
theorem narrow_any (k : Int) (w : World) : Calls Tryz.prog 82 #[.int .i64 k] w fun e w' => ∃ b, e = .returned (.bool b) ∧ b = narrowK k ∧ Keeps (fun _ => False) w w' := by
 by_cases h8 : k = 8
 · subst h8
   go_enter Tryz.func82, Tryz.ntmps82
   go_wp2
   go_ret
   exact ⟨_, rfl, rfl, Keeps.refl _ _⟩
 by_cases h5 : k = 5
 · subst h5
   go_enter Tryz.func82, Tryz.ntmps82
   go_wp2
   go_ret
   exact ⟨_, rfl, rfl, Keeps.refl _ _⟩
 by_cases h3 : k = 3
 · subst h3
   go_enter Tryz.func82, Tryz.ntmps82
   go_wp2
   go_ret
   exact ⟨_, rfl, rfl, Keeps.refl _ _⟩
 by_cases h17 : k = 17
 · subst h17
   go_enter Tryz.func82, Tryz.ntmps82
   go_wp2
   go_ret
   exact ⟨_, rfl, rfl, Keeps.refl _ _⟩
 by_cases h18 : k = 18
 · subst h18
   go_enter Tryz.func82, Tryz.ntmps82
   go_wp2
   go_ret
   exact ⟨_, rfl, rfl, Keeps.refl _ _⟩
 by_cases h15 : k = 15
 · subst h15
   go_enter Tryz.func82, Tryz.ntmps82
   go_wp2
   go_ret
   exact ⟨_, rfl, rfl, Keeps.refl _ _⟩
 by_cases h16 : k = 16
 · subst h16
   go_enter Tryz.func82, Tryz.ntmps82
   go_wp2
   go_ret
   exact ⟨_, rfl, rfl, Keeps.refl _ _⟩
 by_cases h13 : k = 13
 · subst h13
   go_enter Tryz.func82, Tryz.ntmps82
   go_wp2
   go_ret
   exact ⟨_, rfl, rfl, Keeps.refl _ _⟩
 by_cases h4 : k = 4
 · subst h4
   go_enter Tryz.func82, Tryz.ntmps82
   go_wp2
   go_ret
   exact ⟨_, rfl, rfl, Keeps.refl _ _⟩
 by_cases h7 : k = 7
 · subst h7
   go_enter Tryz.func82, Tryz.ntmps82
   go_wp2
   go_ret
   exact ⟨_, rfl, rfl, Keeps.refl _ _⟩
 by_cases h6 : k = 6
 · subst h6
   go_enter Tryz.func82, Tryz.ntmps82
   go_wp2
   go_ret
   exact ⟨_, rfl, rfl, Keeps.refl _ _⟩
 by_cases h2 : k = 2
 · subst h2
   go_enter Tryz.func82, Tryz.ntmps82
   go_wp2
   go_ret
   exact ⟨_, rfl, rfl, Keeps.refl _ _⟩
 by_cases h1 : k = 1
 · subst h1
   go_enter Tryz.func82, Tryz.ntmps82
   go_wp2
   go_ret
   exact ⟨_, rfl, rfl, Keeps.refl _ _⟩
 by_cases h9 : k = 9
 · subst h9
   go_enter Tryz.func82, Tryz.ntmps82
   go_wp2
   go_ret
   exact ⟨_, rfl, rfl, Keeps.refl _ _⟩
 by_cases h12 : k = 12
 · subst h12
   go_enter Tryz.func82, Tryz.ntmps82
   go_wp2
   go_ret
   exact ⟨_, rfl, rfl, Keeps.refl _ _⟩
 by_cases h14 : k = 14
 · subst h14
   go_enter Tryz.func82, Tryz.ntmps82
   go_wp2
   go_ret
   exact ⟨_, rfl, rfl, Keeps.refl _ _⟩
 by_cases h11 : k = 11
 · subst h11
   go_enter Tryz.func82, Tryz.ntmps82
   go_wp2
   go_ret
   exact ⟨_, rfl, rfl, Keeps.refl _ _⟩
 by_cases h10 : k = 10
 · subst h10
   go_enter Tryz.func82, Tryz.ntmps82
   go_wp2
   go_ret
   exact ⟨_, rfl, rfl, Keeps.refl _ _⟩
 have t8 : (k == 8) = false := by simp [h8]
 have t5 : (k == 5) = false := by simp [h5]
 have t3 : (k == 3) = false := by simp [h3]
 have t17 : (k == 17) = false := by simp [h17]
 have t18 : (k == 18) = false := by simp [h18]
 have t15 : (k == 15) = false := by simp [h15]
 have t16 : (k == 16) = false := by simp [h16]
 have t13 : (k == 13) = false := by simp [h13]
 have t4 : (k == 4) = false := by simp [h4]
 have t7 : (k == 7) = false := by simp [h7]
 have t6 : (k == 6) = false := by simp [h6]
 have t2 : (k == 2) = false := by simp [h2]
 have t1 : (k == 1) = false := by simp [h1]
 have t9 : (k == 9) = false := by simp [h9]
 have t12 : (k == 12) = false := by simp [h12]
 have t14 : (k == 14) = false := by simp [h14]
 have t11 : (k == 11) = false := by simp [h11]
 have t10 : (k == 10) = false := by simp [h10]
 go_enter Tryz.func82, Tryz.ntmps82
 go_wp2
 go_ret
 exact ⟨_, rfl, by simp [narrowK, h8, h5, h3, h17, h18, h15, h16, h13, h4, h7, h6, h2, h1, h9, h12, h14, h11, h10], Keeps.refl _ _⟩
end Go.Proofs.YtonegoemmologaaGreatDoor
namespace Go.Proofs.YtonegoemmologaaGreatDoor
open Go.RowKit
def LenIn (w : World) (lo hi : Nat) (e : Ending) (w' : World) : Prop := ∃ a n c, e = .returned (.slice a n c) ∧ lo ≤ n ∧ n ≤ hi ∧ Keeps (fun _ => False) w w'
def U8At (w : World) (a : Option Addr) (n : Nat) : Prop := 0 < n → ∃ b off, a = some ⟨b, off, none⟩ ∧ ∀ j, j < n → ∃ k : Nat, k < 256 ∧ w.cell? ⟨b, off + j, none⟩ = some (.int .u8 (k : Int))
set_option maxRecDepth 1000000 in
set_option maxHeartbeats 8000000 in
theorem utf8_any (x : Int) (w : World) : Calls Tryz.prog 131 #[.int .i64 x] w (LenIn w 1 4) := by
 by_cases h0 : x < 128
 · go_enter Tryz.func131, Tryz.ntmps131
   go_wp2_with (fail)
   go_ret
   exact ⟨_, _, _, rfl, by decide, by decide, (Keeps.refl _ w).alloc _⟩
 by_cases h1 : x < 2048
 · go_enter Tryz.func131, Tryz.ntmps131
   go_wp2_with (fail)
   go_ret
   exact ⟨_, _, _, rfl, by decide, by decide, (Keeps.refl _ w).alloc _⟩
 by_cases h2 : x < 65536
 · go_enter Tryz.func131, Tryz.ntmps131
   go_wp2_with (fail)
   go_ret
   exact ⟨_, _, _, rfl, by decide, by decide, (Keeps.refl _ w).alloc _⟩
 · go_enter Tryz.func131, Tryz.ntmps131
   go_wp2_with (fail)
   go_ret
   exact ⟨_, _, _, rfl, by decide, by decide, (Keeps.refl _ w).alloc _⟩
theorem frombits_run (f : Nat) (w : World) : (callFunc 23 #[.int .u64 (f : Int)]).run Tryz.prog w = .ok (.value (.float .f64 f)) w := by
 rw [run_callFunc_extern Tryz.func23 (e := Extern.MathFloatBits.float64frombits) (by kernel_rfl) (by kernel_rfl) (by kernel_rfl) (by kernel_rfl)]
 rfl
set_option maxRecDepth 1000000 in
set_option maxHeartbeats 8000000 in
theorem bitsFloat_any (f : Nat) (w : World) : Calls Tryz.prog 100 #[.int .u64 (f : Int)] w fun e w' => e = .returned (.float .f64 f) ∧ w = w' := by
 have hd := frombits_run f
 go_enter Tryz.func100, Tryz.ntmps100
 go_wp2_with (fail)
 go_ret
 exact ⟨rfl, rfl⟩
theorem ftf_run (P : Program) (sk dk : FloatKind) (b : Nat) (w : World) : ∃ r n, (Conv.floatToFloat sk b dk).run P w = .ok (.float dk r) (w.drewN n) := by
 unfold Conv.floatToFloat
 split
 · exact ⟨b, 0, rfl⟩
 split
 · by_cases hf : (Question.nanConv dk b).forced = true
   · exact ⟨0, 0, by simp [hf]; rfl⟩
   · exact ⟨_, 1, by simp [hf]; exact ⟨rfl, rfl⟩⟩
 · exact ⟨_, 0, rfl⟩
 · simp only
   split
   · by_cases hf : (Question.floatToFloat b).forced = true
     · exact ⟨0, 0, by simp [hf]; rfl⟩
     · exact ⟨_, 1, by simp [hf]; exact ⟨rfl, rfl⟩⟩
   · exact ⟨_, 0, rfl⟩
theorem convert_ff (sT dT : TypeId) (sk dk : FloatKind) (b : Nat) (w : World) (hs : (Tryz.prog.underlying sT).isSome = true) (hd : Tryz.prog.underlying dT = some (.float dk)) :
 ∃ r n, (convert sT dT (.float sk b)).run Tryz.prog w = .ok (.float dk r) (w.drewN n) := by
 obtain ⟨r, n, h⟩ := ftf_run Tryz.prog sk dk b w
 obtain ⟨s, hs'⟩ := Option.isSome_iff_exists.1 hs
 refine ⟨r, n, ?_⟩
 cases s <;> simp [convert, run_underlying hs', run_underlying hd, h]
def SizeIn (w : World) (n : Nat) (e : Ending) (w' : World) : Prop := ∃ r : Nat, e = .returned (.int .i64 (r : Int)) ∧ r ≤ n ∧ Keeps (fun _ => False) w w'
set_option maxRecDepth 1000000 in
set_option maxHeartbeats 20000000 in
theorem utf8Size_any (a : Option Addr) (n c : Nat) (hn : 1 ≤ n) (hn2 : n ≤ 9223372036854775807) (w : World) (hb : U8At w a n) : Calls Tryz.prog 101 #[.slice a n c] w (SizeIn w n) := by
 obtain ⟨b, off, rfl, hc⟩ := hb hn
 obtain ⟨k, hk, h0⟩ := hc 0 (by omega)
 have HC := Lib.hid hc
 simp only [Nat.add_zero] at h0
 clear hc hb
 have q0 : (0 : Int) < (n : Int) := by omega
 have hk2 : (k : Int) < 256 := by omega
 by_cases k1 : (k : Int) < 128
 · go_enter Tryz.func101, Tryz.ntmps101
   go_wp2_with (fail)
   go_quiet (fail)
   go_wp2_with (fail)
   go_ret
   exact ⟨1, rfl, hn, (Keeps.refl _ w).drewN _⟩
 by_cases k2 : (k : Int) < 192
 · go_enter Tryz.func101, Tryz.ntmps101
   go_wp2_with (fail)
   go_quiet (fail)
   go_wp2_with (fail)
   go_ret
   exact ⟨0, rfl, by omega, (Keeps.refl _ w).drewN _⟩
 by_cases k224 : (k : Int) < 224
 · have HC2 := HC.out
   by_cases hlm : (n : Int) < 2
   · go_enter Tryz.func101, Tryz.ntmps101
     go_wp2_with (fail)
     go_quiet (fail)
     go_wp2_with (fail)
     go_ret
     exact ⟨0, rfl, by omega, (Keeps.refl _ w).drewN _⟩
   · have hln : 2 ≤ n := by omega
     go_enter Tryz.func101, Tryz.ntmps101
     go_wp2_with (fail)
     go_quiet (fail)
     go_wp2_with (fail)
     go_loopw [4, 5] (fun x i wr => (∃ z : Int, x = .int .i64 z) ∧ ∃ j : Nat, i = .int .i64 (j : Int) ∧ 1 ≤ j ∧ j ≤ 2 ∧ Keeps (fun _ => False) w wr) (fun _ i _ => 2 - natOfV i)
     case atStart => exact ⟨⟨_, rfl⟩, 1, rfl, by omega, by omega, (Keeps.refl _ w).drewN _⟩
     case round =>
      obtain ⟨⟨z, rfl⟩, j, rfl, hj1, hjm, hkk⟩ := hrel
      have HK := Lib.hid hkk
      clear HC2
      by_cases hj : j < 2
      · obtain ⟨kj, hkj, hcj⟩ := HC.out j (by omega)
        have cj := HK.out.cell hcj id
        have t1 : (j : Int) < 2 := by omega
        have t2 : (j : Int) < (n : Int) := by omega
        have t0 : (0 : Int) ≤ (j : Int) := by omega
        have hwj : IntKind.i64.wrap ((j : Int) + 1) = ((j + 1 : Nat) : Int) := by rw [IntWalk.i64_in _ (by omega)]; rfl
        clear hcj hkk
        go_wp2_with (fail)
        all_goals first
         | (go_ret
            exact ⟨0, rfl, by omega, HK.out⟩)
         | (go_roundw
            case rel => exact ⟨⟨_, rfl⟩, j + 1, rfl, by omega, by omega, HK.out⟩
            case measure => simp [natOfV]; omega)
      · have t1 : ¬ (j : Int) < 2 := by omega
        clear hkk
        by_cases z1 : 1114111 < z
        · go_wp2_with (fail)
          go_ret
          exact ⟨0, rfl, by omega, HK.out⟩
        by_cases z2 : 55296 ≤ z
        · by_cases z3 : z < 57344
          · go_wp2_with (fail)
            go_ret
            exact ⟨0, rfl, by omega, HK.out⟩
          · go_wp2_with (go_at_call 131; refine (utf8_any z _).mono ?_; rintro e w2 ⟨a2, n2, c2, rfl, y1, y2, y3⟩; have Y3 := Lib.hid y3; clear y3; by_cases hnm : n2 = 2; (subst hnm); rotate_left; (have hnq : ((n2 : Int) != 2) = true := by simp; omega); rotate_left)
            all_goals go_ret
            · exact ⟨2, rfl, by omega, HK.out.trans Y3.out (fun _ _ => id)⟩
            · exact ⟨0, rfl, by omega, HK.out.trans Y3.out (fun _ _ => id)⟩
        · go_wp2_with (go_at_call 131; refine (utf8_any z _).mono ?_; rintro e w2 ⟨a2, n2, c2, rfl, y1, y2, y3⟩; have Y3 := Lib.hid y3; clear y3; by_cases hnm : n2 = 2; (subst hnm); rotate_left; (have hnq : ((n2 : Int) != 2) = true := by simp; omega); rotate_left)
          all_goals go_ret
          · exact ⟨2, rfl, by omega, HK.out.trans Y3.out (fun _ _ => id)⟩
          · exact ⟨0, rfl, by omega, HK.out.trans Y3.out (fun _ _ => id)⟩
 by_cases k240 : (k : Int) < 240
 · have HC2 := HC.out
   by_cases hlm : (n : Int) < 3
   · go_enter Tryz.func101, Tryz.ntmps101
     go_wp2_with (fail)
     go_quiet (fail)
     go_wp2_with (fail)
     go_ret
     exact ⟨0, rfl, by omega, (Keeps.refl _ w).drewN _⟩
   · have hln : 3 ≤ n := by omega
     go_enter Tryz.func101, Tryz.ntmps101
     go_wp2_with (fail)
     go_quiet (fail)
     go_wp2_with (fail)
     go_loopw [4, 5] (fun x i wr => (∃ z : Int, x = .int .i64 z) ∧ ∃ j : Nat, i = .int .i64 (j : Int) ∧ 1 ≤ j ∧ j ≤ 3 ∧ Keeps (fun _ => False) w wr) (fun _ i _ => 3 - natOfV i)
     case atStart => exact ⟨⟨_, rfl⟩, 1, rfl, by omega, by omega, (Keeps.refl _ w).drewN _⟩
     case round =>
      obtain ⟨⟨z, rfl⟩, j, rfl, hj1, hjm, hkk⟩ := hrel
      have HK := Lib.hid hkk
      clear HC2
      by_cases hj : j < 3
      · obtain ⟨kj, hkj, hcj⟩ := HC.out j (by omega)
        have cj := HK.out.cell hcj id
        have t1 : (j : Int) < 3 := by omega
        have t2 : (j : Int) < (n : Int) := by omega
        have t0 : (0 : Int) ≤ (j : Int) := by omega
        have hwj : IntKind.i64.wrap ((j : Int) + 1) = ((j + 1 : Nat) : Int) := by rw [IntWalk.i64_in _ (by omega)]; rfl
        clear hcj hkk
        go_wp2_with (fail)
        all_goals first
         | (go_ret
            exact ⟨0, rfl, by omega, HK.out⟩)
         | (go_roundw
            case rel => exact ⟨⟨_, rfl⟩, j + 1, rfl, by omega, by omega, HK.out⟩
            case measure => simp [natOfV]; omega)
      · have t1 : ¬ (j : Int) < 3 := by omega
        clear hkk
        by_cases z1 : 1114111 < z
        · go_wp2_with (fail)
          go_ret
          exact ⟨0, rfl, by omega, HK.out⟩
        by_cases z2 : 55296 ≤ z
        · by_cases z3 : z < 57344
          · go_wp2_with (fail)
            go_ret
            exact ⟨0, rfl, by omega, HK.out⟩
          · go_wp2_with (go_at_call 131; refine (utf8_any z _).mono ?_; rintro e w2 ⟨a2, n2, c2, rfl, y1, y2, y3⟩; have Y3 := Lib.hid y3; clear y3; by_cases hnm : n2 = 3; (subst hnm); rotate_left; (have hnq : ((n2 : Int) != 3) = true := by simp; omega); rotate_left)
            all_goals go_ret
            · exact ⟨3, rfl, by omega, HK.out.trans Y3.out (fun _ _ => id)⟩
            · exact ⟨0, rfl, by omega, HK.out.trans Y3.out (fun _ _ => id)⟩
        · go_wp2_with (go_at_call 131; refine (utf8_any z _).mono ?_; rintro e w2 ⟨a2, n2, c2, rfl, y1, y2, y3⟩; have Y3 := Lib.hid y3; clear y3; by_cases hnm : n2 = 3; (subst hnm); rotate_left; (have hnq : ((n2 : Int) != 3) = true := by simp; omega); rotate_left)
          all_goals go_ret
          · exact ⟨3, rfl, by omega, HK.out.trans Y3.out (fun _ _ => id)⟩
          · exact ⟨0, rfl, by omega, HK.out.trans Y3.out (fun _ _ => id)⟩
 by_cases k248 : (k : Int) < 248
 · have HC2 := HC.out
   by_cases hlm : (n : Int) < 4
   · go_enter Tryz.func101, Tryz.ntmps101
     go_wp2_with (fail)
     go_quiet (fail)
     go_wp2_with (fail)
     go_ret
     exact ⟨0, rfl, by omega, (Keeps.refl _ w).drewN _⟩
   · have hln : 4 ≤ n := by omega
     go_enter Tryz.func101, Tryz.ntmps101
     go_wp2_with (fail)
     go_quiet (fail)
     go_wp2_with (fail)
     go_loopw [4, 5] (fun x i wr => (∃ z : Int, x = .int .i64 z) ∧ ∃ j : Nat, i = .int .i64 (j : Int) ∧ 1 ≤ j ∧ j ≤ 4 ∧ Keeps (fun _ => False) w wr) (fun _ i _ => 4 - natOfV i)
     case atStart => exact ⟨⟨_, rfl⟩, 1, rfl, by omega, by omega, (Keeps.refl _ w).drewN _⟩
     case round =>
      obtain ⟨⟨z, rfl⟩, j, rfl, hj1, hjm, hkk⟩ := hrel
      have HK := Lib.hid hkk
      clear HC2
      by_cases hj : j < 4
      · obtain ⟨kj, hkj, hcj⟩ := HC.out j (by omega)
        have cj := HK.out.cell hcj id
        have t1 : (j : Int) < 4 := by omega
        have t2 : (j : Int) < (n : Int) := by omega
        have t0 : (0 : Int) ≤ (j : Int) := by omega
        have hwj : IntKind.i64.wrap ((j : Int) + 1) = ((j + 1 : Nat) : Int) := by rw [IntWalk.i64_in _ (by omega)]; rfl
        clear hcj hkk
        go_wp2_with (fail)
        all_goals first
         | (go_ret
            exact ⟨0, rfl, by omega, HK.out⟩)
         | (go_roundw
            case rel => exact ⟨⟨_, rfl⟩, j + 1, rfl, by omega, by omega, HK.out⟩
            case measure => simp [natOfV]; omega)
      · have t1 : ¬ (j : Int) < 4 := by omega
        clear hkk
        by_cases z1 : 1114111 < z
        · go_wp2_with (fail)
          go_ret
          exact ⟨0, rfl, by omega, HK.out⟩
        by_cases z2 : 55296 ≤ z
        · by_cases z3 : z < 57344
          · go_wp2_with (fail)
            go_ret
            exact ⟨0, rfl, by omega, HK.out⟩
          · go_wp2_with (go_at_call 131; refine (utf8_any z _).mono ?_; rintro e w2 ⟨a2, n2, c2, rfl, y1, y2, y3⟩; have Y3 := Lib.hid y3; clear y3; by_cases hnm : n2 = 4; (subst hnm); rotate_left; (have hnq : ((n2 : Int) != 4) = true := by simp; omega); rotate_left)
            all_goals go_ret
            · exact ⟨4, rfl, by omega, HK.out.trans Y3.out (fun _ _ => id)⟩
            · exact ⟨0, rfl, by omega, HK.out.trans Y3.out (fun _ _ => id)⟩
        · go_wp2_with (go_at_call 131; refine (utf8_any z _).mono ?_; rintro e w2 ⟨a2, n2, c2, rfl, y1, y2, y3⟩; have Y3 := Lib.hid y3; clear y3; by_cases hnm : n2 = 4; (subst hnm); rotate_left; (have hnq : ((n2 : Int) != 4) = true := by simp; omega); rotate_left)
          all_goals go_ret
          · exact ⟨4, rfl, by omega, HK.out.trans Y3.out (fun _ _ => id)⟩
          · exact ⟨0, rfl, by omega, HK.out.trans Y3.out (fun _ _ => id)⟩
 · go_enter Tryz.func101, Tryz.ntmps101
   go_wp2_with (fail)
   go_quiet (fail)
   go_wp2_with (fail)
   go_ret
   exact ⟨0, rfl, by omega, (Keeps.refl _ w).drewN _⟩
theorem U8At.from {w w' : World} {a : Option Addr} {n : Nat} (h : U8At w a n) (hk : Keeps (fun _ => False) w w') (i : Nat) (b off : Nat) (ha : a = some ⟨b, off, none⟩) : U8At w' (some ⟨b, off + i, none⟩) (n - i) := by
 intro hn
 obtain ⟨b', off', e, hc⟩ := h (by omega)
 rw [ha] at e
 injection e with e
 injection e with e1 e2
 subst e1 e2
 refine ⟨b, off + i, rfl, fun j hj => ?_⟩
 obtain ⟨k, h1, h2⟩ := hc (i + j) (by omega)
 refine ⟨k, h1, ?_⟩
 rw [Nat.add_assoc]
 exact hk.cell h2 id
set_option maxRecDepth 1000000 in
set_option maxHeartbeats 20000000 in
theorem utf8Valid_tells (a : Option Addr) (n c : Nat) (hnc : n ≤ c) (hc : c ≤ 9223372036854775807) (w : World) (hb : U8At w a n) : Calls Tryz.prog 84 #[.slice a n c] w (Tells w True) := by
 have HB := Lib.hid hb
 clear hb
 go_enter Tryz.func84, Tryz.ntmps84
 go_wp2_with (fail)
 go_loopw [3] (fun i wr => ∃ j : Nat, i = .int .i64 (j : Int) ∧ j ≤ n ∧ Keeps (fun _ => False) w wr) (fun i _ => n - natOfV i)
 case atStart => exact ⟨0, rfl, by omega, Keeps.refl _ _⟩
 case round =>
  obtain ⟨j, rfl, hj, hkk⟩ := hrel
  have HK := Lib.hid hkk
  clear hkk
  by_cases hjn : j < n
  · have t1 : (j : Int) < (n : Int) := by omega
    have t0 : (0 : Int) ≤ (j : Int) := by omega
    have t2 : (j : Int) ≤ (n : Int) := by omega
    have t3 : (n : Int) ≤ (c : Int) := by omega
    obtain ⟨b, off, rfl, _⟩ := HB.out (by omega)
    have HS := Lib.hid (utf8Size_any (some ⟨b, off + j, none⟩) (n - j) (c - j) (by omega) (by omega) _ (HB.out.from HK.out j b off rfl))
    go_wp2_with (go_at_call 101; refine HS.out.mono ?_; rintro e w2 ⟨r, rfl, y1, y2⟩; have Y2 := Lib.hid y2; clear y2; by_cases hr : r = 0; (subst hr); rotate_left; (have hrq : ((r : Int) == 0) = false := by simp; omega); (have hwr : IntKind.i64.wrap ((j : Int) + (r : Int)) = ((j + r : Nat) : Int) := by rw [IntWalk.i64_in _ (by omega)]; rfl); rotate_left)
    · go_ret
      exact Tells.no (HK.out.trans Y2.out (fun _ _ => id))
    · go_roundw
      case rel => exact ⟨j + r, rfl, by omega, HK.out.trans Y2.out (fun _ _ => id)⟩
      case measure => simp [natOfV]; omega
  · have t1 : ¬ (j : Int) < (n : Int) := by omega
    go_wp2_with (fail)
    go_ret
    exact Tells.yes trivial HK.out
end Go.Proofs.YtonegoemmologaaGreatDoor
