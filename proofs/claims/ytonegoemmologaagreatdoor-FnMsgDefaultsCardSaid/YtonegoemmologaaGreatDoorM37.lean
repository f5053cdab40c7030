/-
  readFloat at a text of a number, whole: the digits as one number, the power of ten, the sign.
  special: what begins with a digit, or with a minus and a digit, is none of inf, infinity, nan.
-/
import Derived.Test.YtonegoemmologaaGreatDoorM34
import Derived.Test.YtonegoemmologaaGreatDoorM35
import Derived.Test.YtonegoemmologaaGreatDoorM36
import Derived.Test.YtonegoemmologaaGreatDoorM01
import Derived.Test.YtonegoemmologaaGreatDoorM10
import Derived.Deep.DeepCutAuto
import Derived.WalkMore
set_option linter.unusedVariables false
set_option linter.unusedSimpArgs false
namespace Go.Proofs.YtonegoemmologaaGreatDoor
open Go.RowKit
theorem getD_app (a b : List UInt8) (k : Nat) : (a ++ b).getD (a.length + k) 0 = b.getD k 0 := by
 simp [List.getD_eq_getElem?_getD, List.getElem?_append_right]
theorem getD_left (a b : List UInt8) (k : Nat) (h : k < a.length) : (a ++ b).getD k 0 = a[k] := by
 simp [List.getD_eq_getElem?_getD, List.getElem?_append_left h, h]
theorem getD_at (l : List UInt8) (k : Nat) (h : k < l.length) : l.getD k 0 = l[k] := by
 simp [List.getD_eq_getElem?_getD, h]
def sgT (neg : Bool) : List UInt8 := if neg then [45] else []
def ReadV (v : Nat) (e : Int) (neg : Bool) (n : Nat) : Value := .tuple #[.int .u64 (v : Int), .int .i64 (if v = 0 then 0 else e), .bool neg, .bool false, .bool false, .int .i64 (n : Int), .bool true]
theorem readFloat_false (I F X : List UInt8) (e : Int) (hI0 : I ≠ []) (hI : ∀ c ∈ I, Fl.isDig c) (hF : ∀ c ∈ F, Fl.isDig c) (hX : Fl.ExpText X e) (hb : Fl.nval (I ++ F) < 10 ^ 19) (hlen : I.length + F.length ≤ 1000000) (w : World) :
 Calls Tryz.prog 154 #[.string (mk ([] ++ (Fl.body I F ++ X)))] w fun en w' => en = .returned (ReadV (Fl.nval (I ++ F)) (e - F.length) false (([] ++ (Fl.body I F ++ X)).length)) ∧ w' = w := by
 obtain ⟨M, hM⟩ : ∃ M, (Fl.body I F).length = M := ⟨_, rfl⟩
 have hbl := Fl.body_length I F
 have hI1 := List.length_pos_iff.2 hI0
 have hM1 : 1 ≤ M := by omega
 have hMl : M ≤ 1000001 := by split at hbl <;> omega
 obtain ⟨N, hN⟩ : ∃ N, ([] ++ (Fl.body I F ++ X)).length = N := ⟨_, rfl⟩
 obtain ⟨ch, hch⟩ : ∃ ch : Nat → Nat, ∀ k, ch k = (([] ++ (Fl.body I F ++ X)).getD k 0).toNat := ⟨fun k => (([] ++ (Fl.body I F ++ X)).getD k 0).toNat, fun _ => rfl⟩
 have hat : ∀ k, k < N → ∀ w', (Instr.index 9 (.string (mk ([] ++ (Fl.body I F ++ X)))) (.int .i64 (k : Int))).run Tryz.prog w' = .ok (.int .u8 (ch k : Int)) w' := by
  intro k hk w'
  rw [hch, getD_at _ k (by omega)]
  exact run_at _ k (by omega) w'
 have hsz : ((mk ([] ++ (Fl.body I F ++ X))).size : Int) = (N : Int) := by rw [mk_size, hN]
 have hch' : ∀ k, ch (0 + k) = ((Fl.body I F ++ X).getD k 0).toNat := by
  intro k
  rw [hch]
  exact congrArg UInt8.toNat (getD_app [] _ k)
 have hbody : ∀ k (h : k < (Fl.body I F).length), ch (0 + k) = ((Fl.body I F)[k]).toNat := by
  intro k h
  rw [hch', getD_left _ _ k h]
 have hXc : ∀ k, ch (0 + M + k) = (X.getD k 0).toNat := by
  intro k
  rw [Nat.add_assoc, hch', ← hM, getD_app]
 have hch0 : 48 ≤ ch 0 ∧ ch 0 ≤ 57 := by
  have h1 := hbody 0 (by omega)
  rw [Fl.body_I I F 0 hI1 (by omega)] at h1
  rw [show 0 + 0 = 0 from rfl] at h1
  rw [h1]
  exact hI _ (List.getElem_mem hI1)
 have hmem : ∀ x ∈ Fl.body I F, Fl.isDig x ∨ x = 46 := by
  intro x hx
  unfold Fl.body at hx
  rcases List.mem_append.1 hx with g | g
  · exact .inl (hI _ g)
  · by_cases c : F = []
    · rw [if_pos c] at g; cases g
    · rw [if_neg c] at g
      rcases List.mem_cons.1 g with g | g
      · exact .inr g
      · exact .inl (hF _ g)
 have hNl : N = 0 + M + X.length := by rw [← hN, ← hM]; simp [Nat.add_assoc, Nat.add_comm, Nat.add_left_comm]
 have hch1 : 0 + 1 < N → ch (0 + 1) < 256 ∧ ((48 ≤ ch (0 + 1) ∧ ch (0 + 1) ≤ 57) ∨ ch (0 + 1) = 46 ∨ ch (0 + 1) = 101) := by
  intro hlt
  refine ⟨by rw [hch]; exact UInt8.toNat_lt _, ?_⟩
  rcases Nat.lt_or_ge 1 M with c | c
  · rw [hbody 1 (by omega)]
    rcases hmem _ (List.getElem_mem (by omega : 1 < (Fl.body I F).length)) with g | g
    · exact .inl g
    · rw [g]; exact .inr (.inl rfl)
  · have hM1' : M = 1 := by omega
    have h1 := hXc 0
    rw [hM1', Nat.add_zero] at h1
    rw [h1]
    cases hX with
    | none => simp at hNl; omega
    | plus ds _ _ _ => exact .inr (.inr rfl)
    | minus ds _ _ _ => exact .inr (.inr rfl)
 unfold ReadV
 rw [hN]
 cases hX with
 | none =>
  rw [List.append_nil] at hat hsz ⊢
  simp only [List.length_nil, Nat.add_zero] at hNl
  rcases Nat.lt_or_ge (0 + 2) N with c | c
  · exact rf_false_long _ N M ch I F hsz hat hM hM1 hMl hbody hch0 hch1 hI0 hI hF hb hNl c w
  · exact rf_false_short _ N M ch I F hsz hat hM hM1 hMl hbody hch0 hch1 hI0 hI hF hb hNl c w
 | plus ds h1 h2 h3 =>
  have hp := List.length_pos_iff.2 h2
  exact rf_false_pow _ N M ch I F hsz hat hM hM1 hMl hbody hch0 hch1 hI0 hI hF hb ds 43 _ (Or.inl ⟨rfl, rfl⟩) ds.length rfl hp h3 h1 (by simp at hNl; omega) (by have := hXc 0; simpa using this) (by have := hXc 1; simpa using this)
   (fun j h => by have := hXc (2 + j); rw [← Nat.add_assoc] at this; rw [this]; congr 1; rw [Nat.add_comm 2 j]; exact getD_at ds j h) w
 | minus ds h1 h2 h3 =>
  have hp := List.length_pos_iff.2 h2
  exact rf_false_pow _ N M ch I F hsz hat hM hM1 hMl hbody hch0 hch1 hI0 hI hF hb ds 45 _ (Or.inr ⟨rfl, rfl⟩) ds.length rfl hp h3 h1 (by simp at hNl; omega) (by have := hXc 0; simpa using this) (by have := hXc 1; simpa using this)
   (fun j h => by have := hXc (2 + j); rw [← Nat.add_assoc] at this; rw [this]; congr 1; rw [Nat.add_comm 2 j]; exact getD_at ds j h) w
theorem readFloat_true (I F X : List UInt8) (e : Int) (hI0 : I ≠ []) (hI : ∀ c ∈ I, Fl.isDig c) (hF : ∀ c ∈ F, Fl.isDig c) (hX : Fl.ExpText X e) (hb : Fl.nval (I ++ F) < 10 ^ 19) (hlen : I.length + F.length ≤ 1000000) (w : World) :
 Calls Tryz.prog 154 #[.string (mk ([45] ++ (Fl.body I F ++ X)))] w fun en w' => en = .returned (ReadV (Fl.nval (I ++ F)) (e - F.length) true (([45] ++ (Fl.body I F ++ X)).length)) ∧ w' = w := by
 obtain ⟨M, hM⟩ : ∃ M, (Fl.body I F).length = M := ⟨_, rfl⟩
 have hbl := Fl.body_length I F
 have hI1 := List.length_pos_iff.2 hI0
 have hM1 : 1 ≤ M := by omega
 have hMl : M ≤ 1000001 := by split at hbl <;> omega
 obtain ⟨N, hN⟩ : ∃ N, ([45] ++ (Fl.body I F ++ X)).length = N := ⟨_, rfl⟩
 obtain ⟨ch, hch⟩ : ∃ ch : Nat → Nat, ∀ k, ch k = (([45] ++ (Fl.body I F ++ X)).getD k 0).toNat := ⟨fun k => (([45] ++ (Fl.body I F ++ X)).getD k 0).toNat, fun _ => rfl⟩
 have hat : ∀ k, k < N → ∀ w', (Instr.index 9 (.string (mk ([45] ++ (Fl.body I F ++ X)))) (.int .i64 (k : Int))).run Tryz.prog w' = .ok (.int .u8 (ch k : Int)) w' := by
  intro k hk w'
  rw [hch, getD_at _ k (by omega)]
  exact run_at _ k (by omega) w'
 have hsz : ((mk ([45] ++ (Fl.body I F ++ X))).size : Int) = (N : Int) := by rw [mk_size, hN]
 have hch' : ∀ k, ch (1 + k) = ((Fl.body I F ++ X).getD k 0).toNat := by
  intro k
  rw [hch]
  exact congrArg UInt8.toNat (getD_app [45] _ k)
 have hbody : ∀ k (h : k < (Fl.body I F).length), ch (1 + k) = ((Fl.body I F)[k]).toNat := by
  intro k h
  rw [hch', getD_left _ _ k h]
 have hXc : ∀ k, ch (1 + M + k) = (X.getD k 0).toNat := by
  intro k
  rw [Nat.add_assoc, hch', ← hM, getD_app]
 have hch0 : 48 ≤ ch 1 ∧ ch 1 ≤ 57 := by
  have h1 := hbody 0 (by omega)
  rw [Fl.body_I I F 0 hI1 (by omega)] at h1
  rw [show 1 + 0 = 1 from rfl] at h1
  rw [h1]
  exact hI _ (List.getElem_mem hI1)
 have hmem : ∀ x ∈ Fl.body I F, Fl.isDig x ∨ x = 46 := by
  intro x hx
  unfold Fl.body at hx
  rcases List.mem_append.1 hx with g | g
  · exact .inl (hI _ g)
  · by_cases c : F = []
    · rw [if_pos c] at g; cases g
    · rw [if_neg c] at g
      rcases List.mem_cons.1 g with g | g
      · exact .inr g
      · exact .inl (hF _ g)
 have hNl : N = 1 + M + X.length := by rw [← hN, ← hM]; simp [Nat.add_assoc, Nat.add_comm, Nat.add_left_comm]
 have hch1 : 1 + 1 < N → ch (1 + 1) < 256 ∧ ((48 ≤ ch (1 + 1) ∧ ch (1 + 1) ≤ 57) ∨ ch (1 + 1) = 46 ∨ ch (1 + 1) = 101) := by
  intro hlt
  refine ⟨by rw [hch]; exact UInt8.toNat_lt _, ?_⟩
  rcases Nat.lt_or_ge 1 M with c | c
  · rw [hbody 1 (by omega)]
    rcases hmem _ (List.getElem_mem (by omega : 1 < (Fl.body I F).length)) with g | g
    · exact .inl g
    · rw [g]; exact .inr (.inl rfl)
  · have hM1' : M = 1 := by omega
    have h1 := hXc 0
    rw [hM1', Nat.add_zero] at h1
    rw [h1]
    cases hX with
    | none => simp at hNl; omega
    | plus ds _ _ _ => exact .inr (.inr rfl)
    | minus ds _ _ _ => exact .inr (.inr rfl)
 have hneg : ch 0 = 45 := by rw [hch]; rfl
 unfold ReadV
 rw [hN]
 cases hX with
 | none =>
  rw [List.append_nil] at hat hsz ⊢
  simp only [List.length_nil, Nat.add_zero] at hNl
  rcases Nat.lt_or_ge (1 + 2) N with c | c
  · exact rf_true_long _ N M ch I F hsz hat hM hM1 hMl hbody hch0 hch1 hI0 hI hF hb hneg hNl c w
  · exact rf_true_short _ N M ch I F hsz hat hM hM1 hMl hbody hch0 hch1 hI0 hI hF hb hneg hNl c w
 | plus ds h1 h2 h3 =>
  have hp := List.length_pos_iff.2 h2
  exact rf_true_pow _ N M ch I F hsz hat hM hM1 hMl hbody hch0 hch1 hI0 hI hF hb hneg ds 43 _ (Or.inl ⟨rfl, rfl⟩) ds.length rfl hp h3 h1 (by simp at hNl; omega) (by have := hXc 0; simpa using this) (by have := hXc 1; simpa using this)
   (fun j h => by have := hXc (2 + j); rw [← Nat.add_assoc] at this; rw [this]; congr 1; rw [Nat.add_comm 2 j]; exact getD_at ds j h) w
 | minus ds h1 h2 h3 =>
  have hp := List.length_pos_iff.2 h2
  exact rf_true_pow _ N M ch I F hsz hat hM hM1 hMl hbody hch0 hch1 hI0 hI hF hb hneg ds 45 _ (Or.inr ⟨rfl, rfl⟩) ds.length rfl hp h3 h1 (by simp at hNl; omega) (by have := hXc 0; simpa using this) (by have := hXc 1; simpa using this)
   (fun j h => by have := hXc (2 + j); rw [← Nat.add_assoc] at this; rw [this]; congr 1; rw [Nat.add_comm 2 j]; exact getD_at ds j h) w
theorem readFloat_num (neg : Bool) (I F X : List UInt8) (e : Int) (hI0 : I ≠ []) (hI : ∀ c ∈ I, Fl.isDig c) (hF : ∀ c ∈ F, Fl.isDig c) (hX : Fl.ExpText X e) (hb : Fl.nval (I ++ F) < 10 ^ 19) (hlen : I.length + F.length ≤ 1000000) (w : World) :
 Calls Tryz.prog 154 #[.string (mk (sgT neg ++ (Fl.body I F ++ X)))] w fun en w' => en = .returned (ReadV (Fl.nval (I ++ F)) (e - F.length) neg ((sgT neg ++ (Fl.body I F ++ X)).length)) ∧ w' = w := by
 cases neg
 · exact readFloat_false I F X e hI0 hI hF hX hb hlen w
 · exact readFloat_true I F X e hI0 hI hF hX hb hlen w
end Go.Proofs.YtonegoemmologaaGreatDoor
namespace Go.Proofs.YtonegoemmologaaGreatDoor
open Go.RowKit
set_option maxRecDepth 1000000 in
set_option maxHeartbeats 4000000 in
theorem cplen_dig (s : ByteArray) (c : Nat) (hs : 1 ≤ s.size) (h1 : 48 ≤ c) (h2 : c ≤ 57) (hx : ∀ w', (Instr.index 9 (.string s) (.int .i64 0)).run Tryz.prog w' = .ok (.int .u8 (c : Int)) w') (w : World) :
 Calls Tryz.prog 177 #[.string s, .string (mk [105, 110, 102, 105, 110, 105, 116, 121])] w fun en w' => en = .returned (.int .i64 0) ∧ w' = w := by
 have hxi : ∀ w', (Instr.index 9 (.string (mk [105, 110, 102, 105, 110, 105, 116, 121])) (.int .i64 0)).run Tryz.prog w' = .ok (.int .u8 105) w' := fun w' => run_at [105, 110, 102, 105, 110, 105, 116, 121] 0 (by decide) w'
 obtain ⟨q, hq⟩ : ∃ q, (mk [105, 110, 102, 105, 110, 105, 116, 121]) = q := ⟨_, rfl⟩
 have hqs : (q.size : Int) = 8 := by rw [← hq]; rfl
 rw [hq] at hxi ⊢
 obtain ⟨m, hm⟩ : ∃ m : Int, min 8 (s.size : Int) = m := ⟨_, rfl⟩
 have hm1 : (0 : Int) < m := by omega
 have h65 : ¬ (c : Int) ≤ 90 ∨ ¬ (65 : Int) ≤ (c : Int) := by omega
 have n65 : ¬ (65 : Int) ≤ (c : Int) := by omega
 have q105 : ((c : Int) == 105) = false := by simp; omega
 have hne : ((c : Int) != 105) = true := by simp; omega
 clear hq hs h65
 go_enter Tryz.func177, Tryz.ntmps177
 go_wp2_with (fail)
 all_goals
  go_loopw [6, 7] (fun i _ wr => i = .int .i64 0 ∧ w = wr) (fun _ _ _ => 0)
  case atStart => exact ⟨rfl, rfl⟩
  case round =>
   obtain ⟨rfl, rfl⟩ := hrel
   go_wp2_with (fail)
   go_ret
   exact ⟨rfl, rfl⟩
set_option maxRecDepth 1000000 in
set_option maxHeartbeats 4000000 in
theorem special_pos (s : ByteArray) (c : Nat) (hs : 1 ≤ s.size) (h1 : 48 ≤ c) (h2 : c ≤ 57) (hx : ∀ w', (Instr.index 9 (.string s) (.int .i64 0)).run Tryz.prog w' = .ok (.int .u8 (c : Int)) w') (w : World) :
 Calls Tryz.prog 153 #[.string s] w fun en w' => en = .returned (.tuple #[.float .f64 0, .int .i64 0, .bool false]) ∧ w' = w := by
 have hz : ((s.size : Int) == 0) = false := beq_eq_false_iff_ne.2 (by omega)
 have hz2 : ¬ s.size = 0 := by omega
 have q43 : ((c : Int) == 43) = false := by simp; omega
 have q45 : ((c : Int) == 45) = false := by simp; omega
 have q105 : ((c : Int) == 105) = false := by simp; omega
 have q73 : ((c : Int) == 73) = false := by simp; omega
 have q110 : ((c : Int) == 110) = false := by simp; omega
 have q78 : ((c : Int) == 78) = false := by simp; omega
 clear hs
 go_enter Tryz.func153, Tryz.ntmps153
 go_wp2_with (fail)
 go_ret3
 exact ⟨rfl, rfl⟩
set_option maxRecDepth 1000000 in
set_option maxHeartbeats 4000000 in
theorem special_neg (l : List UInt8) (c8 : UInt8) (h1 : 48 ≤ c8.toNat) (h2 : c8.toNat ≤ 57) (hl : l.length < 2000000) (w : World) :
 Calls Tryz.prog 153 #[.string (mk (45 :: c8 :: l))] w fun en w' => en = .returned (.tuple #[.float .f64 0, .int .i64 0, .bool false]) ∧ w' = w := by
 have hx : ∀ w', (Instr.index 9 (.string (mk (45 :: c8 :: l))) (.int .i64 0)).run Tryz.prog w' = .ok (.int .u8 45) w' := fun w' => run_at (45 :: c8 :: l) 0 (by simp) w'
 have HC := Lib.hid (cplen_dig (mk (c8 :: l)) c8.toNat (by rw [mk_size]; simp) h1 h2 (fun w' => run_at (c8 :: l) 0 (by simp) w'))
 have hsl : ∀ w', (Instr.slice 9 (.string (mk (45 :: c8 :: l))) (some (.int .i64 1)) none none).run Tryz.prog w' = .ok (.string (mk (c8 :: l))) w' := fun w' => run_from (45 :: c8 :: l) 1 (by simp) w'
 obtain ⟨s, hs⟩ : ∃ s, mk (45 :: c8 :: l) = s := ⟨_, rfl⟩
 have hss : s.size = l.length + 2 := by rw [← hs, mk_size]; rfl
 have hz : ((s.size : Int) == 0) = false := beq_eq_false_iff_ne.2 (by omega)
 have hz2 : ¬ s.size = 0 := by omega
 obtain ⟨s2, hs2⟩ : ∃ s, mk (c8 :: l) = s := ⟨_, rfl⟩
 rw [hs2] at HC hsl
 rw [hs] at hx hsl ⊢
 clear hs hs2 hss hl h1 h2
 go_enter Tryz.func153, Tryz.ntmps153
 go_wp2_with (go_at_call 177; refine (HC.out _).mono ?_; rintro en w2 ⟨rfl, hww⟩; obtain rfl := hww.symm)
 go_ret3
 exact ⟨rfl, rfl⟩
end Go.Proofs.YtonegoemmologaaGreatDoor
