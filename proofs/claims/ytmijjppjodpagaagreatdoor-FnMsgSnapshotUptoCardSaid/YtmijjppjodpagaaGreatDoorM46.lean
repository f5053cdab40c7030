/-
  FnMsgSnapshot: whatever the schema and the messages, it answers true.
-/
import Derived.Test.YtmijjppjodpagaaGreatDoorM32
import Derived.Test.YtmijjppjodpagaaGreatDoorM45
import Derived.Test.YtmijjppjodpagaaGreatDoorM30
import Derived.Deep.RegionHeld3
set_option linter.unusedVariables false
set_option linter.unusedSimpArgs false
namespace Go.Proofs.YtmijjppjodpagaaGreatDoor
open Go.RowKit
theorem fieldSize : (Tryz.prog.info? 43).map (fun i => i.size) = some 2 := by kernel_rfl
theorem run_fsto (a : Option Addr) (n c k : Nat) (hk : k ≤ c) (w : World) : (Instr.slice 26 (.slice a n c) none (some (.int .i64 (k : Int))) none).run Tryz.prog w = .ok (.slice a k c) w := by
  obtain ⟨i0, hi, hz1⟩ := Option.map_eq_some_iff.1 fieldSize
  have h1 := run_sliceBound (P := Tryz.prog) w .i64 (k : Int) c .sliceAcap (by omega) (by omega)
  simp [Instr.slice, Instr.sliceBounds, run_underlying Tryz.underlying26, h1, sizeOf, typeInfo, hi]
  intro _
  cases a <;> simp [Addr.add]
set_option maxRecDepth 1000000 in
set_option maxHeartbeats 40000000 in
theorem snapshot_law (PT : Nat → Nat × Nat) (hPT : ∀ i, i < 696 → (PT i).1 < 18446744073709551616 ∧ (PT i).2 < 18446744073709551616) (x y : Value) (S : Sch) (t : Int) (v1 v2 : Value) (fs os : List (Int × List PV)) (d d2 : Nat) (at_ : Int) (w : World)
    (hsch : SchAt w x y S) (hm : MsgAt w d v1 fs) (hbd : MBound d fs) (hm2 : MsgAt w d2 v2 os) (hbd2 : MBound d2 os) (hN : NamesOk S) (hT : Tabs w) (hF : FT2 PT w) :
    Calls Tryz.prog 3 #[.agg #[x, y], .int .i64 t, v1, v2, .int .i64 at_] w fun e w' => e = .returned (.bool true) ∧ Keeps (fun _ => False) w w' := by
  obtain ⟨a1, c1, rfl, hc1, hx1⟩ := hm.len
  obtain ⟨a2, c2, rfl, hc2, hx2⟩ := hm2.len
  obtain ⟨n1, hn1⟩ : ∃ n, fs.length = n := ⟨_, rfl⟩
  obtain ⟨n2, hn2⟩ : ∃ n, os.length = n := ⟨_, rfl⟩
  rw [hn1] at hc1 hm ⊢
  rw [hn2] at hc2 hm2 ⊢
  unfold maxLen at hx1 hx2
  obtain ⟨TZ, hTZ⟩ : ∃ T, ((∀ m ∈ S.msgs, MTBound m) ∧ ∀ e ∈ S.enums, ETBound e) = T := ⟨_, rfl⟩
  obtain ⟨TF, hTF⟩ : ∃ T, (SchOk S ∧ MsgGood S t d fs) = T := ⟨_, rfl⟩
  obtain ⟨TO, hTO⟩ : ∃ T, (SchOk S ∧ MsgGood S t d2 os) = T := ⟨_, rfl⟩
  have HZ : Hid (∀ w', Keeps (fun _ => False) w w' → Calls Tryz.prog 4 #[.agg #[x, y]] w' (Tells w' TZ)) := fun w' hk => by rw [← hTZ]; exact zfits1 x y S w' (hsch.keeps hk)
  have HFM : Hid (TZ → ∀ w', Keeps (fun _ => False) w w' → Calls Tryz.prog 5 #[.agg #[x, y], .int .i64 t, .slice a1 n1 c1] w' (Tells w' TF)) := fun hz w' hk => by rw [← hTZ] at hz; rw [← hTF]; exact lawFits_tells x y S w' (hsch.keeps hk) hz.1 hz.2 t _ fs d (hm.keeps hk) hbd
  have HFO : Hid (TZ → ∀ w', Keeps (fun _ => False) w w' → Calls Tryz.prog 5 #[.agg #[x, y], .int .i64 t, .slice a2 n2 c2] w' (Tells w' TO)) := fun hz w' hk => by rw [← hTZ] at hz; rw [← hTO]; exact lawFits_tells x y S w' (hsch.keeps hk) hz.1 hz.2 t _ os d2 (hm2.keeps hk) hbd2
  have HTF := Lib.hid hTF
  have HTO := Lib.hid hTO
  have HN1 := Lib.hid hn1
  have HN2 := Lib.hid hn2
  have HM := Lib.hid hm
  have HM2 := Lib.hid hm2
  have HSCH := Lib.hid hsch
  have HNM := Lib.hid hN
  have HT := Lib.hid hT
  have HF := Lib.hid hF
  have HPT := Lib.hid hPT
  clear hTZ hTF hTO hm hm2 hsch hbd hbd2 hN hT hF hPT hn1 hn2
  obtain ⟨W0, hW0⟩ : ∃ W, w.alloc (.cells #[x, y] 25) = W := ⟨_, rfl⟩
  have hk0 : Keeps (fun _ => False) w W0 := by rw [← hW0]; exact (Keeps.refl _ w).alloc _
  have hr0 : W0.heap[w.heap.size]? = some (.cells #[x, y] 25 (0, 0)) := by rw [← hW0]; exact heap_alloc_new w _
  have HK0 := Lib.hid hk0
  have HW0 := Lib.hid hW0
  have e0 := cell_row (j := 0) hr0
  have e1 := cell_row (j := 1) hr0
  simp at e0 e1
  clear hW0 hk0 hr0
  go_enter Tryz.func3, Tryz.ntmps3
  go_upto_region 1 with (fail)
  rw [HW0.out]
  obtain ⟨K, hK⟩ : ∃ K, w.heap.size = K := ⟨_, rfl⟩
  rw [hK] at e0 e1 ⊢
  clear hK
  go_upto_region 3 with (go_at_call 4; refine (HZ.out _ HK0.out).mono ?_; rintro e w2 ⟨b2, rfl, x2, k2⟩; have X2 := Lib.hid x2; have e0 := k2.cell e0 id; have e1 := k2.cell e1 id; have K2 : Hid (Keeps (fun _ => False) w w2) := HK0.out.trans k2 (fun _ _ h => h); clear x2 k2; have hcase : b2 = false ∨ (b2 = true ∧ (2147483647 : Int) < (n1 : Int)) ∨ (b2 = true ∧ ¬ (2147483647 : Int) < (n1 : Int) ∧ (2147483647 : Int) < (n2 : Int)) ∨ (b2 = true ∧ ¬ (2147483647 : Int) < (n1 : Int) ∧ ¬ (2147483647 : Int) < (n2 : Int)) := (by cases b2 <;> simp <;> omega); rcases hcase with rfl | ⟨rfl, g1⟩ | ⟨rfl, g1, g2⟩ | ⟨rfl, g1, g2⟩)
  all_goals try (go_ret; exact ⟨rfl, K2.out⟩)
  have HZT := Lib.hid (X2.out (by trivial))
  go_upto_region 5 with (first
    | (go_at_call 5; have _h := K3; refine (HFO.out HZT.out _ K3.out).mono ?_; rintro e w4 ⟨b4, rfl, x4, k4⟩; have X4 := Lib.hid x4; have e0 := k4.cell e0 id; have e1 := k4.cell e1 id; have K4 : Hid (Keeps (fun _ => False) w w4) := K3.out.trans k4 (fun _ _ h => h); clear x4 k4; have hcase : b4 = false ∨ (b4 = true ∧ at_ < 0) ∨ (b4 = true ∧ ¬ at_ < 0 ∧ (n1 : Int) < at_) ∨ (b4 = true ∧ ¬ at_ < 0 ∧ ¬ (n1 : Int) < at_) := (by cases b4 <;> simp <;> omega); rcases hcase with rfl | ⟨rfl, g3⟩ | ⟨rfl, g3, g4⟩ | ⟨rfl, g3, g4⟩)
    | (go_at_call 5; refine (HFM.out HZT.out _ K2.out).mono ?_; rintro e w3 ⟨b3, rfl, x3, k3⟩; have X3 := Lib.hid x3; have e0 := k3.cell e0 id; have e1 := k3.cell e1 id; have K3 : Hid (Keeps (fun _ => False) w w3) := K2.out.trans k3 (fun _ _ h => h); clear x3 k3; cases b3))
  all_goals try (go_ret; first | exact ⟨rfl, K4.out⟩ | exact ⟨rfl, K3.out⟩)
  have hG1 := X3.out (by trivial)
  have hG2 := X4.out (by trivial)
  rw [← HTF.out] at hG1
  rw [← HTO.out] at hG2
  clear X2 X3 X4 HFM HFO HZ HTF HTO HZT g1 g2
  obtain ⟨at_, rfl⟩ : ∃ k : Nat, at_ = (k : Int) := ⟨at_.toNat, by omega⟩
  have hat : at_ ≤ n1 := by omega
  clear g3 g4
  obtain ⟨hok, hmf1, hcn1⟩ := hG1
  obtain ⟨-, hmf2, hcn2⟩ := hG2
  have hm1 := HM.out
  have hm2' := HM2.out
  cases d with
  | zero => exact absurd hm1 (by unfold MsgAt; exact id)
  | succ d =>
  cases d2 with
  | zero => exact absurd hm2' (by unfold MsgAt; exact id)
  | succ d2 =>
  -- the operations, their texts
  obtain ⟨ops, hops⟩ : ∃ l, opsM S (d + 1) t fs = l := ⟨_, rfl⟩
  obtain ⟨opb, hopb⟩ : ∃ l, opsM S (d + 1) t (fs.take at_) = l := ⟨_, rfl⟩
  obtain ⟨opo, hopo⟩ : ∃ l, opsM S (d2 + 1) t os = l := ⟨_, rfl⟩
  have hn : fs.length = n1 := HN1.out
  obtain ⟨rs, hall, hnn⟩ := allSay_ex PT HPT.out ops (by rw [← hops]; exact opsM_fit S HNM.out _ _ _ _ hmf1 hm1.ranged) (by rw [← hops]; have := opsM_len S (d + 1) t fs; omega)
  obtain ⟨ts, hall2, -⟩ := allSay_ex PT HPT.out opo (by rw [← hopo]; exact opsM_fit S HNM.out _ _ _ _ hmf2 hm2'.ranged) (by rw [← hopo]; have := opsM_len S (d2 + 1) t os; omega)
  obtain ⟨L, hL⟩ : ∃ L, (emit 0 rs).length = L := ⟨_, rfl⟩
  have hLn : decide (0 < L) = decide (0 < n1) := by
    rcases Nat.eq_zero_or_pos n1 with h0 | h0
    · have hf0 : fs = [] := List.length_eq_zero_iff.1 (by omega)
      have h1 : ops = [] := by rw [← hops, hf0]; rfl
      rw [h1] at hall
      have := emit_nil hall
      rw [this] at hL
      simp at hL
      rw [h0, ← hL]
    · obtain ⟨f, r, hr⟩ := opsM_head (d := d) hmf1 (by intro h; rw [h] at hn; simp at hn; omega)
      rw [hops] at hr
      have := emit_ne hall hnn (by rw [hr]; simp) (by simp [hr]; rfl)
      have h1 : 0 < L := by omega
      rw [decide_eq_true h1, decide_eq_true h0]
  have hLb : L < 2 ^ 62 := by
    have := hall.bound 0 rs.length
    rw [List.take_length] at this
    omega
  obtain ⟨kb, hkb⟩ : ∃ k, opb.length = k := ⟨_, rfl⟩
  have hpre : kb ≤ ops.length := by rw [← hkb, ← hopb, ← hops]; exact (opsM_take S d t fs at_).length_le
  have HA1 : Hid (∀ w', Keeps (fun _ => False) w w' → Calls Tryz.prog 6 #[.agg #[x, y], .int .i64 t, .slice a1 n1 c1] w' (OpsRes w' ops)) := fun w' hk => by
    rw [← hops]; exact textOps_any x y S hok (d + 1) w' t _ fs 20 (HSCH.out.keeps hk) (hm1.keeps hk) hmf1 hcn1
  have HA2 : Hid (∀ w', Keeps (fun _ => False) w w' → Calls Tryz.prog 6 #[.agg #[x, y], .int .i64 t, .slice a1 at_ c1] w' (OpsRes w' opb)) := fun w' hk => by
    rw [← hopb]
    exact textOps_any x y S hok (d + 1) w' t _ (fs.take at_) 20 (HSCH.out.keeps hk) ((hm1.keeps hk).take at_ (by omega)) (hmf1.take at_) (by have := cntM_take (d + 1) at_ fs; omega)
  have HA3 : Hid (∀ w', Keeps (fun _ => False) w w' → Calls Tryz.prog 6 #[.agg #[x, y], .int .i64 t, .slice a2 n2 c2] w' (OpsRes w' opo)) := fun w' hk => by
    rw [← hopo]; exact textOps_any x y S hok (d2 + 1) w' t _ os 20 (HSCH.out.keeps hk) (hm2'.keeps hk) hmf2 hcn2
  have HEN : Hid (∀ w' V, Keeps (fun _ => False) w w' → OpsAt w' V ops → Calls Tryz.prog 7 #[V, .string ⟨#[]⟩, .bool false, .bool false] w' fun e w'' => ∃ V, e = .returned (.tuple #[V, .bool true]) ∧ BytesAt w'' V (emit 0 rs) ∧ Keeps (fun _ => False) w' w'') := fun w' V hk ho => textEncode_any PT w' V ops rs ho hall (HT.out.keeps hk (fun _ _ => id)) (HF.out.keeps hk)
  have HSN : Hid (∀ w' V X, Keeps (fun _ => False) w w' → OpsAt w' V ops → OpsAt w' X opo → Calls Tryz.prog 8 #[V, .int .i64 (kb : Int), X] w' fun e w'' => ∃ V, e = .returned V ∧ BytesAt w'' V (emit 0 rs) ∧ Keeps (fun _ => False) w' w'') := fun w' V X hk ho hx => textSnapshot_any PT w' V X ops opo rs ts kb ho hx hall hall2 (HT.out.keeps hk (fun _ _ => id)) (HF.out.keeps hk) hpre
  have HLI : Hid (∀ w', Keeps (fun _ => False) w w' → Calls Tryz.prog 10 #[] w' fun e w'' => e = .returned (.bool true) ∧ Keeps (fun _ => False) w' w'') := fun w' hk => lives_any w' (HT.out.keeps hk (fun _ _ => id))
  have HHL := Lib.hid hL
  have HLN := Lib.hid hLn
  have HLB := Lib.hid hLb
  have HKB := Lib.hid hkb
  clear hall hnn hall2 hL hLn hLb hkb hpre hops hopb hopo hn hm1 hm2' hmf1 hmf2 hcn1 hcn2 hok HM HM2 HSCH HNM HT HF HPT HN1 HN2
  go_upto_region 6 with (go_at_call 6; refine (HA1.out _ K4.out).mono ?_; rintro e w5 ⟨V, rfl, hV, k5⟩; obtain ⟨a5, c5, rfl, -, -⟩ := hV.len; have e0 := k5.cell e0 id; have e1 := k5.cell e1 id; have K5 : Hid (Keeps (fun _ => False) w w5) := K4.out.trans k5 (fun _ _ h => h); have HV := Lib.hid hV; clear k5 hV)
  obtain ⟨no, hno⟩ : ∃ n, ops.length = n := ⟨_, rfl⟩
  have HNO := Lib.hid hno
  rw [hno] at HV ⊢
  clear hno
  go_upto_region 7 with (go_at_call 7; refine (HEN.out _ _ K5.out HV.out).mono ?_; rintro e w6 ⟨U, rfl, hU, k6⟩; have e0 := k6.cell e0 id; have e1 := k6.cell e1 id; have HV6 := Lib.hid (HV.out.keeps k6 (fun _ _ => id)); have K6 : Hid (Keeps (fun _ => False) w w6) := K5.out.trans k6 (fun _ _ h => h); have HU := Lib.hid hU; clear k6 hU)
  have HS7 : Hid (∀ w', Keeps (fun _ => False) w6 w' → w'.cell? ⟨K, 0, none⟩ = some x ∧ w'.cell? ⟨K, 1, none⟩ = some y) := fun w' h => ⟨h.cell e0 id, h.cell e1 id⟩
  have HB2 : Hid (∀ w', Keeps (fun _ => False) w6 w' → Calls Tryz.prog 6 #[.agg #[x, y], .int .i64 t, .slice a1 at_ c1] w' (OpsRes w' opb)) := fun w' h => HA2.out w' (K6.out.trans h (fun _ _ h => h))
  have HB3 : Hid (∀ w', Keeps (fun _ => False) w6 w' → Calls Tryz.prog 6 #[.agg #[x, y], .int .i64 t, .slice a2 n2 c2] w' (OpsRes w' opo)) := fun w' h => HA3.out w' (K6.out.trans h (fun _ _ h => h))
  have HBS : Hid (∀ w' X, Keeps (fun _ => False) w6 w' → OpsAt w' X opo → Calls Tryz.prog 8 #[.slice a5 no c5, .int .i64 (kb : Int), X] w' fun e w'' => ∃ V, e = .returned V ∧ BytesAt w'' V (emit 0 rs) ∧ Keeps (fun _ => False) w' w'') := fun w' X h hx => HSN.out w' _ X (K6.out.trans h (fun _ _ h => h)) (HV6.out.keeps h (fun _ _ => id)) hx
  have hsl := run_fsto a1 n1 c1 at_ (by omega)
  have hi0 : (0 : Int) ≤ (at_ : Int) := by omega
  have hi1 : (at_ : Int) ≤ (n1 : Int) := by omega
  have hi2 : (n1 : Int) ≤ (c1 : Int) := by omega
  clear e0 e1 HA1 HA2 HA3 HEN HSN
  go_region_held3 (fun w' => w'.cell? ⟨K, 0, none⟩ = some x ∧ w'.cell? ⟨K, 1, none⟩ = some y) (exact HS7.out _ (by repeat (first | exact Keeps.refl _ _ | assumption | apply Keeps.drew | apply Keeps.alloc)))
    (first
      | (go_at_call 6; (with_reducible refine (HB2.out _ (by repeat (first | exact Keeps.refl _ _ | assumption | apply Keeps.drew | apply Keeps.alloc))).mono ?_); rintro e wa ⟨Va, rfl, ha, ka⟩; obtain ⟨aa, ca, rfl, -, -⟩ := ha.len; have KA : Keeps (fun _ => False) w6 wa := Keeps.trans (S := fun _ => False) (S1 := fun _ => False) (by repeat (first | exact Keeps.refl _ _ | assumption | apply Keeps.drew | apply Keeps.alloc)) ka (fun _ _ h => h); (try have KBA : Keeps (fun _ => False) wb wa := Keeps.trans (S := fun _ => False) (S1 := fun _ => False) (by repeat (first | exact Keeps.refl _ _ | assumption | apply Keeps.drew | apply Keeps.alloc)) ka (fun _ _ h => h)); rw [HKB.out]; clear ha; clear ka)
      | (go_at_call 6; (with_reducible refine (HB3.out _ (by repeat (first | exact Keeps.refl _ _ | assumption | apply Keeps.drew | apply Keeps.alloc))).mono ?_); rintro e wb ⟨Vb, rfl, hb, kb⟩; have KB : Keeps (fun _ => False) w6 wb := Keeps.trans (S := fun _ => False) (S1 := fun _ => False) (by repeat (first | exact Keeps.refl _ _ | assumption | apply Keeps.drew | apply Keeps.alloc)) kb (fun _ _ h => h); have HOB : Hid (∀ w', Keeps (fun _ => False) wb w' → OpsAt w' Vb opo) := (fun w' h => hb.keeps h (fun _ _ => id)); clear kb hb)
      | (go_at_call 8; (with_reducible refine (HBS.out _ _ (by repeat (first | exact Keeps.refl _ _ | assumption | apply Keeps.drew | apply Keeps.alloc)) (HOB.out _ (by repeat (first | exact Keeps.refl _ _ | assumption | apply Keeps.drew | apply Keeps.alloc)))).mono ?_); rintro e w8 ⟨X8, rfl, h8, k8⟩; have K8 : Hid (Keeps (fun _ => False) w6 w8) := Keeps.trans (S := fun _ => False) (S1 := fun _ => False) (by repeat (first | exact Keeps.refl _ _ | assumption | apply Keeps.drew | apply Keeps.alloc)) k8 (fun _ _ h => h); have H8 := Lib.hid h8; clear k8 h8))
  obtain ⟨au, cu, hUe, -, -⟩ := HU.out.form
  rw [HHL.out] at hUe
  subst hUe
  have HU8 := Lib.hid (HU.out.keeps K8.out (fun _ _ => id))
  have HK8 : Hid (Keeps (fun _ => False) w w8) := K6.out.trans K8.out (fun _ _ h => h)
  have hcase : (n1 = 0 ∧ L = 0) ∨ (¬ ((n1 : Int) ≤ 0) ∧ (0 : Int) < (n1 : Int) ∧ (0 : Int) < (L : Int)) := by
    have h := HLN.out
    rcases Nat.eq_zero_or_pos n1 with h0 | h0
    · rw [h0] at h
      simp at h
      exact .inl ⟨h0, by omega⟩
    · rw [decide_eq_true h0] at h
      have := of_decide_eq_true h
      exact .inr ⟨by omega, by omega, by omega⟩
  clear HU K8 HB2 HB3 HBS HOB HV HV6 HS7
  rcases hcase with ⟨rfl, rfl⟩ | ⟨h1, h2, h3⟩
  all_goals go_wp2_with (first
    | (go_at_call 9; (with_reducible refine (eq_any _ _ _ _ H8.out HU8.out).mono ?_); rintro e w9 ⟨rfl, k9⟩; have K9 : Keeps (fun _ => False) w w9 := HK8.out.trans k9 (fun _ _ h => h); clear k9)
    | (go_at_call 10; (with_reducible refine (HLI.out _ (by repeat (first | exact Keeps.refl _ _ | assumption | apply Keeps.drew | apply Keeps.alloc))).mono ?_); rintro e w10 ⟨rfl, k10⟩; have K10 : Keeps (fun _ => False) w w10 := Keeps.trans (S := fun _ => False) (S1 := fun _ => False) (by repeat (first | exact Keeps.refl _ _ | assumption | apply Keeps.drew | apply Keeps.alloc)) k10 (fun _ _ h => h); clear k10))
  all_goals go_ret
  all_goals exact ⟨rfl, K10⟩
end Go.Proofs.YtmijjppjodpagaaGreatDoor
