/-
  FnMsgDefaults: a step of the induction on the depth.
-/
import Derived.Test.YtonegoemmologaaGreatDoorM47
import Derived.Deep.RegionHeld3
set_option linter.unusedVariables false
set_option linter.unusedSimpArgs false
namespace Go.Proofs.YtonegoemmologaaGreatDoor
open Go.RowKit
set_option maxRecDepth 1000000 in
set_option maxHeartbeats 40000000 in
theorem def_succ (PT : Nat → Nat × Nat) (hPT : PTOk PT) (B0 o0 : Nat) (x y : Value) (S : Sch) (tag : Bool) (d : Nat) (ih : DSay PT B0 o0 x y S tag d) : DSay PT B0 o0 x y S tag (d + 1) := by
 intro w t v fs hsch hm hbd hT hNU
 have hsch0 := hsch
 obtain ⟨ax, cx, hex, hcx, hmx⟩ := hsch.1.len
 obtain ⟨ag, cg, rfl, hcg, hmg⟩ := hm.len
 obtain ⟨nf, hnf⟩ : ∃ n, fs.length = n := ⟨_, rfl⟩
 rw [hnf] at hcg hm ⊢
 unfold maxLen at hmg
 obtain ⟨TZ, hTZ⟩ : ∃ T, ((∀ m ∈ S.msgs, MTBound m) ∧ ∀ e ∈ S.enums, ETBound e) = T := ⟨_, rfl⟩
 obtain ⟨TF, hTF⟩ : ∃ T, ((SchOk S ∧ SchDist S) ∧ MsgGood S t (d + 1) fs) = T := ⟨_, rfl⟩
 have HZ : Hid (∀ w', Keeps (fun _ => False) w w' → Calls Tryz.prog 4 #[.agg #[x, y]] w' (Tells w' TZ)) := fun w' hk => by rw [← hTZ]; exact zfits1 x y S w' (hsch.keeps hk)
 have HFM : Hid (TZ → ∀ w', Keeps (fun _ => False) w w' → Calls Tryz.prog 5 #[.agg #[x, y], .int .i64 t, .slice ag nf cg] w' (Tells w' TF)) := fun hz w' hk => by rw [← hTZ] at hz; rw [← hTF]; exact lawFits_all x y S w' (hsch.keeps hk) hz.1 hz.2 t _ fs (d + 1) (hm.keeps hk) hbd
 have HLAST : Hid (∀ w', Keeps (fun _ => False) w w' → Calls Tryz.prog 7 #[.agg #[.int .i64 8, .bool true, .int .i64 0, .int .u64 0, .int .u64 0, .string ⟨#[]⟩, .string ⟨#[]⟩], .int .i64 1, .slice none 0 0, .slice none 0 0] w' fun en w2 => en = .returned (.tuple #[.string ⟨#[116, 114, 117, 101]⟩, .bool true]) ∧ Keeps (fun _ => False) w' w2) := fun w' hk => def_last PT B0 o0 w' (hT.keeps hk)
 have HTF := Lib.hid hTF
 have HN := Lib.hid hnf
 have HM := Lib.hid hm
 have HSC := Lib.hid hsch
 have HIH := Lib.hid ih
 have HBD := Lib.hid hbd
 have HTB := Lib.hid hT
 have HNU := Lib.hid hNU
 have HPT := Lib.hid hPT
 have HEX := Lib.hid hex
 have HCX := Lib.hid hcx
 have HMX := Lib.hid hmx
 clear hTZ hTF hm hsch hsch0 hbd ih hT hNU hPT hnf hex hcx hmx
 obtain ⟨W0, hW0⟩ : ∃ W, w.alloc (.cells #[x, y] 25) = W := ⟨_, rfl⟩
 have hk0 : Keeps (fun _ => False) w W0 := by rw [← hW0]; exact (Keeps.refl _ w).alloc _
 have hr0 : W0.heap[w.heap.size]? = some (.cells #[x, y] 25 (0, 0)) := by rw [← hW0]; exact heap_alloc_new w _
 have HK0 := Lib.hid hk0
 have HW0 := Lib.hid hW0
 have e0 := cell_row (j := 0) hr0
 have e1 := cell_row (j := 1) hr0
 simp at e0 e1
 have HR0 := Lib.hid hr0
 clear hW0 hk0 hr0
 obtain ⟨form, hform⟩ : ∃ form : Int, (if tag = true then (2 : Int) else 1) = form := ⟨_, rfl⟩
 have HDF := Lib.hid (def_of PT HPT.out B0 o0 form (by rw [← hform]; cases tag <;> simp))
 cases tag
 all_goals
  simp at hform
  subst hform
  go_enter Tryz.func3, Tryz.ntmps3
  go_upto_region 1 with (fail)
  rw [HW0.out]
  obtain ⟨KS, hKS⟩ : ∃ K, w.heap.size = K := ⟨_, rfl⟩
  rw [hKS] at e0 e1 HR0 ⊢
  have HKS := Lib.hid hKS
  clear hKS
  go_upto_region 3 with (go_at_call 4; refine (HZ.out _ HK0.out).mono ?_; rintro e w2 ⟨b2, rfl, x2, k2⟩; have X2 := Lib.hid x2; have e0 := k2.cell e0 id; have e1 := k2.cell e1 id; have K2 : Hid (Keeps (fun _ => False) W0 w2) := k2; clear x2 k2; have hcase : b2 = false ∨ (b2 = true ∧ (2147483647 : Int) < (nf : Int)) ∨ (b2 = true ∧ ¬ (2147483647 : Int) < (nf : Int)) := (by cases b2 <;> simp <;> omega); rcases hcase with rfl | ⟨rfl, g1⟩ | ⟨rfl, g1⟩)
  all_goals try (go_ret; exact ⟨rfl, HK0.out.trans K2.out (fun _ _ h => h)⟩)
  have HZT := Lib.hid (X2.out (by trivial))
  go_upto_region 8 with (go_at_call 5; refine (HFM.out HZT.out _ (HK0.out.trans K2.out (fun _ _ h => h))).mono ?_; rintro e w3 ⟨b3, rfl, x3, k3⟩; have X3 := Lib.hid x3; have e0 := k3.cell e0 id; have e1 := k3.cell e1 id; have K3 : Hid (Keeps (fun _ => False) W0 w3) := K2.out.trans k3 (fun _ _ h => h); clear x3 k3; cases b3)
  all_goals try (go_ret; exact ⟨rfl, HK0.out.trans K3.out (fun _ _ h => h)⟩)
  have hG := X3.out (by trivial)
  rw [← HTF.out] at hG
  clear X2 X3 HFM HZ HTF HZT g1 K2
  obtain ⟨⟨hok, hdist⟩, hmf, hcnt⟩ := hG
  have hmf : MFits S (19 + 1) t fs := hmf
  unfold MFits at hmf
  obtain ⟨ht0, ht1, hfld⟩ := hmf
  obtain ⟨t, rfl⟩ : ∃ k : Nat, t = (k : Int) := ⟨t.toNat, by omega⟩
  have htl : t < S.msgs.length := by omega
  have hex := HEX.out
  subst hex
  obtain ⟨nm, hnm⟩ : ∃ n, S.msgs.length = n := ⟨_, rfl⟩
  have hcx := HCX.out
  have hmx := HMX.out
  unfold maxLen at hmx
  rw [hnm] at hcx
  have hSM := HSC.out.1
  obtain ⟨b, off, rfl, hcell⟩ := MTsAt.cells hSM (by intro e; rw [e] at htl; simp at htl)
  obtain ⟨fv, c0, c1, hfv⟩ := hcell t htl
  obtain ⟨M, hMk⟩ : ∃ M, S.msgs[t] = M := ⟨_, rfl⟩
  rw [hMk] at hfv
  have hMg : S.msgs[((t : Nat) : Int).toNat]? = some M := by rw [show ((t : Int)).toNat = t from rfl, List.getElem?_eq_getElem htl, hMk]
  have hfld := hfld M hMg
  have hFM := hok.2.2.2 M (by rw [← hMk]; exact List.getElem_mem htl)
  obtain ⟨af, cf, rfl, hcf, hmf2⟩ := hfv.len
  obtain ⟨p, hp⟩ : ∃ p, M.fields.length = p := ⟨_, rfl⟩
  rw [hp] at hcf c1 hfv
  unfold maxLen at hmf2
  have HSC : Hid (SchAt w (.slice (some ⟨b, off, none⟩) S.msgs.length cx) y S) := HSC.out
  rw [hnm] at e0 HR0 HSC HIH
  have htn : (t : Int) < (nm : Int) := by omega
  have HFLD := Lib.hid hfld
  have HFM := Lib.hid hFM
  have HOK := Lib.hid hok
  have HDI := Lib.hid hdist
  have HP := Lib.hid hp
  have HFV := Lib.hid hfv
  have HE1 := Lib.hid c1
  have HR3 := Lib.hid (K3.out.row HR0.out id)
  have HKW3 : Hid (Keeps (fun _ => False) w w3) := HK0.out.trans K3.out (fun _ _ h => h)
  clear hfld hFM hp hfv c1 hMg hcell c0 hMk hSM hok hdist hcnt ht1 htl e0 e1 HEX HCX HMX hnm HR0 HW0 HK0 K3
  go_wp2_with (fail)
  go_loopw [39] (fun i wr => ∃ k : Nat, i = .int .i64 (k : Int) ∧ k ≤ nf ∧ Keeps (fun _ => False) w3 wr) (fun i _ => nf - natOfV i)
  case atStart => exact ⟨0, rfl, Nat.zero_le _, Keeps.refl _ _⟩
  case round =>
   obtain ⟨k, rfl, hk, hkk⟩ := hrel
   have HKK := Lib.hid hkk
   have HKW : Hid (Keeps (fun _ => False) w wr) := HKW3.out.trans hkk (fun _ _ h => h)
   clear hkk
   by_cases hlt : k < nf
   · have t1 : (k : Int) < (nf : Int) := by omega
     have t0 : (0 : Int) ≤ (k : Int) := by omega
     have hkl : k < fs.length := by rw [HN.out]; exact hlt
     obtain ⟨b2, off2, rfl, hc2⟩ := HM.out.cells (by intro e; rw [e] at hkl; simp at hkl)
     obtain ⟨vv, q0, q1, hvv⟩ := hc2 k hkl
     have hff := HFLD.out k hkl
     have hbf := HBD.out
     unfold MBound at hbf
     have hbf := hbf _ (List.getElem_mem hkl)
     obtain ⟨Q, hQ⟩ : ∃ Q, fs[k] = Q := ⟨_, rfl⟩
     rw [hQ] at q0 hvv hff hbf
     obtain ⟨q, ps⟩ := Q
     simp only at q0 hvv hff hbf
     obtain ⟨hq0, hps, f, hff3, hrep, hvf⟩ := hff
     obtain ⟨av, cv, rfl, hcv, hmv⟩ := hvv.len
     obtain ⟨r, hr⟩ : ∃ r, ps.length = r := ⟨_, rfl⟩
     rw [hr] at hcv q1 hvv
     unfold maxLen at hmv
     obtain ⟨tq, rfl⟩ : ∃ tq : Nat, q = (tq : Int) := ⟨q.toNat, by omega⟩
     have hff4 : M.fields[tq]? = some f := hff3
     obtain ⟨hql, hfe⟩ := List.getElem?_eq_some_iff.1 hff4
     have hqp : (tq : Int) < (p : Int) := by rw [HP.out] at hql; omega
     obtain ⟨bf, of, rfl, hcf2⟩ := HFV.out.cells (by intro e; rw [e] at hql; simp at hql)
     obtain ⟨d0, d1, d2, d3, d4, d5⟩ := hcf2 tq hql
     rw [hfe] at d0 d1 d2 d3 d4 d5
     have hfok := HFM.out.2 f (List.mem_of_getElem? hff4)
     obtain ⟨f0, f1, f2, f3, f4, f5⟩ := f
     simp only at d0 d1 d2 d3 d4 d5
     have q0 := HKW.out.cell q0 id
     have q1 := HKW.out.cell q1 id
     have hwk : IntKind.i64.wrap ((k : Int) + 1) = ((k + 1 : Nat) : Int) := by rw [IntWalk.i64_in _ (by omega)]; rfl
     have e1 := HKW.out.cell HE1.out id
     have m0 := HKW.out.cell d0 id
     have m1 := HKW.out.cell d1 id
     have m2 := HKW.out.cell d2 id
     have m3 := HKW.out.cell d3 id
     have m4 := HKW.out.cell d4 id
     have m5 := HKW.out.cell d5 id
     have s0 := cell_row (j := 0) (HKK.out.row HR3.out id)
     simp at s0
     clear hc2 hcf2 d0 d1 d2 d3 d4 d5
     go_upto_region 11 with (fail)
     obtain ⟨W2, hW2⟩ : ∃ W, wr.alloc (.cells #[.int .i64 (tq : Int), .slice av r cv] 31) = W := ⟨_, rfl⟩
     have hk2 : Keeps (fun _ => False) wr W2 := by rw [← hW2]; exact (Keeps.refl _ wr).alloc _
     have r2 : W2.heap[wr.heap.size]? = some (.cells #[.int .i64 (tq : Int), .slice av r cv] 31 (0, 0)) := by rw [← hW2]; exact heap_alloc_new wr _
     rw [hW2]
     obtain ⟨KF, hKF⟩ : ∃ KF, wr.heap.size = KF := ⟨_, rfl⟩
     rw [hKF] at r2 ⊢
     have g0 := hk2.cell s0 id
     have g1 := hk2.cell e1 id
     have g2 := cell_row (j := 0) r2
     simp at g2
     have m0 := hk2.cell m0 id
     have m1 := hk2.cell m1 id
     have m2 := hk2.cell m2 id
     have m3 := hk2.cell m3 id
     have m4 := hk2.cell m4 id
     have m5 := hk2.cell m5 id
     have n0 := World.block_lt_of_cell? W2 _ g0
     have n1 := World.block_lt_of_cell? W2 _ g1
     have n2 := World.block_lt_of_cell? W2 _ g2
     have n3 := World.block_lt_of_cell? W2 _ m0
     have HS : Hid (∀ w', Keeps (fun _ => False) W2 w' → w'.cell? ⟨KS, 0, none⟩ = some (.slice (some ⟨b, off, none⟩) nm cx) ∧ w'.cell? ⟨b, off + t * 2 + 1, none⟩ = some (.slice (some ⟨bf, of, none⟩) p cf) ∧ w'.cell? ⟨KF, 0, none⟩ = some (.int .i64 (tq : Int)) ∧ w'.cell? ⟨bf, of + tq * 6, none⟩ = some (.string f0) ∧ w'.cell? ⟨bf, of + tq * 6 + 1, none⟩ = some (.int .i64 f1) ∧ w'.cell? ⟨bf, of + tq * 6 + 2, none⟩ = some (.int .i64 f2) ∧ w'.cell? ⟨bf, of + tq * 6 + 3, none⟩ = some (.bool f3) ∧ w'.cell? ⟨bf, of + tq * 6 + 4, none⟩ = some (.bool f4) ∧ w'.cell? ⟨bf, of + tq * 6 + 5, none⟩ = some (.int .i64 f5)) := fun w' h => ⟨h.cell g0 id, h.cell g1 id, h.cell g2 id, h.cell m0 id, h.cell m1 id, h.cell m2 id, h.cell m3 id, h.cell m4 id, h.cell m5 id⟩
     have HS6 : Hid (∀ w' (x0 x1 x2 x3 x4 x5 : Value), Keeps (fun _ => False) W2 w' → ((((((w'.setCell ⟨W2.heap.size, 0, none⟩ x0).setCell ⟨W2.heap.size, 1, none⟩ x1).setCell ⟨W2.heap.size, 2, none⟩ x2).setCell ⟨W2.heap.size, 3, none⟩ x3).setCell ⟨W2.heap.size, 4, none⟩ x4).setCell ⟨W2.heap.size, 5, none⟩ x5).cell? ⟨KS, 0, none⟩ = some (.slice (some ⟨b, off, none⟩) nm cx) ∧ ((((((w'.setCell ⟨W2.heap.size, 0, none⟩ x0).setCell ⟨W2.heap.size, 1, none⟩ x1).setCell ⟨W2.heap.size, 2, none⟩ x2).setCell ⟨W2.heap.size, 3, none⟩ x3).setCell ⟨W2.heap.size, 4, none⟩ x4).setCell ⟨W2.heap.size, 5, none⟩ x5).cell? ⟨b, off + t * 2 + 1, none⟩ = some (.slice (some ⟨bf, of, none⟩) p cf) ∧ ((((((w'.setCell ⟨W2.heap.size, 0, none⟩ x0).setCell ⟨W2.heap.size, 1, none⟩ x1).setCell ⟨W2.heap.size, 2, none⟩ x2).setCell ⟨W2.heap.size, 3, none⟩ x3).setCell ⟨W2.heap.size, 4, none⟩ x4).setCell ⟨W2.heap.size, 5, none⟩ x5).cell? ⟨KF, 0, none⟩ = some (.int .i64 (tq : Int)) ∧ ((((((w'.setCell ⟨W2.heap.size, 0, none⟩ x0).setCell ⟨W2.heap.size, 1, none⟩ x1).setCell ⟨W2.heap.size, 2, none⟩ x2).setCell ⟨W2.heap.size, 3, none⟩ x3).setCell ⟨W2.heap.size, 4, none⟩ x4).setCell ⟨W2.heap.size, 5, none⟩ x5).cell? ⟨bf, of + tq * 6, none⟩ = some (.string f0) ∧ ((((((w'.setCell ⟨W2.heap.size, 0, none⟩ x0).setCell ⟨W2.heap.size, 1, none⟩ x1).setCell ⟨W2.heap.size, 2, none⟩ x2).setCell ⟨W2.heap.size, 3, none⟩ x3).setCell ⟨W2.heap.size, 4, none⟩ x4).setCell ⟨W2.heap.size, 5, none⟩ x5).cell? ⟨bf, of + tq * 6 + 1, none⟩ = some (.int .i64 f1) ∧ ((((((w'.setCell ⟨W2.heap.size, 0, none⟩ x0).setCell ⟨W2.heap.size, 1, none⟩ x1).setCell ⟨W2.heap.size, 2, none⟩ x2).setCell ⟨W2.heap.size, 3, none⟩ x3).setCell ⟨W2.heap.size, 4, none⟩ x4).setCell ⟨W2.heap.size, 5, none⟩ x5).cell? ⟨bf, of + tq * 6 + 2, none⟩ = some (.int .i64 f2) ∧ ((((((w'.setCell ⟨W2.heap.size, 0, none⟩ x0).setCell ⟨W2.heap.size, 1, none⟩ x1).setCell ⟨W2.heap.size, 2, none⟩ x2).setCell ⟨W2.heap.size, 3, none⟩ x3).setCell ⟨W2.heap.size, 4, none⟩ x4).setCell ⟨W2.heap.size, 5, none⟩ x5).cell? ⟨bf, of + tq * 6 + 3, none⟩ = some (.bool f3) ∧ ((((((w'.setCell ⟨W2.heap.size, 0, none⟩ x0).setCell ⟨W2.heap.size, 1, none⟩ x1).setCell ⟨W2.heap.size, 2, none⟩ x2).setCell ⟨W2.heap.size, 3, none⟩ x3).setCell ⟨W2.heap.size, 4, none⟩ x4).setCell ⟨W2.heap.size, 5, none⟩ x5).cell? ⟨bf, of + tq * 6 + 4, none⟩ = some (.bool f4) ∧ ((((((w'.setCell ⟨W2.heap.size, 0, none⟩ x0).setCell ⟨W2.heap.size, 1, none⟩ x1).setCell ⟨W2.heap.size, 2, none⟩ x2).setCell ⟨W2.heap.size, 3, none⟩ x3).setCell ⟨W2.heap.size, 4, none⟩ x4).setCell ⟨W2.heap.size, 5, none⟩ x5).cell? ⟨bf, of + tq * 6 + 5, none⟩ = some (.int .i64 f5)) := fun w' x0 x1 x2 x3 x4 x5 h => by
      have k6 := store6_keeps w' W2.heap.size x0 x1 x2 x3 x4 x5
      exact ⟨k6.cell (h.cell g0 id) (Nat.ne_of_lt n0), k6.cell (h.cell g1 id) (Nat.ne_of_lt n1), k6.cell (h.cell g2 id) (Nat.ne_of_lt n2), k6.cell (h.cell m0 id) (Nat.ne_of_lt n3), k6.cell (h.cell m1 id) (Nat.ne_of_lt n3), k6.cell (h.cell m2 id) (Nat.ne_of_lt n3), k6.cell (h.cell m3 id) (Nat.ne_of_lt n3), k6.cell (h.cell m4 id) (Nat.ne_of_lt n3), k6.cell (h.cell m5 id) (Nat.ne_of_lt n3)⟩
     have HR2 := Lib.hid r2
     have HK2 := Lib.hid hk2
     have HVV := Lib.hid hvv
     have HR := Lib.hid hr
     have HQ := Lib.hid hQ
     have HVF := Lib.hid hvf
     have HFOK := Lib.hid hfok
     have HBF := Lib.hid hbf
     clear hW2 hk2 r2 hKF g0 g1 g2 m0 m1 m2 m3 m4 m5 s0 e1 q0 q1 n0 n1 n2 n3 hvv hr hQ hvf hff3 hff4 hfe hrep hps hq0 hql hfok hbf
     go_region_held3 (fun w' => w'.cell? ⟨KS, 0, none⟩ = some (.slice (some ⟨b, off, none⟩) nm cx) ∧ w'.cell? ⟨b, off + t * 2 + 1, none⟩ = some (.slice (some ⟨bf, of, none⟩) p cf) ∧ w'.cell? ⟨KF, 0, none⟩ = some (.int .i64 (tq : Int)) ∧ w'.cell? ⟨bf, of + tq * 6, none⟩ = some (.string f0) ∧ w'.cell? ⟨bf, of + tq * 6 + 1, none⟩ = some (.int .i64 f1) ∧ w'.cell? ⟨bf, of + tq * 6 + 2, none⟩ = some (.int .i64 f2) ∧ w'.cell? ⟨bf, of + tq * 6 + 3, none⟩ = some (.bool f3) ∧ w'.cell? ⟨bf, of + tq * 6 + 4, none⟩ = some (.bool f4) ∧ w'.cell? ⟨bf, of + tq * 6 + 5, none⟩ = some (.int .i64 f5)) (first | (exact HS.out _ (by repeat (first | exact Keeps.refl _ _ | apply Keeps.alloc | apply Keeps.drew))) | (exact HS6.out _ _ _ _ _ _ _ (by repeat (first | exact Keeps.refl _ _ | apply Keeps.alloc | apply Keeps.drew)))) (fail)
     obtain ⟨W3, hW3⟩ : ∃ W, (W2.alloc (.cells #[.string f0, .int .i64 f1, .int .i64 f2, .bool f3, .bool f4, .int .i64 f5] 33)).drew = W := ⟨_, rfl⟩
     have hk3 : Keeps (fun _ => False) W2 W3 := by rw [← hW3]; exact ((Keeps.refl _ W2).alloc _).drew
     have r3 : W3.heap[W2.heap.size]? = some (.cells #[.string f0, .int .i64 f1, .int .i64 f2, .bool f3, .bool f4, .int .i64 f5] 33 (0, 0)) := by rw [← hW3]; exact heap_alloc_new W2 _
     rw [hW3]
     obtain ⟨KT, hKT⟩ : ∃ KT, W2.heap.size = KT := ⟨_, rfl⟩
     rw [hKT] at r3 ⊢
     have rf := hk3.row HR2.out id
     have f1' := cell_row (j := 1) rf
     simp at f1'
     have HRT := Lib.hid r3
     have HX3 : Hid (Keeps (fun _ => False) w3 W3) := HKK.out.trans (HK2.out.trans hk3 (fun _ _ h => h)) (fun _ _ h => h)
     clear hW3 hk3 r3 hKT rf HS HS6 HR2 HK2 hqp
     go_wp2_with (fail)
     go_loopw [56] (fun i wx => ∃ j : Nat, i = .int .i64 (j : Int) ∧ j ≤ r ∧ Keeps (fun _ => False) W3 wx) (fun i _ => r - natOfV i)
     case atStart => exact ⟨0, rfl, Nat.zero_le _, Keeps.refl _ _⟩
     case round =>
      obtain ⟨j, rfl, hj, hkx⟩ := hrel
      have HKX := Lib.hid hkx
      have HX : Hid (Keeps (fun _ => False) w3 wr) := HX3.out.trans hkx (fun _ _ h => h)
      have HW : Hid (Keeps (fun _ => False) w wr) := HKW3.out.trans HX.out (fun _ _ h => h)
      clear hkx
      by_cases hjr : j < r
      · have u2 : (j : Int) < (r : Int) := by omega
        have u3 : (0 : Int) ≤ (j : Int) := by omega
        have hjl : j < ps.length := by rw [HR.out]; exact hjr
        obtain ⟨bv, ov, rfl, hcv2⟩ := HVV.out.cells (by intro e; rw [e] at hjl; simp at hjl)
        have hvp := HVF.out _ (List.getElem_mem hjl)
        have hbp := HBF.out _ (List.getElem_mem hjl)
        obtain ⟨PP, hP⟩ : ∃ PP, ps[j] = PP := ⟨_, rfl⟩
        obtain ⟨bb, i, u, g, s, m⟩ := PP
        rw [hP] at hvp hbp
        have hrng := HVV.out.ranges hjl hP
        obtain ⟨am, cm, y0, y1, y2, y3, y4, y5, hm5⟩ := hcv2 j hjl bb i u g s m hP
        have v0 := HW.out.cell y0 id
        have v1 := HW.out.cell y1 id
        have v2 := HW.out.cell y2 id
        have v3 := HW.out.cell y3 id
        have v4 := HW.out.cell y4 id
        have v5 := HW.out.cell y5 id
        obtain ⟨nmm, hnmm⟩ : ∃ n, m.length = n := ⟨_, rfl⟩
        rw [hnmm] at v5 hm5
        have hwj : IntKind.i64.wrap ((j : Int) + 1) = ((j + 1 : Nat) : Int) := by rw [IntWalk.i64_in _ (by omega)]; rfl
        clear y0 y1 y2 y3 y4 y5 hnmm hcv2
        have HREC := Lib.hid (fun (wx : World) (hx : Keeps (fun _ => False) w wx) => HIH.out wx f5 _ m (HSC.out.keeps hx) (hm5.keeps hx) hbp.2 (HTB.out.keeps hx) HNU.out)
        have HDO := Lib.hid (fun (h11 : f2 ≠ 11) (wx : World) (hx : Keeps (fun _ => False) w wx) => HDF.out (some ⟨b, off, none⟩) nm cx y S 19 f0 f1 f2 f5 f3 f4 bb i u g s am nmm cm m wx (HTB.out.keeps hx) (HSC.out.keeps hx).2 HOK.out HDI.out HNU.out HFOK.out hvp hrng h11)
        clear hP hm5 hvp hbp hrng
        go_upto_region 15 with (fail)
        obtain ⟨W5, hW5⟩ : ∃ W, wr.alloc (.cells #[.bool bb, .int .i64 i, .int .u64 (u : Int), .int .u64 (g : Int), .string s, .slice am nmm cm] 39) = W := ⟨_, rfl⟩
        have hk5 : Keeps (fun _ => False) wr W5 := by rw [← hW5]; exact (Keeps.refl _ wr).alloc _
        have r5 : W5.heap[wr.heap.size]? = some (.cells #[.bool bb, .int .i64 i, .int .u64 (u : Int), .int .u64 (g : Int), .string s, .slice am nmm cm] 39 (0, 0)) := by rw [← hW5]; exact heap_alloc_new wr _
        rw [hW5]
        obtain ⟨KV, hKV⟩ : ∃ KV, wr.heap.size = KV := ⟨_, rfl⟩
        rw [hKV] at r5 ⊢
        have hrt5 := hk5.row (HKX.out.row HRT.out id) id
        have hrs5 := hk5.row (HX.out.row HR3.out id) id
        have b0 := cell_row (j := 0) hrt5
        have b1 := cell_row (j := 1) hrt5
        have b2 := cell_row (j := 2) hrt5
        have b3 := cell_row (j := 3) hrt5
        have b4 := cell_row (j := 4) hrt5
        have b5 := cell_row (j := 5) hrt5
        have c0 := cell_row (j := 0) r5
        have c1 := cell_row (j := 1) r5
        have c2 := cell_row (j := 2) r5
        have c3 := cell_row (j := 3) r5
        have c4 := cell_row (j := 4) r5
        have c5 := cell_row (j := 5) r5
        have s0 := cell_row (j := 0) hrs5
        have s1 := cell_row (j := 1) hrs5
        simp at b0 b1 b2 b3 b4 b5 c0 c1 c2 c3 c4 c5 s0 s1
        have HK5 := Lib.hid hk5
        have HW5 : Hid (Keeps (fun _ => False) w W5) := HW.out.trans hk5 (fun _ _ h => h)
        have HB2 := Lib.hid b2
        clear hW5 hk5 r5 hKV hrt5 hrs5 v0 v1 v2 v3 v4 v5
        by_cases h11 : f2 = 11
        · subst h11
          go_wp2_with (go_at_call 3; (with_reducible refine (HREC.out _ HW5.out).mono ?_); rintro e w6 ⟨rfl, k6⟩; have K6 := Lib.hid k6; clear k6)
          go_roundw
          case rel => exact ⟨j + 1, rfl, by omega, (HKX.out.trans HK5.out (fun _ _ h => h)).trans K6.out (fun _ _ h => h)⟩
          case measure => simp [natOfV]; omega
        have e11 : (f2 == 11) = false := by simp [h11]
        go_upto_region 19 with (go_at_call 6; (with_reducible refine (HDO.out h11 _ HW5.out).mono ?_); rintro e w6 ⟨⟨E, nv, uv, okb, rfl, hsay⟩, k6⟩; have K6 := Lib.hid k6; have HSAY := Lib.hid hsay; clear k6 hsay)
        cases okb with
        | false =>
         go_wp2_with (fail)
         go_roundw
         case rel => exact ⟨j + 1, rfl, by omega, ((HKX.out.trans HK5.out (fun _ _ h => h)).trans K6.out (fun _ _ h => h)).trans ((Keeps.refl _ _).alloc _) (fun _ _ h => h)⟩
         case measure => simp [natOfV]; omega
        | true =>
         obtain ⟨T, hdm, hdu⟩ := HSAY.out rfl
         obtain ⟨W6, hW6⟩ : ∃ W, w6.alloc (.cells #[.int .i64 f2, .bool bb, .int .i64 i, .int .u64 (u : Int), .int .u64 (g : Int), .string s, .string E] 42) = W := ⟨_, rfl⟩
         have hk6 : Keeps (fun _ => False) w6 W6 := by rw [← hW6]; exact (Keeps.refl _ w6).alloc _
         have r6 : W6.heap[w6.heap.size]? = some (.cells #[.int .i64 f2, .bool bb, .int .i64 i, .int .u64 (u : Int), .int .u64 (g : Int), .string s, .string E] 42 (0, 0)) := by rw [← hW6]; exact heap_alloc_new w6 _
         rw [hW6]
         obtain ⟨KX, hKX⟩ : ∃ KX, w6.heap.size = KX := ⟨_, rfl⟩
         rw [hKX] at r6 ⊢
         have x0 := cell_row (j := 0) r6
         have x1 := cell_row (j := 1) r6
         have x2 := cell_row (j := 2) r6
         have x3 := cell_row (j := 3) r6
         have x4 := cell_row (j := 4) r6
         have x5 := cell_row (j := 5) r6
         have x6 := cell_row (j := 6) r6
         simp at x0 x1 x2 x3 x4 x5 x6
         have HR6 := Lib.hid r6
         have HK6 := Lib.hid hk6
         have HDM := Lib.hid hdm
         have HDU := Lib.hid hdu
         have H56 : Hid (Keeps (fun _ => False) W5 W6) := K6.out.trans hk6 (fun _ _ h => h)
         clear hW6 hk6 r6 hKX hdm hdu b0 b1 b2 b3 b4 b5 c0 c1 c2 c3 c4 c5 s0 s1 HSAY
         go_upto_region 21 with (go_at_call 7; (with_reducible refine (HDM.out _ HK6.out).mono ?_); rintro e w7 ⟨rfl, k7⟩; have K7 := Lib.hid k7; clear k7)
         have b2 := K7.out.cell (H56.out.cell HB2.out id) id
         clear x0 x1 x2 x3 x4 x5 x6
         go_upto_region 24 with (go_at_call 8; (with_reducible refine (HDU.out _ (HK6.out.trans K7.out (fun _ _ h => h))).mono ?_); rintro e w8 ⟨⟨h, rfl, hfine⟩, k8⟩; have K8 := Lib.hid k8; clear k8)
         obtain ⟨W8, hW8⟩ : ∃ W, w8.alloc (.cells #[.int .i64 f2, .bool bb, .int .i64 i, .int .u64 (u : Int), .int .u64 (h : Int), .string s, .string E] 42) = W := ⟨_, rfl⟩
         have hk8 : Keeps (fun _ => False) w8 W8 := by rw [← hW8]; exact (Keeps.refl _ w8).alloc _
         have r8 : W8.heap[w8.heap.size]? = some (.cells #[.int .i64 f2, .bool bb, .int .i64 i, .int .u64 (u : Int), .int .u64 (h : Int), .string s, .string E] 42 (0, 0)) := by rw [← hW8]; exact heap_alloc_new w8 _
         rw [hW8]
         obtain ⟨KY, hKY⟩ : ∃ KY, w8.heap.size = KY := ⟨_, rfl⟩
         rw [hKY] at r8 ⊢
         have hk68 : Keeps (fun _ => False) W6 W8 := (K7.out.trans K8.out (fun _ _ h => h)).trans hk8 (fun _ _ h => h)
         have r68 := hk68.row HR6.out id
         have b2 := hk68.cell (H56.out.cell HB2.out id) id
         have x0 := cell_row (j := 0) r68
         have x1 := cell_row (j := 1) r68
         have x2 := cell_row (j := 2) r68
         have x3 := cell_row (j := 3) r68
         have x4 := cell_row (j := 4) r68
         have x5 := cell_row (j := 5) r68
         have x6 := cell_row (j := 6) r68
         have y0 := cell_row (j := 0) r8
         have y1 := cell_row (j := 1) r8
         have y2 := cell_row (j := 2) r8
         have y3 := cell_row (j := 3) r8
         have y4 := cell_row (j := 4) r8
         have y5 := cell_row (j := 5) r8
         have y6 := cell_row (j := 6) r8
         simp at x0 x1 x2 x3 x4 x5 x6 y0 y1 y2 y3 y4 y5 y6
         have HKE : Hid (Keeps (fun _ => False) W3 W8) := ((HKX.out.trans HK5.out (fun _ _ h => h)).trans H56.out (fun _ _ h => h)).trans hk68 (fun _ _ h => h)
         clear hW8 hk8 r8 hKY hk68 r68 HDM HDU HREC HDO HR6 HB2
         have HSM := Lib.hid (same_any g h)
         rcases hfine with hsame | ⟨h2, hsame, hnear⟩
         · rw [hsame] at HSM
           clear hsame
           go_wp2_with (go_at_call 9; (with_reducible refine (HSM.out _).mono ?_); rintro e w9 ⟨rfl, k9⟩; have K9 := Lib.hid k9; clear k9)
           all_goals go_roundw
           case rel => exact ⟨j + 1, rfl, by omega, HKE.out.trans K9.out (fun _ _ h => h)⟩
           case measure => simp [natOfV]; omega
         · rw [hsame] at HSM
           subst h2
           have HNR := Lib.hid hnear
           clear hsame hnear
           go_wp2_with (first
            | (go_at_call 9; (with_reducible refine (HSM.out _).mono ?_); rintro e w9 ⟨rfl, k9⟩; have K9 := Lib.hid k9; have x4 := k9.cell x4 id; have y4 := k9.cell y4 id; have b2 := k9.cell b2 id; clear k9)
            | (go_at_call 10; (with_reducible refine (HNR.out _).mono ?_); rintro e w10 ⟨rfl, k10⟩; have K10 := Lib.hid k10; clear k10))
           all_goals go_roundw
           case rel => exact ⟨j + 1, rfl, by omega, (HKE.out.trans K9.out (fun _ _ h => h)).trans K10.out (fun _ _ h => h)⟩
           case measure => simp [natOfV]; omega
      · have u2 : ¬ (j : Int) < (r : Int) := by omega
        go_wp2_with (fail)
        go_roundw
        case rel => exact ⟨k + 1, rfl, by omega, HX.out⟩
        case measure => simp [natOfV]; omega
   · have t1 : ¬ (k : Int) < (nf : Int) := by omega
     go_wp2_with (go_at_call 7; (with_reducible refine (HLAST.out _ HKW.out).mono ?_); rintro e w9 ⟨rfl, k9⟩; have K9 : Keeps (fun _ => False) w w9 := HKW.out.trans k9 (fun _ _ h => h); clear k9)
     go_ret
     exact ⟨rfl, K9⟩
end Go.Proofs.YtonegoemmologaaGreatDoor
