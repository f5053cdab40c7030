/-
  textOps: what is written of a message, as operations.
  The plain side of FnMsgSnapshot: a message's first fields; the first operation; eq.
-/
import Derived.Test.YtmijjppjodpagaaGreatDoorM30
import Derived.Test.YtmijjppjodpagaaGreatDoorM31
import Derived.Deep.RegionHeld3
import Derived.Test.YtmijjppjodpagaaGreatDoorM25
import Derived.Test.YtmijjppjodpagaaGreatDoorM27
set_option linter.unusedVariables false
set_option linter.unusedSimpArgs false
namespace Go.Proofs.YtmijjppjodpagaaGreatDoor
open Go.RowKit
theorem textOp_any (x y : Value) (S : Sch) (name : ByteArray) (number kind type : Int) (rep map : Bool) (b : Bool) (i : Int) (u g : Nat) (s : ByteArray) (am : Option Addr) (n cm : Nat) (msg : List (Int × List PV)) (inner : Int → List (Int × List PV) → List OpV) (w : World) (hsch : SchAt w x y S) (hen : sortK kind = 7 → 0 ≤ type ∧ type < S.enums.length) (hlen : ∀ e ∈ S.enums, e.names.length = e.numbers.length)
    (hin : kind = 11 → ∀ wx, Keeps (fun _ => False) w wx → Calls Tryz.prog 6 #[.agg #[x, y], .int .i64 type, .slice am n cm] wx (OpsRes wx (inner type msg))) (hb : kind = 11 → (inner type msg).length ≤ 900000) :
    Calls Tryz.prog 16 #[.agg #[x, y], .agg #[.string name, .int .i64 number, .int .i64 kind, .bool rep, .bool map, .int .i64 type], .agg #[.bool b, .int .i64 i, .int .u64 (u : Int), .int .u64 (g : Int), .string s, .slice am n cm]] w (OpsRes w (valOps inner S kind type b i u g s msg)) := by
  by_cases h8 : kind = 8
  · exact textOp_8 x y S name number kind type rep map b i u g s am n cm msg inner w h8
  by_cases h9 : kind = 9
  · exact textOp_9 x y S name number kind type rep map b i u g s am n cm msg inner w h9
  by_cases h12 : kind = 12
  · exact textOp_12 x y S name number kind type rep map b i u g s am n cm msg inner w h12
  by_cases h2 : kind = 2
  · exact textOp_2 x y S name number kind type rep map b i u g s am n cm msg inner w h2
  by_cases h1 : kind = 1
  · exact textOp_1 x y S name number kind type rep map b i u g s am n cm msg inner w h1
  by_cases h13 : kind = 13
  · exact textOp_13 x y S name number kind type rep map b i u g s am n cm msg inner w h13
  by_cases h4 : kind = 4
  · exact textOp_4 x y S name number kind type rep map b i u g s am n cm msg inner w h4
  by_cases h7 : kind = 7
  · exact textOp_7 x y S name number kind type rep map b i u g s am n cm msg inner w h7
  by_cases h6 : kind = 6
  · exact textOp_6 x y S name number kind type rep map b i u g s am n cm msg inner w h6
  by_cases h14 : kind = 14
  · have h := hen (by rw [h14]; rfl)
    exact textOp_14 x y S name number kind type rep map b i u g s am n cm msg inner w h14 hsch h.1 h.2 hlen
  by_cases h11 : kind = 11
  · exact textOp_11 x y S name number kind type rep map b i u g s am n cm msg inner w h11 (hin h11) (hb h11)
  exact textOp_else x y S name number kind type rep map b i u g s am n cm msg inner w h8 h9 h12 h2 h1 h13 h4 h7 h6 h14 h11

/-- What textOps says at d levels. -/
def TOSay (x y : Value) (S : Sch) (d : Nat) : Prop := ∀ (w : World) (t : Int) (v : Value) (fs : List (Int × List PV)) (l : Nat), SchAt w x y S → MsgAt w d v fs → MFits S l t fs → cntM d fs ≤ 2000 →
  Calls Tryz.prog 6 #[.agg #[x, y], .int .i64 t, v] w (OpsRes w (opsM S d t fs))
set_option maxRecDepth 1000000 in
set_option maxHeartbeats 40000000 in
theorem textOps_succ (x y : Value) (S : Sch) (hok : SchOk S) (d : Nat) (ih : TOSay x y S d) : TOSay x y S (d + 1) := by
  intro w t v fs l hsch hm hf hcnt
  cases l with
  | zero => exact absurd hf (by unfold MFits; exact id)
  | succ l =>
  obtain ⟨ax, cx, rfl, hcx, hmx⟩ := hsch.1.len
  obtain ⟨nm, hnm⟩ : ∃ n, S.msgs.length = n := ⟨_, rfl⟩
  obtain ⟨ag, cg, rfl, hcg, hmg⟩ := hm.len
  obtain ⟨nf, hnf⟩ : ∃ n, fs.length = n := ⟨_, rfl⟩
  have hSM := hsch.1
  have hmf := hf
  unfold MFits at hmf
  obtain ⟨ht0, ht1, hfld⟩ := hmf
  obtain ⟨t, rfl⟩ : ∃ k : Nat, t = (k : Int) := ⟨t.toNat, by omega⟩
  have htl : t < S.msgs.length := by omega
  obtain ⟨b, off, rfl, hcell⟩ := MTsAt.cells hSM (by intro e; rw [e] at htl; simp at htl)
  obtain ⟨fv, e0, e1, hfv⟩ := hcell t htl
  obtain ⟨M, hMk⟩ : ∃ M, S.msgs[t] = M := ⟨_, rfl⟩
  rw [hMk] at e0 hfv
  have hMg : S.msgs[((t : Nat) : Int).toNat]? = some M := by rw [show ((t : Int)).toNat = t from rfl, List.getElem?_eq_getElem htl, hMk]
  have hfld := hfld M hMg
  have hFM := hok.2.2.2 M (by rw [← hMk]; exact List.getElem_mem htl)
  have hEN := hok.2.2.1
  obtain ⟨af, cf, rfl, hcf, hmf2⟩ := hfv.len
  obtain ⟨p, hp⟩ : ∃ p, M.fields.length = p := ⟨_, rfl⟩
  rw [hp] at hcf e1 hfv
  rw [hnm] at hcx hsch ih hSM ⊢
  rw [hnf] at hcg hm ⊢
  unfold maxLen at hmx hmg hmf2
  obtain ⟨W1, hW1⟩ : ∃ W, w.alloc (.cells #[.slice (some ⟨b, off, none⟩) nm cx, y] 25) = W := ⟨_, rfl⟩
  have hk1 : Keeps (fun _ => False) w W1 := by rw [← hW1]; exact (Keeps.refl _ w).alloc _
  have r1 : W1.heap[w.heap.size]? = some (.cells #[.slice (some ⟨b, off, none⟩) nm cx, y] 25 (0, 0)) := by rw [← hW1]; exact heap_alloc_new w _
  have hsz1 : w.heap.size < W1.heap.size := by rw [← hW1]; simp
  obtain ⟨ops, hops⟩ : ∃ o, opsM S (d + 1) (t : Int) fs = o := ⟨_, rfl⟩
  have hlen3 := opsM_len S (d + 1) (t : Int) fs
  rw [hops] at hlen3 ⊢
  have htn : (t : Int) < (nm : Int) := by omega
  have HN := Lib.hid hnf
  have HM := Lib.hid hm
  have HSC := Lib.hid hsch
  have HIH := Lib.hid ih
  have HFLD := Lib.hid hfld
  have HFM := Lib.hid hFM
  have HEN := Lib.hid hEN
  have HP := Lib.hid hp
  have HFV := Lib.hid hfv
  have HE1 := Lib.hid e1
  have HW1 := Lib.hid hW1
  have HK1 := Lib.hid hk1
  have HR1 := Lib.hid r1
  have HMG := Lib.hid hMg
  have HOPS := Lib.hid hops
  have HL3 : Hid (ops.length ≤ 6000) := by show _ ≤ _; omega
  have HCN := Lib.hid hcnt
  have HSZ1 := Lib.hid hsz1
  clear hnf hm hsch ih hfld hFM hEN hp hfv e1 hW1 hk1 r1 hMg hops hlen3 hcell e0 hMk hnm hf hSM hok hcnt ht1 htl hsz1
  go_enter Tryz.func6, Tryz.ntmps6
  go_wp2_with (fail)
  rw [HW1.out]
  obtain ⟨KS, hKS⟩ : ∃ KS, w.heap.size = KS := ⟨_, rfl⟩
  rw [hKS] at HR1 HSZ1 ⊢
  clear hKS
  obtain ⟨BS, hBS⟩ : ∃ BS, W1.heap.size = BS := ⟨_, rfl⟩
  have HBS := Lib.hid hBS
  clear hBS
  go_loopw [7, 15] (fun o i wr => ∃ k : Nat, i = .int .i64 (k : Int) ∧ k ≤ nf ∧ OOwn BS wr o (opsM S (d + 1) (t : Int) (fs.take k)) ∧ Keeps (fun j => BS ≤ j) W1 wr) (fun _ i _ => nf - natOfV i)
  case atStart => exact ⟨0, rfl, Nat.zero_le _, by rw [List.take_zero]; exact OOwn.nil _ _, Keeps.refl _ _⟩
  case round =>
    obtain ⟨k, rfl, hk, ho, hkk⟩ := hrel
    have HO := Lib.hid ho
    have HKK := Lib.hid hkk
    have HKW : Hid (Keeps (fun _ => False) w wr) := (HK1.out.trans (hkk.mono (S1 := fun _ => False) (fun i hi h => absurd hi (by have := HBS.out; omega))) (fun _ _ h => h))
    clear ho hkk
    by_cases hlt : k < nf
    · have t1 : (k : Int) < (nf : Int) := by omega
      have t0 : (0 : Int) ≤ (k : Int) := by omega
      have hkl : k < fs.length := by rw [HN.out]; exact hlt
      obtain ⟨b2, off2, rfl, hc2⟩ := HM.out.cells (by intro e; rw [e] at hkl; simp at hkl)
      obtain ⟨vv, q0, q1, hvv⟩ := hc2 k hkl
      have hff := HFLD.out k hkl
      obtain ⟨Q, hQ⟩ : ∃ Q, fs[k] = Q := ⟨_, rfl⟩
      rw [hQ] at q0 hvv hff
      obtain ⟨q, ps⟩ := Q
      simp only at q0 hvv hff
      obtain ⟨hq0, hps, f, hff3, hrep, hvf⟩ := hff
      obtain ⟨av, cv, rfl, hcv, hmv⟩ := hvv.len
      obtain ⟨r, hr⟩ : ∃ r, ps.length = r := ⟨_, rfl⟩
      rw [hr] at hcv q1 hvv
      unfold maxLen at hmv
      obtain ⟨tq, rfl⟩ : ∃ tq : Nat, q = (tq : Int) := ⟨q.toNat, by omega⟩
      have hff4 : M.fields[tq]? = some f := hff3
      obtain ⟨hql, hfe⟩ := List.getElem?_eq_some_iff.1 hff4
      have hqp : (tq : Int) < (p : Int) := by rw [HP.out] at hql; omega
      obtain ⟨bf, of, rfl, hcf2⟩ := HFV.out.cells (by intro e; rw [e] at hql; simp at hql)
      obtain ⟨d0, d1, d2, d3, d4, d5⟩ := hcf2 tq hql
      rw [hfe] at d0 d1 d2 d3 d4 d5
      obtain ⟨f0, f1, f2, f3, f4, f5⟩ := f
      simp only at d0 d1 d2 d3 d4 d5
      have q0 := HKW.out.cell q0 id
      have q1 := HKW.out.cell q1 id
      have hwk : IntKind.i64.wrap ((k : Int) + 1) = ((k + 1 : Nat) : Int) := by rw [IntWalk.i64_in _ (by omega)]; rfl
      have e1 := HKW.out.cell HE1.out id
      have m0 := HKW.out.cell d0 id
      have m1 := HKW.out.cell d1 id
      have m2 := HKW.out.cell d2 id
      have m3 := HKW.out.cell d3 id
      have m4 := HKW.out.cell d4 id
      have m5 := HKW.out.cell d5 id
      have s0 := cell_row (j := 0) (HKK.out.row HR1.out (by have := HBS.out; have := HSZ1.out; omega))
      simp at s0
      clear hc2 hcf2 d0 d1 d2 d3 d4 d5
      go_upto_region 5 with (fail)
      obtain ⟨W2, hW2⟩ : ∃ W, wr.alloc (.cells #[.int .i64 (tq : Int), .slice av r cv] 43) = W := ⟨_, rfl⟩
      have hk2 : Keeps (fun _ => False) wr W2 := by rw [← hW2]; exact (Keeps.refl _ wr).alloc _
      have r2 : W2.heap[wr.heap.size]? = some (.cells #[.int .i64 (tq : Int), .slice av r cv] 43 (0, 0)) := by rw [← hW2]; exact heap_alloc_new wr _
      rw [hW2]
      obtain ⟨KF, hKF⟩ : ∃ KF, wr.heap.size = KF := ⟨_, rfl⟩
      have hszf : wr.heap.size < W2.heap.size := by rw [← hW2]; simp
      rw [hKF] at r2 hszf ⊢
      have HKF := Lib.hid hKF
      have HSZF := Lib.hid hszf
      have g0 := hk2.cell s0 id
      have g1 := hk2.cell e1 id
      have g2 := cell_row (j := 0) r2
      simp at g2
      have m0 := hk2.cell m0 id
      have m1 := hk2.cell m1 id
      have m2 := hk2.cell m2 id
      have m3 := hk2.cell m3 id
      have m4 := hk2.cell m4 id
      have m5 := hk2.cell m5 id
      have n0 := World.block_lt_of_cell? W2 _ g0
      have n1 := World.block_lt_of_cell? W2 _ g1
      have n2 := World.block_lt_of_cell? W2 _ g2
      have n3 := World.block_lt_of_cell? W2 _ m0
      have HS : Hid (∀ w', Keeps (fun _ => False) W2 w' → w'.cell? ⟨KS, 0, none⟩ = some (.slice (some ⟨b, off, none⟩) nm cx) ∧ w'.cell? ⟨b, off + t * 2 + 1, none⟩ = some (.slice (some ⟨bf, of, none⟩) p cf) ∧ w'.cell? ⟨KF, 0, none⟩ = some (.int .i64 (tq : Int)) ∧ w'.cell? ⟨bf, of + tq * 6, none⟩ = some (.string f0) ∧ w'.cell? ⟨bf, of + tq * 6 + 1, none⟩ = some (.int .i64 f1) ∧ w'.cell? ⟨bf, of + tq * 6 + 2, none⟩ = some (.int .i64 f2) ∧ w'.cell? ⟨bf, of + tq * 6 + 3, none⟩ = some (.bool f3) ∧ w'.cell? ⟨bf, of + tq * 6 + 4, none⟩ = some (.bool f4) ∧ w'.cell? ⟨bf, of + tq * 6 + 5, none⟩ = some (.int .i64 f5)) := fun w' h => ⟨h.cell g0 id, h.cell g1 id, h.cell g2 id, h.cell m0 id, h.cell m1 id, h.cell m2 id, h.cell m3 id, h.cell m4 id, h.cell m5 id⟩
      have HS6 : Hid (∀ w' (x0 x1 x2 x3 x4 x5 : Value), Keeps (fun _ => False) W2 w' → ((((((w'.setCell ⟨W2.heap.size, 0, none⟩ x0).setCell ⟨W2.heap.size, 1, none⟩ x1).setCell ⟨W2.heap.size, 2, none⟩ x2).setCell ⟨W2.heap.size, 3, none⟩ x3).setCell ⟨W2.heap.size, 4, none⟩ x4).setCell ⟨W2.heap.size, 5, none⟩ x5).cell? ⟨KS, 0, none⟩ = some (.slice (some ⟨b, off, none⟩) nm cx) ∧ ((((((w'.setCell ⟨W2.heap.size, 0, none⟩ x0).setCell ⟨W2.heap.size, 1, none⟩ x1).setCell ⟨W2.heap.size, 2, none⟩ x2).setCell ⟨W2.heap.size, 3, none⟩ x3).setCell ⟨W2.heap.size, 4, none⟩ x4).setCell ⟨W2.heap.size, 5, none⟩ x5).cell? ⟨b, off + t * 2 + 1, none⟩ = some (.slice (some ⟨bf, of, none⟩) p cf) ∧ ((((((w'.setCell ⟨W2.heap.size, 0, none⟩ x0).setCell ⟨W2.heap.size, 1, none⟩ x1).setCell ⟨W2.heap.size, 2, none⟩ x2).setCell ⟨W2.heap.size, 3, none⟩ x3).setCell ⟨W2.heap.size, 4, none⟩ x4).setCell ⟨W2.heap.size, 5, none⟩ x5).cell? ⟨KF, 0, none⟩ = some (.int .i64 (tq : Int)) ∧ ((((((w'.setCell ⟨W2.heap.size, 0, none⟩ x0).setCell ⟨W2.heap.size, 1, none⟩ x1).setCell ⟨W2.heap.size, 2, none⟩ x2).setCell ⟨W2.heap.size, 3, none⟩ x3).setCell ⟨W2.heap.size, 4, none⟩ x4).setCell ⟨W2.heap.size, 5, none⟩ x5).cell? ⟨bf, of + tq * 6, none⟩ = some (.string f0) ∧ ((((((w'.setCell ⟨W2.heap.size, 0, none⟩ x0).setCell ⟨W2.heap.size, 1, none⟩ x1).setCell ⟨W2.heap.size, 2, none⟩ x2).setCell ⟨W2.heap.size, 3, none⟩ x3).setCell ⟨W2.heap.size, 4, none⟩ x4).setCell ⟨W2.heap.size, 5, none⟩ x5).cell? ⟨bf, of + tq * 6 + 1, none⟩ = some (.int .i64 f1) ∧ ((((((w'.setCell ⟨W2.heap.size, 0, none⟩ x0).setCell ⟨W2.heap.size, 1, none⟩ x1).setCell ⟨W2.heap.size, 2, none⟩ x2).setCell ⟨W2.heap.size, 3, none⟩ x3).setCell ⟨W2.heap.size, 4, none⟩ x4).setCell ⟨W2.heap.size, 5, none⟩ x5).cell? ⟨bf, of + tq * 6 + 2, none⟩ = some (.int .i64 f2) ∧ ((((((w'.setCell ⟨W2.heap.size, 0, none⟩ x0).setCell ⟨W2.heap.size, 1, none⟩ x1).setCell ⟨W2.heap.size, 2, none⟩ x2).setCell ⟨W2.heap.size, 3, none⟩ x3).setCell ⟨W2.heap.size, 4, none⟩ x4).setCell ⟨W2.heap.size, 5, none⟩ x5).cell? ⟨bf, of + tq * 6 + 3, none⟩ = some (.bool f3) ∧ ((((((w'.setCell ⟨W2.heap.size, 0, none⟩ x0).setCell ⟨W2.heap.size, 1, none⟩ x1).setCell ⟨W2.heap.size, 2, none⟩ x2).setCell ⟨W2.heap.size, 3, none⟩ x3).setCell ⟨W2.heap.size, 4, none⟩ x4).setCell ⟨W2.heap.size, 5, none⟩ x5).cell? ⟨bf, of + tq * 6 + 4, none⟩ = some (.bool f4) ∧ ((((((w'.setCell ⟨W2.heap.size, 0, none⟩ x0).setCell ⟨W2.heap.size, 1, none⟩ x1).setCell ⟨W2.heap.size, 2, none⟩ x2).setCell ⟨W2.heap.size, 3, none⟩ x3).setCell ⟨W2.heap.size, 4, none⟩ x4).setCell ⟨W2.heap.size, 5, none⟩ x5).cell? ⟨bf, of + tq * 6 + 5, none⟩ = some (.int .i64 f5)) := fun w' x0 x1 x2 x3 x4 x5 h => by
        have k6 := store6_keeps w' W2.heap.size x0 x1 x2 x3 x4 x5
        exact ⟨k6.cell (h.cell g0 id) (Nat.ne_of_lt n0), k6.cell (h.cell g1 id) (Nat.ne_of_lt n1), k6.cell (h.cell g2 id) (Nat.ne_of_lt n2), k6.cell (h.cell m0 id) (Nat.ne_of_lt n3), k6.cell (h.cell m1 id) (Nat.ne_of_lt n3), k6.cell (h.cell m2 id) (Nat.ne_of_lt n3), k6.cell (h.cell m3 id) (Nat.ne_of_lt n3), k6.cell (h.cell m4 id) (Nat.ne_of_lt n3), k6.cell (h.cell m5 id) (Nat.ne_of_lt n3)⟩
      have HR2 := Lib.hid r2
      have HK2 := Lib.hid hk2
      clear hW2 hk2 r2 hKF hszf g0 g1 g2 m0 m1 m2 m3 m4 m5 s0 e1 q0 q1 n0 n1 n2 n3
      go_region_held3 (fun w' => w'.cell? ⟨KS, 0, none⟩ = some (.slice (some ⟨b, off, none⟩) nm cx) ∧ w'.cell? ⟨b, off + t * 2 + 1, none⟩ = some (.slice (some ⟨bf, of, none⟩) p cf) ∧ w'.cell? ⟨KF, 0, none⟩ = some (.int .i64 (tq : Int)) ∧ w'.cell? ⟨bf, of + tq * 6, none⟩ = some (.string f0) ∧ w'.cell? ⟨bf, of + tq * 6 + 1, none⟩ = some (.int .i64 f1) ∧ w'.cell? ⟨bf, of + tq * 6 + 2, none⟩ = some (.int .i64 f2) ∧ w'.cell? ⟨bf, of + tq * 6 + 3, none⟩ = some (.bool f3) ∧ w'.cell? ⟨bf, of + tq * 6 + 4, none⟩ = some (.bool f4) ∧ w'.cell? ⟨bf, of + tq * 6 + 5, none⟩ = some (.int .i64 f5)) (first | (exact HS.out _ (by repeat (first | exact Keeps.refl _ _ | apply Keeps.alloc | apply Keeps.drew))) | (exact HS6.out _ _ _ _ _ _ _ (by repeat (first | exact Keeps.refl _ _ | apply Keeps.alloc | apply Keeps.drew)))) (fail)
      obtain ⟨W3, hW3⟩ : ∃ W, (W2.alloc (.cells #[.string f0, .int .i64 f1, .int .i64 f2, .bool f3, .bool f4, .int .i64 f5] 45)).drew = W := ⟨_, rfl⟩
      have hk3 : Keeps (fun _ => False) W2 W3 := by rw [← hW3]; exact ((Keeps.refl _ W2).alloc _).drew
      have r3 : W3.heap[W2.heap.size]? = some (.cells #[.string f0, .int .i64 f1, .int .i64 f2, .bool f3, .bool f4, .int .i64 f5] 45 (0, 0)) := by rw [← hW3]; exact heap_alloc_new W2 _
      have hsz3 : W2.heap.size < W3.heap.size := by rw [← hW3]; simp
      rw [hW3]
      obtain ⟨KT, hKT⟩ : ∃ KT, W2.heap.size = KT := ⟨_, rfl⟩
      rw [hKT] at r3 hsz3 ⊢
      have hsz2 := HK2.out.size
      have hkf0 := HKF.out
      have hbs0 := HBS.out
      have hkks := HKK.out.size
      have HLT : Hid (KF < KT ∧ KT < W3.heap.size ∧ KS < BS ∧ BS ≤ KF) := by
        have h1 := HSZF.out
        have h2 := HSZ1.out
        show _ ∧ _ ∧ _ ∧ _
        omega
      have rf := hk3.row HR2.out id
      have f1' := cell_row (j := 1) rf
      simp at f1'
      have HRF := Lib.hid rf
      have HRT := Lib.hid r3
      have hK3 : Keeps (fun _ => False) wr W3 := HK2.out.trans hk3 (fun _ _ h => h)
      have HX3 : Hid (Keeps (fun j => BS ≤ j) W1 W3) := HKK.out.trans hK3 (fun _ _ h => h.elim)
      have HO3 := Lib.hid (HO.out.keeps hK3 (fun _ _ => id))
      have HT3 : Hid (∀ k, u7.ownBlock = some k → BS ≤ k ∧ k ≠ KF ∧ k ≠ KT) := fun k hk => by
        have h1 := HO.out.lt k hk
        have h2 := HLT.out
        exact ⟨h1.1, by omega, by omega⟩
      have HTW : Hid (∀ wx, Keeps (fun j => BS ≤ j) W1 wx → Keeps (fun _ => False) w wx) := fun wx h => HK1.out.trans (h.mono (S1 := fun _ => False) (fun i hi h => absurd hi (by have := HBS.out; omega))) (fun _ _ h => h)
      have HVV := Lib.hid hvv
      have HR := Lib.hid hr
      have HQ := Lib.hid hQ
      have HVF := Lib.hid hvf
      have HFT : Hid (ftOf S (t : Int) (tq : Int) = some ⟨f0, f1, f2, f3, f4, f5⟩) := by
        show _ = _
        unfold ftOf
        rw [HMG.out]
        exact hff3
      have HFOK := Lib.hid (HFM.out.2 _ (List.mem_of_getElem? hff4))
      have HQR : Hid (1 ≤ r) := by show _ ≤ _; omega
      clear hW3 hk3 r3 hKT hsz3 hsz2 hkf0 hbs0 hkks rf hK3 hvv hr hQ hvf hff3 hff4 hfe hrep hps hq0 hql hqp
      go_wp2_with (fail)
      go_loopw [7, 32] (fun o i wx => ∃ j : Nat, i = .int .i64 (j : Int) ∧ j ≤ r ∧ OOwn BS wx o (opsM S (d + 1) (t : Int) (fs.take k) ++ ((ps.take j).map (valsOf (opsM S d) S ⟨f0, f1, f2, f3, f4, f5⟩)).flatten) ∧ Keeps (fun j => BS ≤ j ∧ j ≠ KF ∧ j ≠ KT) W3 wx ∧ ∀ k, o.ownBlock = some k → BS ≤ k ∧ k ≠ KF ∧ k ≠ KT) (fun _ i _ => r - natOfV i)
      case atStart => exact ⟨0, rfl, Nat.zero_le _, by rw [List.take_zero, List.map_nil, List.flatten_nil, List.append_nil]; exact HO3.out, Keeps.refl _ _, HT3.out⟩
      case round =>
        obtain ⟨j, rfl, hj, hox, hkx, htx⟩ := hrel
        have HOX := Lib.hid hox
        have HKX := Lib.hid hkx
        have HTX := Lib.hid htx
        have HX : Hid (Keeps (fun j => BS ≤ j) W1 wr) := HX3.out.trans (hkx.mono (S1 := fun j => BS ≤ j) (fun _ _ h => h.1)) (fun _ _ h => h)
        have HW : Hid (Keeps (fun _ => False) w wr) := HTW.out _ HX.out
        clear hox hkx htx
        by_cases hjr : j < r
        · have u2 : (j : Int) < (r : Int) := by omega
          have u3 : (0 : Int) ≤ (j : Int) := by omega
          have hjl : j < ps.length := by rw [HR.out]; exact hjr
          obtain ⟨bv, ov, rfl, hcv2⟩ := HVV.out.cells (by intro e; rw [e] at hjl; simp at hjl)
          have hvp := HVF.out _ (List.getElem_mem hjl)
          have hcp := cnt_part d (List.getElem_mem hkl) (p := ps[j]) (by rw [HQ.out]; exact List.getElem_mem hjl)
          obtain ⟨PP, hP⟩ : ∃ PP, ps[j] = PP := ⟨_, rfl⟩
          obtain ⟨bb, i, u, g, s, m⟩ := PP
          rw [hP] at hvp hcp
          obtain ⟨am, cm, y0, y1, y2, y3, y4, y5, hm5⟩ := hcv2 j hjl bb i u g s m hP
          have v0 := HW.out.cell y0 id
          have v1 := HW.out.cell y1 id
          have v2 := HW.out.cell y2 id
          have v3 := HW.out.cell y3 id
          have v4 := HW.out.cell y4 id
          have v5 := HW.out.cell y5 id
          obtain ⟨nmm, hnmm⟩ : ∃ n, m.length = n := ⟨_, rfl⟩
          rw [hnmm] at v5 hm5
          have hcnt5 : 1 + cntM d m ≤ 2000 := Nat.le_trans hcp HCN.out
          have hlo := opsM_len S d f5 m
          have HTO : Hid (∀ wx, Keeps (fun _ => False) w wx → Calls Tryz.prog 16 #[.agg #[.slice (some ⟨b, off, none⟩) nm cx, y], .agg #[.string f0, .int .i64 f1, .int .i64 f2, .bool f3, .bool f4, .int .i64 f5], .agg #[.bool bb, .int .i64 i, .int .u64 (u : Int), .int .u64 (g : Int), .string s, .slice am nmm cm]] wx (OpsRes wx (valOps (opsM S d) S f2 f5 bb i u g s m))) := fun wx hx =>
            textOp_any _ y S f0 f1 f2 f5 f3 f4 bb i u g s am nmm cm m (opsM S d) wx (HSC.out.keeps hx) HFOK.out.2.1 (fun e he => (HEN.out e he).1) (fun h11 wy hy => HIH.out wy f5 _ m l (HSC.out.keeps (hx.trans hy (fun _ _ h => h))) (hm5.keeps (hx.trans hy (fun _ _ h => h))) (hvp.2.1 (by show sortK f2 = 8; rw [h11]; rfl)) (by omega)) (fun _ => by omega)
          have hp1 := ops_part (d := d) hkl HQ.out HFT.out (j + 1)
          rw [vals_step (opsM S d) hjl hP, List.length_append, List.length_append, HOPS.out] at hp1
          simp only at hp1
          have hp2 := HL3.out
          obtain ⟨L0, hL0⟩ : ∃ l, opsM S (d + 1) (t : Int) (fs.take k) ++ ((ps.take j).map (valsOf (opsM S d) S ⟨f0, f1, f2, f3, f4, f5⟩)).flatten = l := ⟨_, rfl⟩
          obtain ⟨VO, hVO⟩ : ∃ l, valOps (opsM S d) S f2 f5 bb i u g s m = l := ⟨_, rfl⟩
          have hLEN : L0.length + 1 + VO.length ≤ 6000 := by
            rw [← hL0, ← hVO, List.length_append]
            have h1 : ([nameOp ⟨f0, f1, f2, f3, f4, f5⟩] : List OpV).length = 1 := rfl
            omega
          have HST : Hid (opsM S (d + 1) (t : Int) (fs.take k) ++ ((ps.take (j + 1)).map (valsOf (opsM S d) S ⟨f0, f1, f2, f3, f4, f5⟩)).flatten = L0 ++ [nameOp ⟨f0, f1, f2, f3, f4, f5⟩] ++ VO) := by
            show _ = _
            rw [vals_step (opsM S d) hjl hP, ← hL0, ← hVO]
            simp only [List.append_assoc]
          rw [hL0] at HOX
          rw [hVO] at HTO
          have HLEN := Lib.hid hLEN
          have hwj : IntKind.i64.wrap ((j : Int) + 1) = ((j + 1 : Nat) : Int) := by rw [IntWalk.i64_in _ (by omega)]; rfl
          clear hP hm5 hnmm hcv2 hvp hcp hcnt5 hlo hp1 hp2 hL0 hVO hLEN y0 y1 y2 y3 y4 y5
          go_upto_region 9 with (fail)
          obtain ⟨W5, hW5⟩ : ∃ W, wr.alloc (.cells #[.bool bb, .int .i64 i, .int .u64 (u : Int), .int .u64 (g : Int), .string s, .slice am nmm cm] 51) = W := ⟨_, rfl⟩
          have hk5 : Keeps (fun _ => False) wr W5 := by rw [← hW5]; exact (Keeps.refl _ wr).alloc _
          have r5 : W5.heap[wr.heap.size]? = some (.cells #[.bool bb, .int .i64 i, .int .u64 (u : Int), .int .u64 (g : Int), .string s, .slice am nmm cm] 51 (0, 0)) := by rw [← hW5]; exact heap_alloc_new wr _
          have hsz5 : wr.heap.size < W5.heap.size := by rw [← hW5]; simp
          rw [hW5]
          obtain ⟨KV, hKV⟩ : ∃ KV, wr.heap.size = KV := ⟨_, rfl⟩
          rw [hKV] at r5 hsz5 ⊢
          have hwsz := HKX.out.size
          have hlt0 := HLT.out
          have HKV : Hid (KF < KV ∧ KT < KV ∧ BS ≤ KV ∧ KV < W5.heap.size) := by show _ ∧ _ ∧ _ ∧ _; omega
          have HT5 : Hid (∀ k, u7.ownBlock = some k → (BS ≤ k ∧ k ≠ KF ∧ k ≠ KT) ∧ k ≠ KV) := fun k hk => ⟨HTX.out k hk, by have h1 := HOX.out.lt k hk; omega⟩
          have HO5 := Lib.hid (HOX.out.keeps hk5 (fun _ _ => id))
          have hrt5 := hk5.row (HKX.out.row HRT.out (fun h => h.2.2 rfl)) id
          have hrs5 := hk5.row (HX.out.row HR1.out (by omega)) id
          have b0 := cell_row (j := 0) hrt5
          simp at b0
          have HRT5 := Lib.hid hrt5
          have HRS5 := Lib.hid hrs5
          have HR5 := Lib.hid r5
          have HK5 : Hid (Keeps (fun _ => False) wr W5) := hk5
          clear hW5 hk5 r5 hsz5 hKV hwsz hlt0 hrt5 hrs5 v0 v1 v2 v3 v4 v5
          go_upto_region 10 with (at_builtin; refine at_ops_grow rfl (.tmp 36) (.tmp 40) rfl BS (HO5.out.keeps ((Keeps.refl (fun _ => False) W5).alloc _) (fun _ _ => id)) rfl rfl (opsAt_one W5 (nameOp ⟨f0, f1, f2, f3, f4, f5⟩)) (by have h1 := HLEN.out; show _ + 1 ≤ _; omega) (by have h1 := HKV.out; simp; omega) (fun k => (BS ≤ k ∧ k ≠ KF ∧ k ≠ KT) ∧ k ≠ KV) HT5.out (by have h1 := HKV.out; simp; omega) ?_; intro v7 w7 o7 k7 t7; have O7 := Lib.hid o7; have K7 : Hid (Keeps (fun k => (BS ≤ k ∧ k ≠ KF ∧ k ≠ KT) ∧ k ≠ KV) W5 w7) := ((Keeps.refl _ W5).alloc _).trans k7 (fun _ _ h => h); have T7 := Lib.hid t7; clear o7 k7 t7)
          have hX7 : Keeps (fun j => BS ≤ j) W1 w7 := (HX.out.trans HK5.out (fun _ _ h => h.elim)).trans (K7.out.mono (S1 := fun j => BS ≤ j) (fun _ _ h => h.1.1)) (fun _ _ h => h)
          have HX7 := Lib.hid hX7
          have hrt7 := K7.out.row HRT5.out (fun h => h.1.2.2 rfl)
          have hrs7 := K7.out.row HRS5.out (fun h => by have h1 := HLT.out; omega)
          have hrv7 := K7.out.row HR5.out (fun h => h.2 rfl)
          have b0 := cell_row (j := 0) hrt7
          have b1 := cell_row (j := 1) hrt7
          have b2' := cell_row (j := 2) hrt7
          have b3 := cell_row (j := 3) hrt7
          have b4 := cell_row (j := 4) hrt7
          have b5 := cell_row (j := 5) hrt7
          have c0 := cell_row (j := 0) hrv7
          have c1 := cell_row (j := 1) hrv7
          have c2 := cell_row (j := 2) hrv7
          have c3 := cell_row (j := 3) hrv7
          have c4 := cell_row (j := 4) hrv7
          have c5 := cell_row (j := 5) hrv7
          have s0 := cell_row (j := 0) hrs7
          have s1 := cell_row (j := 1) hrs7
          simp at b0 b1 b2' b3 b4 b5 c0 c1 c2 c3 c4 c5 s0 s1
          clear hX7 hrt7 hrs7 hrv7
          go_wp2_with (first
            | (go_at_call 16; refine (HTO.out _ (HTW.out _ HX7.out)).mono ?_; rintro e w8 ⟨V8, rfl, hV8, k8⟩; have B8 := Lib.hid hV8; have K8 := Lib.hid k8; have O8 := Lib.hid (O7.out.keeps k8 (fun _ _ => id)); clear hV8 k8)
            | (at_builtin; have _h := O8; refine at_ops_grow rfl (.tmp 42) (.tmp 46) rfl BS O8.out rfl rfl B8.out (by have h1 := HLEN.out; rw [List.length_append]; show _ + 1 + _ ≤ _; omega) (by have h1 := HKV.out; have h2 := K7.out.size; have h3 := K8.out.size; omega) (fun k => BS ≤ k ∧ k ≠ KF ∧ k ≠ KT) (fun k hk => (T7.out k hk).1) (by have h1 := HKV.out; have h2 := K7.out.size; have h3 := K8.out.size; omega) ?_; intro v9 w9 o9 k9 t9; have O9 := Lib.hid o9; have K9 := Lib.hid k9; have T9 := Lib.hid t9; clear o9 k9 t9))
          go_roundw
          case rel =>
            refine ⟨j + 1, rfl, by omega, by rw [HST.out]; exact O9.out, ?_, T9.out⟩
            exact (((HKX.out.trans HK5.out (fun _ _ h => h.elim)).trans (K7.out.mono (S1 := fun k => BS ≤ k ∧ k ≠ KF ∧ k ≠ KT) (fun _ _ h => h.1)) (fun _ _ h => h)).trans K8.out (fun _ _ h => h.elim)).trans K9.out (fun _ _ h => h)
          case measure => simp [natOfV]; omega
        · have u2 : ¬ (j : Int) < (r : Int) := by omega
          have hjn : j = ps.length := by rw [HR.out]; omega
          rw [hjn, List.take_length] at HOX
          have HEQ : Hid (opsM S (d + 1) (t : Int) (fs.take (k + 1)) = opsM S (d + 1) (t : Int) (fs.take k) ++ (ps.map (valsOf (opsM S d) S ⟨f0, f1, f2, f3, f4, f5⟩)).flatten) := by
            show _ = _
            rw [opsM_succ S d (t : Int) fs k hkl, HQ.out, fieldOps_eq _ HFT.out]
          go_wp2_with (fail)
          go_roundw
          case rel => exact ⟨k + 1, rfl, by omega, by rw [HEQ.out]; exact HOX.out, HX.out⟩
          case measure => simp [natOfV]; omega
    · have t1 : ¬ (k : Int) < (nf : Int) := by omega
      have hkn : k = fs.length := by rw [HN.out]; omega
      rw [hkn, List.take_length, HOPS.out] at HO
      go_wp2_with (fail)
      go_ret
      exact ⟨_, rfl, HO.out.opsAt, HKW.out⟩
/-- textOps returns the operations of a message that fits. -/
theorem textOps_any (x y : Value) (S : Sch) (hok : SchOk S) : ∀ d : Nat, TOSay x y S d
  | 0 => fun _ _ _ _ _ _ hm _ _ => absurd hm (by unfold MsgAt; exact id)
  | d + 1 => textOps_succ x y S hok d (textOps_any x y S hok d)
end Go.Proofs.YtmijjppjodpagaaGreatDoor

namespace Go.Proofs.YtmijjppjodpagaaGreatDoor
open Go.RowKit
theorem RowsAt.take {w : World} {a : Option Addr} {n c sz : Nat} {xs : List (List Value)} (h : RowsAt w (.slice a n c) sz xs) (k : Nat) (hk : k ≤ xs.length) : RowsAt w (.slice a k c) sz (xs.take k) := by
  obtain ⟨a', c', hv, h1, h2, h3⟩ := h
  cases hv
  refine ⟨a, c, by rw [List.length_take, Nat.min_eq_left hk], by rw [List.length_take]; omega, h2, ?_⟩
  rcases h3 with rfl | ⟨b, off, rfl, h3⟩
  · exact .inl (by simp)
  · refine .inr ⟨b, off, rfl, fun j hj i u hi hu => ?_⟩
    rw [List.getElem_take] at hu
    exact h3 j (by rw [List.length_take] at hj; omega) i u hi hu
theorem MsgAt.take {w : World} {d : Nat} {a : Option Addr} {n c : Nat} {fs : List (Int × List PV)} (h : MsgAt w d (.slice a n c) fs) (k : Nat) (hk : k ≤ fs.length) : MsgAt w d (.slice a k c) (fs.take k) := by
  cases d with
  | zero => exact absurd h (by unfold MsgAt; exact id)
  | succ d =>
  unfold MsgAt at h ⊢
  obtain ⟨vs, h1, h2, h3⟩ := h
  refine ⟨vs.take k, by rw [List.length_take, List.length_take, h1], ?_, fun j hj hj' => ?_⟩
  · have h4 := RowsAt.take h2 k (by rw [List.length_zipWith, h1]; omega)
    rwa [List.take_zipWith] at h4
  · rw [List.length_take] at hj hj'
    have h5 := h3 j (by omega) (by omega)
    simpa only [List.getElem_take] using h5
theorem MFits.take {S : Sch} {l : Nat} {t : Int} {fs : List (Int × List PV)} (h : MFits S l t fs) (k : Nat) : MFits S l t (fs.take k) := by
  cases l with
  | zero => exact absurd h (by unfold MFits; exact id)
  | succ l =>
  unfold MFits at h ⊢
  refine ⟨h.1, h.2.1, fun M hM j hj => ?_⟩
  rw [List.length_take] at hj
  have h2 := h.2.2 M hM j (by omega)
  simpa only [List.getElem_take] using h2
theorem cntM_take (d k : Nat) (fs : List (Int × List PV)) : cntM d (fs.take k) ≤ cntM d fs := by
  cases d with
  | zero => exact Nat.le_refl _
  | succ d =>
  rw [cntM_succ, cntM_succ]
  conv => rhs; rw [← List.take_append_drop k fs, List.map_append, List.sum_append]
  omega
theorem opsM_head {S : Sch} {d l : Nat} {t : Int} {fs : List (Int × List PV)} (h : MFits S l t fs) (h0 : fs ≠ []) : ∃ f r, opsM S (d + 1) t fs = nameOp f :: r := by
  cases l with
  | zero => exact absurd h (by unfold MFits; exact id)
  | succ l =>
  unfold MFits at h
  obtain ⟨h1, h2, h3⟩ := h
  cases fs with
  | nil => exact absurd rfl h0
  | cons q fs =>
  obtain ⟨g1, g2, f, g3, _⟩ := h3 _ (List.getElem?_eq_getElem (by omega : t.toNat < S.msgs.length)) 0 (by simp)
  simp only [List.getElem_cons_zero] at g2 g3
  obtain ⟨qn, ps⟩ := q
  have hft : ftOf S t qn = some f := by
    unfold ftOf
    rw [List.getElem?_eq_getElem (by omega : t.toNat < S.msgs.length)]
    exact g3
  cases ps with
  | nil => simp at g2
  | cons p ps =>
  obtain ⟨b, i, u, g, s, m⟩ := p
  refine ⟨f, valOps (opsM S d) S f.kind f.type b i u g s m ++ ((ps.map (valsOf (opsM S d) S f)).flatten ++ (fs.map (fieldOps (opsM S d) S t)).flatten), ?_⟩
  simp [opsM, fieldOps, hft, valsOf]
theorem emit_nil {PT : Nat → Nat × Nat} {rs : List (Nat × List UInt8)} (h : AllSay PT [] rs) : emit 0 rs = [] := by
  have := h.len
  cases rs with
  | nil => rfl
  | cons x r => simp at this
set_option maxRecDepth 1000000 in
theorem eq_any (v1 v2 : Value) (l : List UInt8) (w : World) (h1 : BytesAt w v1 l) (h2 : BytesAt w v2 l) : Calls Tryz.prog 9 #[v1, v2] w fun e w' => e = .returned (.bool true) ∧ Keeps (fun _ => False) w w' := by
  have hc1 := run_to_str h1
  have hc2 := run_to_str h2
  obtain ⟨st, hst⟩ : ∃ s, mk l = s := ⟨_, rfl⟩
  rw [hst] at hc1 hc2
  have hss : (st.toList == st.toList) = true := by simp
  go_enter Tryz.func9, Tryz.ntmps9
  go_wp2
  go_ret
  exact ⟨by first | rfl | simp, by repeat (first | exact Keeps.refl _ _ | apply Keeps.drew)⟩
end Go.Proofs.YtmijjppjodpagaaGreatDoor
