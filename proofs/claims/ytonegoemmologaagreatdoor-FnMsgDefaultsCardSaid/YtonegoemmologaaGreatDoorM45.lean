/-
  fits and MessageFits of the reference: what they tell of a message.
-/
import Derived.Test.YtonegoemmologaaGreatDoorM43
import Derived.Test.YtonegoemmologaaGreatDoorM44
set_option linter.unusedVariables false
set_option linter.unusedSimpArgs false
namespace Go.Proofs.YtonegoemmologaaGreatDoor
open Go.RowKit
theorem sortK_range (k : Int) : sortK k = 0 ∨ sortK k = 1 ∨ sortK k = 2 ∨ sortK k = 3 ∨ sortK k = 4 ∨ sortK k = 5 ∨ sortK k = 6 ∨ sortK k = 7 ∨ sortK k = 8 := by
 unfold sortK
 repeat' split
 all_goals omega
def FitsSay (x y : Value) (S : Sch) (w0 : World) (L l : Nat) : Prop :=
 ∀ (w : World) (at_ : Int) (v : Value) (fs : List (Int × List PV)) (d : Nat) (left : Int), Keeps (fun _ => False) w0 w → MsgAt w0 d v fs → MBound d fs → w.heap[L]? = some (.cells #[.int .i64 left] 3 (0, 0)) → 0 ≤ left → left ≤ 2000 →
  Calls Tryz.prog 29 #[.agg #[x, y], .int .i64 at_, v, .int .i64 (l : Int), .pointer (some ⟨L, 0, none⟩)] w (Counts w L left (MFits S l at_ fs) (cntM d fs))
theorem valueFits_tells (x y : Value) (S : Sch) (l : Nat) (hl : l ≤ 20) (w0 : World) (L : Nat) (ih : FitsSay x y S w0 L l) (f : FT) (b : Bool) (i : Int) (u g : Nat) (s : ByteArray) (am : Option Addr) (cm : Nat) (msg : List (Int × List PV)) (d : Nat)
 (left : Int) (h0 : 0 ≤ left) (h1 : left ≤ 2000) (w : World) (hrow : w.heap[L]? = some (.cells #[.int .i64 left] 3 (0, 0))) (hk0 : Keeps (fun _ => False) w0 w) (hmsg : MsgAt w0 d (.slice am msg.length cm) msg) (hbd : MBound d msg) (hs : s.size ≤ maxLen) :
 Calls Tryz.prog 67 #[.agg #[x, y], .agg #[.string f.name, .int .i64 f.number, .int .i64 f.kind, .bool f.rep, .bool f.map, .int .i64 f.type], .agg #[.bool b, .int .i64 i, .int .u64 (u : Int), .int .u64 (g : Int), .string s, .slice am msg.length cm], .int .i64 ((l + 1 : Nat) : Int), .pointer (some ⟨L, 0, none⟩)] w
  (Counts w L left (VFits S l f (.mk b i u g s msg)) (cntM d msg)) := by
 have hsz : s.data.toList.length ≤ maxLen := by have : s.data.toList.length = s.size := rfl; omega
 obtain ⟨name, number, kind, rep, map, type⟩ := f
 rcases sortK_range kind with h | h | h | h | h | h | h | h | h
 · exact valueFits_0 x y S l name number kind type rep map b i u g s am cm msg d L left h0 w hrow h hsz
 · exact valueFits_1 x y S l name number kind type rep map b i u g s am cm msg d L left h0 w hrow h hsz
 · exact valueFits_2 x y S l name number kind type rep map b i u g s am cm msg d L left h0 w hrow h hsz
 · exact valueFits_3 x y S l name number kind type rep map b i u g s am cm msg d L left h0 w hrow h hsz
 · exact valueFits_4 x y S l name number kind type rep map b i u g s am cm msg d L left h0 w hrow h hsz
 · exact valueFits_5 x y S l name number kind type rep map b i u g s am cm msg d L left h0 w hrow h hsz
 · exact valueFits_6 x y S l name number kind type rep map b i u g s am cm msg d L left h0 w hrow h hsz
 · exact valueFits_7 x y S l name number kind type rep map b i u g s am cm msg d L left h0 w hrow h hsz
 · exact valueFits_8 x y S l name number kind type rep map b i u g s am cm msg d L left h0 w hrow h h1 hl w0 hk0 hmsg hbd ih
set_option maxRecDepth 1000000 in
set_option maxHeartbeats 20000000 in
theorem fits_zero (x y : Value) (S : Sch) (w0 : World) (L : Nat) (hsch : SchAt w0 x y S) : FitsSay x y S w0 L 0 := by
 intro w at_ v fs d left hk0 hm hbd hrow h0 h1
 obtain ⟨a, c, rfl, _, _⟩ := hsch.1.len
 obtain ⟨n, hn⟩ : ∃ n, S.msgs.length = n := ⟨_, rfl⟩
 obtain ⟨T, hT⟩ : ∃ T : Prop, MFits S 0 at_ fs = T := ⟨_, rfl⟩
 rw [hn, hT]
 clear hn hT hm hbd hsch
 go_enter Tryz.func29, Tryz.ntmps29
 go_wp2_with (fail)
 all_goals go_ret
 all_goals exact Counts.no hrow ((Keeps.refl _ w).alloc _) h0
def FieldFits (S : Sch) (l : Nat) (M : MT) (q : Int × List PV) : Prop := 0 ≤ q.1 ∧ 1 ≤ q.2.length ∧ ∃ f : FT, M.fields[q.1.toNat]? = some f ∧ (f.rep = false → q.2.length ≤ 1) ∧ ∀ p ∈ q.2, VFits S l f p
theorem mfits_of {S : Sch} {l : Nat} {t : Nat} {M : MT} {fs : List (Int × List PV)} (ht : t < S.msgs.length) (hM : S.msgs[t] = M) (h : ∀ j (hj : j < fs.length), FieldFits S l M fs[j]) : MFits S (l + 1) (t : Int) fs := by
 unfold MFits
 refine ⟨by omega, by omega, fun M' hM' j hj => ?_⟩
 rw [show ((t : Int)).toNat = t from rfl, List.getElem?_eq_getElem ht, hM] at hM'
 cases hM'
 obtain ⟨h1, h2, f, h3, h4, h5⟩ := h j hj
 exact ⟨h1, h2, f, h3, h4, fun p hp => h5 p hp⟩
def cntUpto (d k : Nat) (fs : List (Int × List PV)) : Nat := cntM (d + 1) (fs.take k)
def cntVals (d j : Nat) (ps : List PV) : Nat := ((ps.take j).map fun p => 1 + cntM d p.msg).sum
theorem cntM_succ (d : Nat) (fs : List (Int × List PV)) : cntM (d + 1) fs = (fs.map fun f => (f.2.map fun p => 1 + cntM d p.msg).sum).sum := rfl
theorem cntUpto_zero (d : Nat) (fs : List (Int × List PV)) : cntUpto d 0 fs = 0 := rfl
theorem cntVals_zero (d : Nat) (ps : List PV) : cntVals d 0 ps = 0 := rfl
theorem cntUpto_succ (d k : Nat) (fs : List (Int × List PV)) (hk : k < fs.length) : cntUpto d (k + 1) fs = cntUpto d k fs + cntVals d (fs[k]).2.length (fs[k]).2 := by
 unfold cntUpto cntVals
 rw [cntM_succ, cntM_succ, List.take_succ_eq_append_getElem hk, List.map_append, List.sum_append, List.take_length]
 simp
theorem cntUpto_all (d : Nat) (fs : List (Int × List PV)) : cntUpto d fs.length fs = cntM (d + 1) fs := by
 unfold cntUpto
 rw [List.take_length]
theorem cntVals_succ (d j : Nat) (ps : List PV) (hj : j < ps.length) : cntVals d (j + 1) ps = cntVals d j ps + (1 + cntM d (ps[j]).msg) := by
 unfold cntVals
 rw [List.take_succ_eq_append_getElem hj, List.map_append, List.sum_append]
 simp
def LeftAt (L : Nat) (wr : World) (l2 : Int) : Prop := wr.heap[L]? = some (.cells #[.int .i64 l2] 3 (0, 0)) ∧ 0 ≤ l2
def FUpto (S : Sch) (l : Nat) (M : MT) (fs : List (Int × List PV)) (k : Nat) : Prop := ∀ j (hj : j < fs.length), j < k → FieldFits S l M fs[j]
def VUpto (S : Sch) (l : Nat) (f : FT) (ps : List PV) (k : Nat) : Prop := ∀ j (hj : j < ps.length), j < k → VFits S l f ps[j]
theorem Counts.stop {w w' : World} {L : Nat} {left l2 : Int} {T : Prop} {used : Nat} (hk : Keeps (fun j => j = L) w w') (hr : w'.heap[L]? = some (.cells #[.int .i64 l2] 3 (0, 0))) (h1 : -1 ≤ l2) (h2 : l2 ≤ left) :
 Counts w L left T used (.returned (.bool false)) w' := ⟨false, l2, rfl, hk, hr, h1, h2, fun h => by cases h⟩
set_option maxRecDepth 1000000 in
set_option maxHeartbeats 40000000 in
theorem fits_succ (x y : Value) (S : Sch) (w0 : World) (L : Nat) (hsch : SchAt w0 x y S) (l : Nat) (hl : l ≤ 19) (hL0 : w0.heap.size ≤ L) (ih : FitsSay x y S w0 L l) : FitsSay x y S w0 L (l + 1) := by
 intro w at_ v fs d left hk0 hm hbd hrow h0 h1
 cases d with
 | zero => exact absurd hm (by unfold MsgAt; exact id)
 | succ d =>
 obtain ⟨a, c, rfl, hca, hma⟩ := hsch.1.len
 obtain ⟨n, hn⟩ : ∃ n, S.msgs.length = n := ⟨_, rfl⟩
 obtain ⟨T, hT⟩ : ∃ T : Prop, MFits S (l + 1) at_ fs = T := ⟨_, rfl⟩
 obtain ⟨used, hU⟩ : ∃ u, cntM (d + 1) fs = u := ⟨_, rfl⟩
 obtain ⟨ag, cg, rfl, hcg, hmg⟩ := hm.len
 obtain ⟨nf, hnf⟩ : ∃ n, fs.length = n := ⟨_, rfl⟩
 rw [hn] at hca ih
 rw [hnf] at hcg hm
 rw [hn, hT, hU, hnf]
 unfold maxLen at hma hmg
 have HT := Lib.hid hT
 have HU := Lib.hid hU
 have HN := Lib.hid hn
 have HNF := Lib.hid hnf
 have HSC := Lib.hid hsch
 have HM := Lib.hid hm
 have HBD := Lib.hid hbd
 have HI := Lib.hid ih
 have HK0 := Lib.hid hk0
 have HROW := Lib.hid hrow
 have HKW : Hid (∀ wx, Keeps (fun j => j = L) w wx → Keeps (fun _ => False) w0 wx) := fun wx hx => HK0.out.trans hx (fun i hi e => by omega)
 clear hT hU hn hnf hsch hm hbd ih hk0 hrow
 have hll : ((l + 1 : Nat) : Int) = (l : Int) + 1 := by omega
 have hle : ((l : Int) + 1 == 0) = false := by simp; omega
 by_cases g0 : at_ < 0
 · go_enter Tryz.func29, Tryz.ntmps29
   go_wp2_with (fail)
   all_goals go_ret
   all_goals exact Counts.no HROW.out ((Keeps.refl _ w).alloc _) h0
 by_cases g1 : (n : Int) ≤ at_
 · go_enter Tryz.func29, Tryz.ntmps29
   go_wp2_with (fail)
   all_goals go_ret
   all_goals exact Counts.no HROW.out ((Keeps.refl _ w).alloc _) h0
 obtain ⟨t, rfl⟩ : ∃ t : Nat, at_ = (t : Int) := ⟨at_.toNat, by omega⟩
 have htl : t < S.msgs.length := by rw [HN.out]; omega
 have htn : (t : Int) < (n : Int) := by omega
 have hSM := HSC.out.1
 obtain ⟨b, off, rfl, hcell⟩ := MTsAt.cells hSM (by intro e; rw [e] at htl; simp at htl)
 obtain ⟨fv, e0, e1, hfv⟩ := hcell t htl
 clear hSM
 obtain ⟨M, hMk⟩ : ∃ M, S.msgs[t] = M := ⟨_, rfl⟩
 rw [hMk] at e0 hfv
 have HMK := Lib.hid hMk
 have HFin : Hid ((∀ j (hj : j < fs.length), FieldFits S l M fs[j]) → T) := fun h => by rw [← HT.out]; exact mfits_of htl HMK.out h
 obtain ⟨af, cf, rfl, hcf, hmf⟩ := hfv.len
 obtain ⟨p, hp⟩ : ∃ p, M.fields.length = p := ⟨_, rfl⟩
 rw [hp] at hcf e1 hfv
 unfold maxLen at hmf
 have HFV := Lib.hid hfv
 have HP := Lib.hid hp
 obtain ⟨W1, hW1⟩ : ∃ W, w.alloc (.cells #[.slice (some ⟨b, off, none⟩) S.msgs.length c, y] 25) = W := ⟨_, rfl⟩
 rw [HN.out] at hW1
 have hK1 : Keeps (fun j => j = L) w W1 := by rw [← hW1]; exact (Keeps.refl _ w).alloc _
 have HRB : Hid (W1.heap[w.heap.size]? = some (.cells #[.slice (some ⟨b, off, none⟩) n c, y] 25 (0, 0))) := by show _ = _; rw [← hW1]; exact heap_alloc_new w _
 have HRL : Hid (W1.heap[L]? = some (.cells #[.int .i64 left] 3 (0, 0))) := by show _ = _; rw [← hW1]; exact ((Keeps.refl (fun _ => False) w).alloc _).row HROW.out id
 have e1 := (HKW.out _ hK1).cell e1 id
 rw [← hW1] at e1
 have HW1 := Lib.hid hW1
 have HK1 := Lib.hid hK1
 have hLs : L < w.heap.size := by
  have h := HROW.out
  rcases Nat.lt_or_ge L w.heap.size with h' | h'
  · exact h'
  · rw [Array.getElem?_eq_none h'] at h; cases h
 have HLs := Lib.hid hLs
 clear hW1 hK1 hcell e0 hMk hfv hp hLs
 go_enter Tryz.func29, Tryz.ntmps29
 go_wp2_with (fail)
 rw [HW1.out]
 clear e1
 go_loopw [12, 39] (fun la i wr => ∃ (k : Nat) (z l2 : Int), la = .int .i64 z ∧ i = .int .i64 (k : Nat) ∧ k ≤ nf ∧ -1 ≤ z ∧ Keeps (fun j => j = L) W1 wr ∧ LeftAt L wr l2 ∧ l2 + (cntUpto d k fs : Nat) = left ∧ FUpto S l M fs k) (fun _ i _ => nf - natOfV i)
 case atStart => exact ⟨0, -1, left, rfl, rfl, by omega, by omega, Keeps.refl _ _, ⟨HRL.out, h0⟩, by rw [cntUpto_zero]; simp, fun j _ h => by omega⟩
 case round =>
  obtain ⟨k, z, l2, rfl, rfl, hk, hz, hkk, hleft, hcnt, hall⟩ := hrel
  have HKK : Hid (Keeps (fun j => j = L) w wr) := HK1.out.trans hkk (fun _ _ h => h)
  have HKR : Hid (Keeps (fun _ => False) w0 wr) := HKW.out _ HKK.out
  have HX := Lib.hid hkk
  have HLA := Lib.hid hleft
  have HCN := Lib.hid hcnt
  have HALL := Lib.hid hall
  clear hkk hleft hcnt hall
  by_cases hlt : k < nf
  · have t1 : (k : Int) < (nf : Int) := by omega
    have t0 : (0 : Int) ≤ (k : Int) := by omega
    have hkl : k < fs.length := by rw [HNF.out]; exact hlt
    obtain ⟨b2, off2, rfl, hc2⟩ := HM.out.cells (by intro e; rw [e] at hkl; simp at hkl)
    obtain ⟨vv, q0, q1, hvv⟩ := hc2 k hkl
    have hbq := HBD.out _ (List.getElem_mem hkl)
    obtain ⟨Q, hQ⟩ : ∃ Q, fs[k] = Q := ⟨_, rfl⟩
    rw [hQ] at q0 hvv hbq
    obtain ⟨q, ps⟩ := Q
    simp only at q0 hvv hbq
    obtain ⟨av, cv, rfl, hcv, hmv⟩ := hvv.len
    obtain ⟨r, hr⟩ : ∃ r, ps.length = r := ⟨_, rfl⟩
    rw [hr] at hcv q1 hvv
    unfold maxLen at hmv
    have q0 := HKR.out.cell q0 id
    have q1 := HKR.out.cell q1 id
    have HVV := Lib.hid hvv
    have HR := Lib.hid hr
    have HQ := Lib.hid hQ
    have HBQ := Lib.hid hbq
    have hwk : IntKind.i64.wrap ((k : Int) + 1) = ((k + 1 : Nat) : Int) := by rw [IntWalk.i64_in _ (by omega)]; rfl
    clear hc2 hvv hr hQ hbq
    have HST : Hid (∀ wx, Keeps (fun _ => False) wr wx → Counts w L left T used (.returned (.bool false)) wx) := fun wx hx => Counts.stop (HKK.out.trans hx (fun _ _ h => h.elim)) (hx.row HLA.out.1 id) (by have := HLA.out.2; omega) (by have := HCN.out; omega)
    by_cases z0 : q ≤ z
    · go_wp2_with (fail)
      go_ret
      exact HST.out _ ((Keeps.refl _ wr).alloc _)
    by_cases z1 : (p : Int) ≤ q
    · go_wp2_with (fail)
      go_ret
      exact HST.out _ ((Keeps.refl _ wr).alloc _)
    by_cases z2 : r = 0
    · subst z2
      go_wp2_with (fail)
      go_ret
      exact HST.out _ ((Keeps.refl _ wr).alloc _)
    have z6 : ((r : Int) == 0) = false := by simp; omega
    obtain ⟨tq, rfl⟩ : ∃ tq : Nat, q = (tq : Int) := ⟨q.toNat, by omega⟩
    have hql : tq < M.fields.length := by rw [HP.out]; omega
    have u0 : (0 : Int) ≤ (tq : Int) := by omega
    have u1 : (tq : Int) < (p : Int) := by omega
    obtain ⟨bf, of, rfl, hcf2⟩ := HFV.out.cells (by intro e; rw [e] at hql; simp at hql)
    obtain ⟨d0, d1, d2, d3, d4, d5⟩ := hcf2 tq hql
    obtain ⟨f, hf⟩ : ∃ f, M.fields[tq] = f := ⟨_, rfl⟩
    rw [hf] at d0 d1 d2 d3 d4 d5
    have HF := Lib.hid hf
    have HKA : Hid (Keeps (fun _ => False) w0 (wr.alloc (.cells #[.int .i64 (tq : Int), .slice av r cv] 31))) := HKR.out.alloc _
    have c0 := HKA.out.cell d0 id
    have c1 := HKA.out.cell d1 id
    have c2' := HKA.out.cell d2 id
    have c3 := HKA.out.cell d3 id
    have c4 := HKA.out.cell d4 id
    have c5 := HKA.out.cell d5 id
    clear hcf2 hf d0 d1 d2 d3 d4 d5
    obtain ⟨f0, f1, f2, f3, f4, f5⟩ := f
    simp only at c0 c1 c2' c3 c4 c5
    by_cases z3 : f3 = false ∧ 1 < r
    · obtain ⟨rfl, z4⟩ := z3
      have z5 : (1 : Int) < (r : Int) := by omega
      go_wp2_with (fail)
      go_ret
      exact HST.out _ (((Keeps.refl _ wr).alloc _).alloc _)
    have HREP : Hid (f3 = false → ps.length ≤ 1) := fun h => by rw [HR.out]; rcases Nat.lt_or_ge 1 r with h' | h'; exact absurd ⟨h, h'⟩ z3; exact h'
    have hcase : f3 = true ∨ (f3 = false ∧ ¬ (1 : Int) < (r : Int)) := by
     cases f3
     · exact .inr ⟨rfl, fun h => z3 ⟨rfl, by omega⟩⟩
     · exact .inl rfl
    clear z3
    rcases hcase with rfl | ⟨rfl, z4⟩
    · skip
      go_wp2_with (fail)
      obtain ⟨W3, hW3⟩ : ∃ W, (wr.alloc (.cells #[.int .i64 (tq : Int), .slice av r cv] 31)).alloc (.cells #[.string f0, .int .i64 f1, .int .i64 f2, .bool true, .bool f4, .int .i64 f5] 33) = W := ⟨_, rfl⟩
      have hK3 : Keeps (fun _ => False) wr W3 := by rw [← hW3]; exact ((Keeps.refl _ wr).alloc _).alloc _
      have HR3 : Hid (W3.heap[wr.heap.size + 1]? = some (.cells #[.string f0, .int .i64 f1, .int .i64 f2, .bool true, .bool f4, .int .i64 f5] 33 (0, 0))) := by show _ = _; rw [← hW3]; exact heap_alloc2_new wr _ _
      rw [hW3]
      have hsz := HKK.out.size
      obtain ⟨KF, hKF⟩ : ∃ KF, wr.heap.size + 1 = KF := ⟨_, rfl⟩
      rw [hKF] at HR3 ⊢
      have HNL : Hid (¬ KF = L) := by show ¬ _; have := HLs.out; omega
      have HNL2 : Hid (¬ w.heap.size = L) := by show ¬ _; have := HLs.out; omega
      have HRB3 := Lib.hid (hK3.row (HX.out.row HRB.out HNL2.out) id)
      have HK3 : Hid (Keeps (fun j => j = L) w W3) := HKK.out.trans hK3 (fun _ _ h => h.elim)
      have HX3 : Hid (Keeps (fun j => j = L) W1 W3) := HX.out.trans hK3 (fun _ _ h => h.elim)
      have HRL3 := Lib.hid (hK3.row HLA.out.1 id)
      clear hW3 hKF hsz hK3 c0 c1 c2' c3 c4 c5 q0 q1
      go_loopw [79] (fun i wx => ∃ (j : Nat) (l3 : Int), i = .int .i64 (j : Nat) ∧ j ≤ r ∧ Keeps (fun j => j = L) W3 wx ∧ LeftAt L wx l3 ∧ l3 + (cntVals d j ps : Nat) = l2 ∧ VUpto S l ⟨f0, f1, f2, true, f4, f5⟩ ps j) (fun i _ => r - natOfV i)
      case atStart => exact ⟨0, l2, rfl, Nat.zero_le _, Keeps.refl _ _, ⟨HRL3.out, HLA.out.2⟩, by rw [cntVals_zero]; simp, fun j _ h => by omega⟩
      case round =>
       obtain ⟨j, l3, rfl, hj, hkx, hlx, hcx, hvx⟩ := hrel
       have HJ := Lib.hid hkx
       have HLJ := Lib.hid hlx
       have HCJ := Lib.hid hcx
       have HVJ := Lib.hid hvx
       clear hkx hlx hcx hvx
       have HJW : Hid (Keeps (fun j => j = L) w wr) := HK3.out.trans HJ.out (fun _ _ h => h)
       by_cases hjr : j < r
       · have u2 : (j : Int) < (r : Int) := by omega
         have u3 : (0 : Int) ≤ (j : Int) := by omega
         have hjl : j < ps.length := by rw [HR.out]; exact hjr
         have HJ0 : Hid (Keeps (fun _ => False) w0 wr) := HKW.out _ HJW.out
         obtain ⟨bv, ov, rfl, hcv2⟩ := HVV.out.cells (by intro e; rw [e] at hjl; simp at hjl)
         have hbp := HBQ.out _ (List.getElem_mem hjl)
         obtain ⟨PP, hP⟩ : ∃ PP, ps[j] = PP := ⟨_, rfl⟩
         obtain ⟨bb, i, u, g, s, m⟩ := PP
         rw [hP] at hbp
         obtain ⟨am, cm, y0, y1, y2, y3, y4, y5, hm5⟩ := hcv2 j hjl bb i u g s m hP
         have v0 := HJ0.out.cell y0 id
         have v1 := HJ0.out.cell y1 id
         have v2 := HJ0.out.cell y2 id
         have v3 := HJ0.out.cell y3 id
         have v4 := HJ0.out.cell y4 id
         have v5 := HJ0.out.cell y5 id
         obtain ⟨nm, hnm⟩ : ∃ n, m.length = n := ⟨_, rfl⟩
         have HPP := Lib.hid hP
         have HM5 := Lib.hid hm5
         have HBP := Lib.hid hbp
         have HNM := Lib.hid hnm
         rw [hnm] at v5
         have hrl : (wr.alloc (.cells #[.bool bb, .int .i64 i, .int .u64 (u : Int), .int .u64 (g : Int), .string s, .slice am nm cm] 39)).heap[L]? = some (.cells #[.int .i64 l3] 3 (0, 0)) := ((Keeps.refl (fun _ => False) wr).alloc _).row HLJ.out.1 id
         have L0 := cell_row (j := 0) hrl
         have LF := frozen_row (j := 0) hrl
         have HRL := Lib.hid hrl
         clear hrl
         have hl3 := HLJ.out.2
         have hcj := HCJ.out
         have hc0 := HCN.out
         have hwl : IntKind.i64.wrap (l3 - 1) = l3 - 1 := by rw [IntWalk.i64_in _ (by omega)]
         have hwj : IntKind.i64.wrap ((j : Int) + 1) = ((j + 1 : Nat) : Int) := by rw [IntWalk.i64_in _ (by omega)]; rfl
         simp at L0
         clear hP hm5 hbp hnm hcv2 hcj hc0 y0 y1 y2 y3 y4 y5
         go_upto_region 18 with (fail)
         obtain ⟨W5, hW5⟩ : ∃ W, (wr.alloc (.cells #[.bool bb, .int .i64 i, .int .u64 (u : Int), .int .u64 (g : Int), .string s, .slice am nm cm] 39)).setCell ⟨L, 0, none⟩ (.int .i64 (l3 - 1)) = W := ⟨_, rfl⟩
         have hK5 : Keeps (fun j => j = L) wr W5 := by rw [← hW5]; exact ((Keeps.refl (fun j => j = L) wr).alloc _).setCell ⟨L, 0, none⟩ (fun _ => rfl) _
         have HL5 : Hid (W5.heap[L]? = some (.cells #[.int .i64 (l3 - 1)] 3 (0, 0))) := by show _ = _; rw [← hW5]; exact setCell_row HRL.out _
         have hwsz := HJW.out.size
         have hLs2 := HLs.out
         have hp5 : W5.heap[wr.heap.size]? = some (.cells #[.bool bb, .int .i64 i, .int .u64 (u : Int), .int .u64 (g : Int), .string s, .slice am nm cm] 39 (0, 0)) := by
          rw [← hW5]
          exact (Keeps.setCell (S := fun j => j = L) (Keeps.refl _ _) ⟨L, 0, none⟩ (fun _ => rfl) _).row (heap_alloc_new wr _) (by omega)
         rw [hW5]
         obtain ⟨KV, hKV⟩ : ∃ KV, wr.heap.size = KV := ⟨_, rfl⟩
         rw [hKV] at hp5 ⊢
         have hrb := hK5.row (HJ.out.row HRB3.out HNL2.out) HNL2.out
         have hrf := hK5.row (HJ.out.row HR3.out HNL.out) HNL.out
         have HK5 := Lib.hid hK5
         have l0 := cell_row (j := 0) HL5.out
         have r0 := cell_row (j := 0) hrb
         have r1 := cell_row (j := 1) hrb
         have s0 := cell_row (j := 0) hrf
         have s1 := cell_row (j := 1) hrf
         have s2 := cell_row (j := 2) hrf
         have s3 := cell_row (j := 3) hrf
         have s4 := cell_row (j := 4) hrf
         have s5 := cell_row (j := 5) hrf
         have p0 := cell_row (j := 0) hp5
         have p1 := cell_row (j := 1) hp5
         have p2 := cell_row (j := 2) hp5
         have p3 := cell_row (j := 3) hp5
         have p4 := cell_row (j := 4) hp5
         have p5 := cell_row (j := 5) hp5
         simp at l0 r0 r1 s0 s1 s2 s3 s4 s5 p0 p1 p2 p3 p4 p5
         clear hW5 hK5 hp5 hKV hwsz hLs2 hrb hrf L0 LF v0 v1 v2 v3 v4 v5
         by_cases hneg : l3 - 1 < 0
         · go_wp2_with (fail)
           go_ret
           exact Counts.stop (HJW.out.trans HK5.out (fun _ _ h => h)) HL5.out (by omega) (by have := HCJ.out; have := HCN.out; omega)
         · have hc0 := HCN.out
           have hc1 := HCJ.out
           have hb0 : (0 : Int) ≤ l3 - 1 := by omega
           have hb1 : l3 - 1 ≤ 2000 := by omega
           have hb2 : l ≤ 20 := by omega
           have hkv : Keeps (fun _ => False) w0 W5 := HKW.out _ (HJW.out.trans HK5.out (fun _ _ h => h))
           have hVT : Calls Tryz.prog 67 #[.agg #[.slice (some ⟨b, off, none⟩) n c, y], .agg #[.string f0, .int .i64 f1, .int .i64 f2, .bool true, .bool f4, .int .i64 f5], .agg #[.bool bb, .int .i64 i, .int .u64 (u : Int), .int .u64 (g : Int), .string s, .slice am nm cm], .int .i64 ((l : Int) + 1), .pointer (some ⟨L, 0, none⟩)] W5 (Counts W5 L (l3 - 1) (VFits S l ⟨f0, f1, f2, true, f4, f5⟩ (.mk bb i u g s m)) (cntM d m)) := by
            rw [← hll, ← HNM.out]
            exact valueFits_tells (.slice (some ⟨b, off, none⟩) n c) y S l hb2 w0 L HI.out ⟨f0, f1, f2, true, f4, f5⟩ bb i u g s am cm m d (l3 - 1) hb0 hb1 W5 HL5.out hkv HM5.out HBP.out.2 HBP.out.1
           have HVT := Lib.hid hVT
           clear hVT hc0 hc1 hkv
           go_wp2_with (go_at_call 67; refine HVT.out.mono ?_; rintro e w6 ⟨b6, l6, rfl, k6, r6, x1, x2, x3⟩; have K6 := Lib.hid k6; have R6 := Lib.hid r6; have X3 := Lib.hid x3; clear k6 r6 x3; cases b6)
           · go_ret
             exact Counts.stop ((HJW.out.trans HK5.out (fun _ _ h => h)).trans K6.out (fun _ _ h => h)) R6.out x1 (by have := HCJ.out; have := HCN.out; omega)
           · have X4 := Lib.hid (X3.out (by first | rfl | trivial))
             go_roundw
             case rel =>
              refine ⟨j + 1, l6, rfl, by omega, (HJ.out.trans HK5.out (fun _ _ h => h)).trans K6.out (fun _ _ h => h), ⟨R6.out, X4.out.2.1⟩, ?_, fun j' hj' hjk => ?_⟩
              · rw [cntVals_succ d j ps hjl, HPP.out]
                have h1 := X4.out.2.2
                have h2 := HCJ.out
                show l6 + ((cntVals d j ps + (1 + cntM d m) : Nat) : Int) = l2
                omega
              · by_cases h1 : j' < j
                · exact HVJ.out j' hj' h1
                · obtain rfl : j' = j := by omega
                  rw [HPP.out]
                  exact X4.out.1
             case measure => simp [natOfV]; omega
       · have u2 : ¬ (j : Int) < (r : Int) := by omega
         have HXJ : Hid (Keeps (fun j => j = L) W1 wr) := HX3.out.trans HJ.out (fun _ _ h => h)
         have HFF : Hid (FieldFits S l M (fs[k]'hkl)) := by
          show FieldFits _ _ _ _
          rw [HQ.out]
          refine ⟨by show (0 : Int) ≤ (tq : Int); omega, by have := HR.out; show 1 ≤ ps.length; omega, ⟨f0, f1, f2, true, f4, f5⟩, by show M.fields[((tq : Int)).toNat]? = _; rw [show ((tq : Int)).toNat = tq from rfl, List.getElem?_eq_getElem hql, HF.out], HREP.out, fun p hp => ?_⟩
          obtain ⟨i, hi, rfl⟩ := List.getElem_of_mem hp
          exact HVJ.out i hi (by have := HR.out; have hi' : i < ps.length := hi; omega)
         have HCC : Hid (l3 + (cntUpto d (k + 1) fs : Nat) = left) := by
          show _ = _
          rw [cntUpto_succ d k fs hkl, HQ.out]
          have h1 := HCJ.out
          have h2 := HCN.out
          have h3 : j = ps.length := by have := HR.out; omega
          subst h3
          show l3 + ((cntUpto d k fs + cntVals d ps.length ps : Nat) : Int) = left
          omega
         go_wp2_with (fail)
         go_roundw
         case rel =>
          refine ⟨k + 1, (tq : Int), l3, rfl, rfl, by omega, by omega, HXJ.out, HLJ.out, HCC.out, fun j' hj' hjk => ?_⟩
          by_cases h1 : j' < k
          · exact HALL.out j' hj' h1
          · obtain rfl : j' = k := by omega
            exact HFF.out
         case measure => simp [natOfV]; omega
    · skip
      go_wp2_with (fail)
      obtain ⟨W3, hW3⟩ : ∃ W, (wr.alloc (.cells #[.int .i64 (tq : Int), .slice av r cv] 31)).alloc (.cells #[.string f0, .int .i64 f1, .int .i64 f2, .bool false, .bool f4, .int .i64 f5] 33) = W := ⟨_, rfl⟩
      have hK3 : Keeps (fun _ => False) wr W3 := by rw [← hW3]; exact ((Keeps.refl _ wr).alloc _).alloc _
      have HR3 : Hid (W3.heap[wr.heap.size + 1]? = some (.cells #[.string f0, .int .i64 f1, .int .i64 f2, .bool false, .bool f4, .int .i64 f5] 33 (0, 0))) := by show _ = _; rw [← hW3]; exact heap_alloc2_new wr _ _
      rw [hW3]
      have hsz := HKK.out.size
      obtain ⟨KF, hKF⟩ : ∃ KF, wr.heap.size + 1 = KF := ⟨_, rfl⟩
      rw [hKF] at HR3 ⊢
      have HNL : Hid (¬ KF = L) := by show ¬ _; have := HLs.out; omega
      have HNL2 : Hid (¬ w.heap.size = L) := by show ¬ _; have := HLs.out; omega
      have HRB3 := Lib.hid (hK3.row (HX.out.row HRB.out HNL2.out) id)
      have HK3 : Hid (Keeps (fun j => j = L) w W3) := HKK.out.trans hK3 (fun _ _ h => h.elim)
      have HX3 : Hid (Keeps (fun j => j = L) W1 W3) := HX.out.trans hK3 (fun _ _ h => h.elim)
      have HRL3 := Lib.hid (hK3.row HLA.out.1 id)
      clear hW3 hKF hsz hK3 c0 c1 c2' c3 c4 c5 q0 q1
      go_loopw [79] (fun i wx => ∃ (j : Nat) (l3 : Int), i = .int .i64 (j : Nat) ∧ j ≤ r ∧ Keeps (fun j => j = L) W3 wx ∧ LeftAt L wx l3 ∧ l3 + (cntVals d j ps : Nat) = l2 ∧ VUpto S l ⟨f0, f1, f2, false, f4, f5⟩ ps j) (fun i _ => r - natOfV i)
      case atStart => exact ⟨0, l2, rfl, Nat.zero_le _, Keeps.refl _ _, ⟨HRL3.out, HLA.out.2⟩, by rw [cntVals_zero]; simp, fun j _ h => by omega⟩
      case round =>
       obtain ⟨j, l3, rfl, hj, hkx, hlx, hcx, hvx⟩ := hrel
       have HJ := Lib.hid hkx
       have HLJ := Lib.hid hlx
       have HCJ := Lib.hid hcx
       have HVJ := Lib.hid hvx
       clear hkx hlx hcx hvx
       have HJW : Hid (Keeps (fun j => j = L) w wr) := HK3.out.trans HJ.out (fun _ _ h => h)
       by_cases hjr : j < r
       · have u2 : (j : Int) < (r : Int) := by omega
         have u3 : (0 : Int) ≤ (j : Int) := by omega
         have hjl : j < ps.length := by rw [HR.out]; exact hjr
         have HJ0 : Hid (Keeps (fun _ => False) w0 wr) := HKW.out _ HJW.out
         obtain ⟨bv, ov, rfl, hcv2⟩ := HVV.out.cells (by intro e; rw [e] at hjl; simp at hjl)
         have hbp := HBQ.out _ (List.getElem_mem hjl)
         obtain ⟨PP, hP⟩ : ∃ PP, ps[j] = PP := ⟨_, rfl⟩
         obtain ⟨bb, i, u, g, s, m⟩ := PP
         rw [hP] at hbp
         obtain ⟨am, cm, y0, y1, y2, y3, y4, y5, hm5⟩ := hcv2 j hjl bb i u g s m hP
         have v0 := HJ0.out.cell y0 id
         have v1 := HJ0.out.cell y1 id
         have v2 := HJ0.out.cell y2 id
         have v3 := HJ0.out.cell y3 id
         have v4 := HJ0.out.cell y4 id
         have v5 := HJ0.out.cell y5 id
         obtain ⟨nm, hnm⟩ : ∃ n, m.length = n := ⟨_, rfl⟩
         have HPP := Lib.hid hP
         have HM5 := Lib.hid hm5
         have HBP := Lib.hid hbp
         have HNM := Lib.hid hnm
         rw [hnm] at v5
         have hrl : (wr.alloc (.cells #[.bool bb, .int .i64 i, .int .u64 (u : Int), .int .u64 (g : Int), .string s, .slice am nm cm] 39)).heap[L]? = some (.cells #[.int .i64 l3] 3 (0, 0)) := ((Keeps.refl (fun _ => False) wr).alloc _).row HLJ.out.1 id
         have L0 := cell_row (j := 0) hrl
         have LF := frozen_row (j := 0) hrl
         have HRL := Lib.hid hrl
         clear hrl
         have hl3 := HLJ.out.2
         have hcj := HCJ.out
         have hc0 := HCN.out
         have hwl : IntKind.i64.wrap (l3 - 1) = l3 - 1 := by rw [IntWalk.i64_in _ (by omega)]
         have hwj : IntKind.i64.wrap ((j : Int) + 1) = ((j + 1 : Nat) : Int) := by rw [IntWalk.i64_in _ (by omega)]; rfl
         simp at L0
         clear hP hm5 hbp hnm hcv2 hcj hc0 y0 y1 y2 y3 y4 y5
         go_upto_region 18 with (fail)
         obtain ⟨W5, hW5⟩ : ∃ W, (wr.alloc (.cells #[.bool bb, .int .i64 i, .int .u64 (u : Int), .int .u64 (g : Int), .string s, .slice am nm cm] 39)).setCell ⟨L, 0, none⟩ (.int .i64 (l3 - 1)) = W := ⟨_, rfl⟩
         have hK5 : Keeps (fun j => j = L) wr W5 := by rw [← hW5]; exact ((Keeps.refl (fun j => j = L) wr).alloc _).setCell ⟨L, 0, none⟩ (fun _ => rfl) _
         have HL5 : Hid (W5.heap[L]? = some (.cells #[.int .i64 (l3 - 1)] 3 (0, 0))) := by show _ = _; rw [← hW5]; exact setCell_row HRL.out _
         have hwsz := HJW.out.size
         have hLs2 := HLs.out
         have hp5 : W5.heap[wr.heap.size]? = some (.cells #[.bool bb, .int .i64 i, .int .u64 (u : Int), .int .u64 (g : Int), .string s, .slice am nm cm] 39 (0, 0)) := by
          rw [← hW5]
          exact (Keeps.setCell (S := fun j => j = L) (Keeps.refl _ _) ⟨L, 0, none⟩ (fun _ => rfl) _).row (heap_alloc_new wr _) (by omega)
         rw [hW5]
         obtain ⟨KV, hKV⟩ : ∃ KV, wr.heap.size = KV := ⟨_, rfl⟩
         rw [hKV] at hp5 ⊢
         have hrb := hK5.row (HJ.out.row HRB3.out HNL2.out) HNL2.out
         have hrf := hK5.row (HJ.out.row HR3.out HNL.out) HNL.out
         have HK5 := Lib.hid hK5
         have l0 := cell_row (j := 0) HL5.out
         have r0 := cell_row (j := 0) hrb
         have r1 := cell_row (j := 1) hrb
         have s0 := cell_row (j := 0) hrf
         have s1 := cell_row (j := 1) hrf
         have s2 := cell_row (j := 2) hrf
         have s3 := cell_row (j := 3) hrf
         have s4 := cell_row (j := 4) hrf
         have s5 := cell_row (j := 5) hrf
         have p0 := cell_row (j := 0) hp5
         have p1 := cell_row (j := 1) hp5
         have p2 := cell_row (j := 2) hp5
         have p3 := cell_row (j := 3) hp5
         have p4 := cell_row (j := 4) hp5
         have p5 := cell_row (j := 5) hp5
         simp at l0 r0 r1 s0 s1 s2 s3 s4 s5 p0 p1 p2 p3 p4 p5
         clear hW5 hK5 hp5 hKV hwsz hLs2 hrb hrf L0 LF v0 v1 v2 v3 v4 v5
         by_cases hneg : l3 - 1 < 0
         · go_wp2_with (fail)
           go_ret
           exact Counts.stop (HJW.out.trans HK5.out (fun _ _ h => h)) HL5.out (by omega) (by have := HCJ.out; have := HCN.out; omega)
         · have hc0 := HCN.out
           have hc1 := HCJ.out
           have hb0 : (0 : Int) ≤ l3 - 1 := by omega
           have hb1 : l3 - 1 ≤ 2000 := by omega
           have hb2 : l ≤ 20 := by omega
           have hkv : Keeps (fun _ => False) w0 W5 := HKW.out _ (HJW.out.trans HK5.out (fun _ _ h => h))
           have hVT : Calls Tryz.prog 67 #[.agg #[.slice (some ⟨b, off, none⟩) n c, y], .agg #[.string f0, .int .i64 f1, .int .i64 f2, .bool false, .bool f4, .int .i64 f5], .agg #[.bool bb, .int .i64 i, .int .u64 (u : Int), .int .u64 (g : Int), .string s, .slice am nm cm], .int .i64 ((l : Int) + 1), .pointer (some ⟨L, 0, none⟩)] W5 (Counts W5 L (l3 - 1) (VFits S l ⟨f0, f1, f2, false, f4, f5⟩ (.mk bb i u g s m)) (cntM d m)) := by
            rw [← hll, ← HNM.out]
            exact valueFits_tells (.slice (some ⟨b, off, none⟩) n c) y S l hb2 w0 L HI.out ⟨f0, f1, f2, false, f4, f5⟩ bb i u g s am cm m d (l3 - 1) hb0 hb1 W5 HL5.out hkv HM5.out HBP.out.2 HBP.out.1
           have HVT := Lib.hid hVT
           clear hVT hc0 hc1 hkv
           go_wp2_with (go_at_call 67; refine HVT.out.mono ?_; rintro e w6 ⟨b6, l6, rfl, k6, r6, x1, x2, x3⟩; have K6 := Lib.hid k6; have R6 := Lib.hid r6; have X3 := Lib.hid x3; clear k6 r6 x3; cases b6)
           · go_ret
             exact Counts.stop ((HJW.out.trans HK5.out (fun _ _ h => h)).trans K6.out (fun _ _ h => h)) R6.out x1 (by have := HCJ.out; have := HCN.out; omega)
           · have X4 := Lib.hid (X3.out (by first | rfl | trivial))
             go_roundw
             case rel =>
              refine ⟨j + 1, l6, rfl, by omega, (HJ.out.trans HK5.out (fun _ _ h => h)).trans K6.out (fun _ _ h => h), ⟨R6.out, X4.out.2.1⟩, ?_, fun j' hj' hjk => ?_⟩
              · rw [cntVals_succ d j ps hjl, HPP.out]
                have h1 := X4.out.2.2
                have h2 := HCJ.out
                show l6 + ((cntVals d j ps + (1 + cntM d m) : Nat) : Int) = l2
                omega
              · by_cases h1 : j' < j
                · exact HVJ.out j' hj' h1
                · obtain rfl : j' = j := by omega
                  rw [HPP.out]
                  exact X4.out.1
             case measure => simp [natOfV]; omega
       · have u2 : ¬ (j : Int) < (r : Int) := by omega
         have HXJ : Hid (Keeps (fun j => j = L) W1 wr) := HX3.out.trans HJ.out (fun _ _ h => h)
         have HFF : Hid (FieldFits S l M (fs[k]'hkl)) := by
          show FieldFits _ _ _ _
          rw [HQ.out]
          refine ⟨by show (0 : Int) ≤ (tq : Int); omega, by have := HR.out; show 1 ≤ ps.length; omega, ⟨f0, f1, f2, false, f4, f5⟩, by show M.fields[((tq : Int)).toNat]? = _; rw [show ((tq : Int)).toNat = tq from rfl, List.getElem?_eq_getElem hql, HF.out], fun _ => HREP.out trivial, fun p hp => ?_⟩
          obtain ⟨i, hi, rfl⟩ := List.getElem_of_mem hp
          exact HVJ.out i hi (by have := HR.out; have hi' : i < ps.length := hi; omega)
         have HCC : Hid (l3 + (cntUpto d (k + 1) fs : Nat) = left) := by
          show _ = _
          rw [cntUpto_succ d k fs hkl, HQ.out]
          have h1 := HCJ.out
          have h2 := HCN.out
          have h3 : j = ps.length := by have := HR.out; omega
          subst h3
          show l3 + ((cntUpto d k fs + cntVals d ps.length ps : Nat) : Int) = left
          omega
         go_wp2_with (fail)
         go_roundw
         case rel =>
          refine ⟨k + 1, (tq : Int), l3, rfl, rfl, by omega, by omega, HXJ.out, HLJ.out, HCC.out, fun j' hj' hjk => ?_⟩
          by_cases h1 : j' < k
          · exact HALL.out j' hj' h1
          · obtain rfl : j' = k := by omega
            exact HFF.out
         case measure => simp [natOfV]; omega
  · have t1 : ¬ (k : Int) < (nf : Int) := by omega
    have HEnd : Hid T := HFin.out fun j hj => HALL.out j hj (by have := HNF.out; omega)
    have HCE : Hid (l2 + (used : Int) = left) := by
     show _ = _
     rw [← HCN.out, ← HU.out, ← cntUpto_all]
     have hkn : k = fs.length := by have := HNF.out; omega
     rw [hkn]
    go_wp2_with (fail)
    go_ret
    exact ⟨true, l2, rfl, HKK.out, HLA.out.1, by have := HLA.out.2; omega, by have := HCN.out; omega, fun _ => ⟨HEnd.out, HLA.out.2, HCE.out⟩⟩
end Go.Proofs.YtonegoemmologaaGreatDoor
