/-
  TextSnapshot: what is written behind the snapshot is gone when it is put back.
  consume of the text form, at input whose first byte behind the blanks opens no comment; (*Decoder).consume.
-/
import Derived.Test.YtmijjppjodpagaaGreatDoorM19
import Derived.KernelRfl
import Derived.Test.YtmijjppjodpagaaGreatDoorM05
set_option linter.unusedVariables false
set_option linter.unusedSimpArgs false
namespace Go.Proofs.YtmijjppjodpagaaGreatDoor
open Go.RowKit
theorem EOut.fresh {B : World} {E : Nat} {v0 : Value} {w : World} {k : Nat} {v : Value} {l : List UInt8} (h : EOut B E v0 w k v l) : EOut w E v w k v l :=
  ⟨h.row, h.own, Keeps.refl _ _, Moved.refl _ _, fun l0 h0 => ⟨h0, fun _ _ _ => by rw [h0.same h.own]; exact List.prefix_refl _⟩, h.ne, h.ne, h.free⟩

theorem opSize : (Tryz.prog.info? 53).map (fun i => i.size) = some 7 := by kernel_rfl
theorem run_osfrom (a : Option Addr) (n c k : Nat) (hk : k ≤ n) (w : World) : (Instr.slice 29 (.slice a n c) (some (.int .i64 (k : Int))) none none).run Tryz.prog w = .ok (.slice (if c = k then a else a.map (·.add (k * 7))) (n - k) (c - k)) w := by
  obtain ⟨i0, hi, hz1⟩ := Option.map_eq_some_iff.1 opSize
  have h1 := run_sliceBound (P := Tryz.prog) w .i64 (k : Int) n .sliceB (by omega) (by omega)
  simp [Instr.slice, Instr.sliceBounds, run_underlying Tryz.underlying29, h1, sizeOf, typeInfo, hi, hz1]
/-- The texts are few and short. -/
structure AllSmall (rs : List (Nat × List UInt8)) : Prop where
  small : ∀ x ∈ rs, x.2.length ≤ 20000000
  few : rs.length ≤ 10000
theorem AllSmall.take {rs : List (Nat × List UInt8)} (h : AllSmall rs) (j : Nat) : AllSmall (rs.take j) := ⟨fun x hx => h.small x (List.mem_of_mem_take hx), by rw [List.length_take]; have := h.few; omega⟩
theorem AllSmall.drop {rs : List (Nat × List UInt8)} (h : AllSmall rs) (j : Nat) : AllSmall (rs.drop j) := ⟨fun x hx => h.small x (List.mem_of_mem_drop hx), by rw [List.length_drop]; have := h.few; omega⟩
theorem AllSmall.bound {rs : List (Nat × List UInt8)} (h : AllSmall rs) (k : Nat) : (emit k rs).length ≤ 1000000000000 := by
  have h1 := emit_len k rs h.small
  have h2 := h.few
  omega
set_option maxRecDepth 1000000 in
set_option maxHeartbeats 40000000 in
theorem textSnapshot_any (PT : Nat → Nat × Nat) (w : World) (v x : Value) (ops others : List OpV) (rs ts : List (Nat × List UInt8)) (at_ : Nat) (hops : OpsAt w v ops) (hoth : OpsAt w x others) (hall : AllSay PT ops rs) (hall2 : AllSay PT others ts) (hT : Tabs w) (hF : FT2 PT w) (hat : at_ ≤ ops.length) :
    Calls Tryz.prog 8 #[v, .int .i64 (at_ : Int), x] w fun e w' => ∃ V, e = .returned V ∧ BytesAt w' V (emit 0 rs) ∧ Keeps (fun _ => False) w w' := by
  obtain ⟨a, c, rfl, hca, hma⟩ := hops.len
  obtain ⟨a2, c2, rfl, hca2, hma2⟩ := hoth.len
  obtain ⟨n, hn⟩ : ∃ n, ops.length = n := ⟨_, rfl⟩
  obtain ⟨m, hm⟩ : ∃ n, others.length = n := ⟨_, rfl⟩
  rw [hn] at hca hops hat ⊢
  rw [hm] at hca2 hoth ⊢
  have hfew : n ≤ 10000 := by rw [← hn, hall.len]; exact hall.few
  have hfew2 : m ≤ 10000 := by rw [← hm, hall2.len]; exact hall2.few
  have HN := Lib.hid hn
  have HM := Lib.hid hm
  have HOPS := Lib.hid hops
  have HOTH := Lib.hid hoth
  have HALL := Lib.hid hall
  have HALL2 := Lib.hid hall2
  have HT := Lib.hid hT
  have HF := Lib.hid hF
  have HNE := Lib.hid (fun w => newEncoder_any w)
  have HSMR : Hid (AllSmall rs) := ⟨hall.small, hall.few⟩
  have HSMT : Hid (AllSmall ts) := ⟨hall2.small, hall2.few⟩
  have HCA := Lib.hid hca
  have HSMD : Hid (AllSmall (rs.drop at_)) := HSMR.out.drop at_
  clear hn hm hops hoth hall hall2 hT hF hma hma2
  go_enter Tryz.func8, Tryz.ntmps8
  go_wp2_with (go_at_call 17; refine (HNE.out _ HT.out.size).mono ?_; rintro e w1 ⟨E, rfl, hE, h1, k1⟩; have H1 := Lib.hid h1; have K1 : Hid (Keeps (fun _ => False) w w1) := k1; have HE : Hid (w.heap.size ≤ E) := hE; clear h1 k1 hE)
  have HET1 : Hid (ETab PT w1 E (.slice none 0 0)) := ⟨HT.out.keeps K1.out (fun _ _ => id), HF.out.keeps K1.out, fun k hk => by simp [Value.ownBlock] at hk, Nat.le_trans HT.out.size HE.out⟩
  have HTB1 : Hid (14 ≤ w1.heap.size) := Nat.le_trans HT.out.size K1.out.size
  have HKW1 : Hid (Keeps (fun i => w.heap.size ≤ i) w w1) := K1.out.mono (fun _ _ h => h.elim)
  have HV1 : Hid (∀ i, blk (.slice none 0 0) i → w.heap.size ≤ i) := fun i h => by simp [blk, Value.ownBlock] at h
  go_loopw [27] (fun i wr => ∃ j : Nat, i = .int .i64 (j : Int) ∧ j ≤ at_ ∧ ∃ v', EOut w1 E (.slice none 0 0) wr (kindOf 0 (rs.take j)) v' ([] ++ emit 0 (rs.take j))) (fun i _ => at_ - natOfV i)
  case atStart => exact ⟨0, rfl, Nat.zero_le _, _, by rw [List.take_zero]; show EOut _ _ _ _ 0 _ ([] ++ []); rw [List.append_nil]; exact H1.out⟩
  case round =>
    obtain ⟨j, rfl, hj, v', hev⟩ := hrel
    have HEV := Lib.hid hev
    clear hev
    have HKR : Hid (Keeps (fun i => w.heap.size ≤ i) w wr) := HKW1.out.trans HEV.out.keeps (fun i hi h => by
      rcases h with h | h
      · exact HV1.out i h
      · have := HE.out; omega)
    by_cases hlt : j < at_
    · have t1 : (j : Int) < (at_ : Nat) := by omega
      have t0 : (0 : Int) ≤ (j : Int) := by omega
      have hwj : IntKind.i64.wrap ((j : Int) + 1) = ((j + 1 : Nat) : Int) := by rw [IntWalk.i64_in _ (by omega)]; rfl
      have hjl : j < ops.length := by rw [HN.out]; omega
      have hjr : j < rs.length := by rw [← HALL.out.len]; exact hjl
      obtain ⟨b, off, hab, hc⟩ := HOPS.out.cells (by intro e; rw [e] at hjl; simp at hjl)
      obtain ⟨o, ho⟩ : ∃ o, ops[j] = o := ⟨_, rfl⟩
      obtain ⟨R, hR⟩ : ∃ R, rs[j] = R := ⟨_, rfl⟩
      obtain ⟨nx, T⟩ := R
      have hsay := HALL.out.say (j) hjl hjr
      rw [ho, hR] at hsay
      have hsay : OpSay PT o nx T := hsay
      obtain ⟨d0, d1, d2, d3, d4, d5, d6⟩ := hc (j) hjl o ho
      have hbE : ¬ w.heap.size ≤ b := by have := World.block_lt_of_cell? w _ d0; exact Nat.not_le.2 this
      have d0 := HKR.out.cell d0 hbE
      have d1 := HKR.out.cell d1 hbE
      have d2 := HKR.out.cell d2 hbE
      have d3 := HKR.out.cell d3 hbE
      have d4 := HKR.out.cell d4 hbE
      have d5 := HKR.out.cell d5 hbE
      have d6 := HKR.out.cell d6 hbE
      have HSAY := Lib.hid hsay
      have HR := Lib.hid hR
      have HLE : Hid (([] ++ emit 0 (rs.take j)).length ≤ 130000000000000) := by
        show _ ≤ _
        have h1 := (HSMR.out.take j).bound 0
        have h2 := (show ([] : List UInt8).length ≤ 0 from Nat.le_refl _)
        rw [List.length_append]
        omega
      obtain ⟨op, s, bb, i, u, g, sz⟩ := o
      simp only at d0 d1 d2 d3 d4 d5 d6
      clear hc ho hR hsay
      subst hab
      go_upto_region 7 with (fail)
      obtain ⟨W5, hW5⟩ : ∃ W, (wr.alloc (.cells #[.int .i64 op, .string s, .bool bb, .int .i64 i, .int .u64 (u : Int), .int .u64 (g : Int), .int .i64 sz] 53)) = W := ⟨_, rfl⟩
      have hK5 : Keeps (fun _ => False) wr W5 := by rw [← hW5]; exact (Keeps.refl _ wr).alloc _
      have hp5 : W5.heap[wr.heap.size]? = some (.cells #[.int .i64 op, .string s, .bool bb, .int .i64 i, .int .u64 (u : Int), .int .u64 (g : Int), .int .i64 sz] 53 (0, 0)) := by rw [← hW5]; exact heap_alloc_new wr _
      rw [hW5]
      obtain ⟨KV, hKV⟩ : ∃ KV, wr.heap.size = KV := ⟨_, rfl⟩
      rw [hKV] at hp5 ⊢
      have hcall := HSAY.out w1 E (.slice none 0 0) W5 _ _ _ HET1.out (HEV.out.below hK5) HTB1.out HLE.out
      have HCALL := Lib.hid hcall
      have p0 := cell_row (j := 0) hp5
      have p1 := cell_row (j := 1) hp5
      have p2 := cell_row (j := 2) hp5
      have p3 := cell_row (j := 3) hp5
      have p4 := cell_row (j := 4) hp5
      have p5 := cell_row (j := 5) hp5
      have p6 := cell_row (j := 6) hp5
      simp at p0 p1 p2 p3 p4 p5 p6
      clear hW5 hK5 hp5 hKV hcall d0 d1 d2 d3 d4 d5 d6
      go_wp2_with (go_at_call 18; refine HCALL.out.mono ?_; rintro e w6 ⟨rfl, v6, h6⟩; have H6 := Lib.hid h6; clear h6)
      go_roundw
      case rel =>
        have h := emit_take 0 (rs) j (by exact hjr) nx T (by exact HR.out)
        refine ⟨j + 1, rfl, by omega, v6, ?_⟩
        rw [h.1, h.2, ← List.append_assoc]
        exact H6.out
      case measure => simp [natOfV]; omega
    · have t1 : ¬ (j : Int) < (at_ : Nat) := by omega
      obtain rfl : at_ = j := by omega
      rw [List.nil_append] at HEV
      obtain ⟨a1, n1, q1, rfl⟩ := HEV.out.own.sform
      have HSN := Lib.hid (snapshot_any _ _ _ _ _ _ _ HEV.out)
      have hv1 : ∀ i, blk (.slice a1 n1 q1) i → w.heap.size ≤ i := fun i h => by
        rcases HEV.out.moved i h with h | h
        · simp [Value.ownBlock] at h
        · exact Nat.le_trans K1.out.size h
      have HV2 := Lib.hid hv1
      have hv3 : ∀ i, blk (.slice a1 n1 q1) i → i < wr.heap.size := HEV.out.own.lt
      have helt := HEV.out.elt
      go_upto_region 10 with (go_at_call 21; refine HSN.out.mono ?_; rintro e ws ⟨rfl, ks⟩; have KS := Lib.hid ks; clear ks)
      obtain ⟨Ws, hWs⟩ : ∃ W, ws.alloc (.cells #[.int .u8 ((kindOf 0 (rs.take at_) : Nat) : Int), .slice none 0 0, .slice a1 n1 q1] 66) = W := ⟨_, rfl⟩
      have hkS : Keeps (fun _ => False) wr Ws := by rw [← hWs]; exact KS.out.alloc _
      have HBX : Hid (Ws.heap[ws.heap.size]? = some (.cells #[.int .u8 ((kindOf 0 (rs.take at_) : Nat) : Int), .slice none 0 0, .slice a1 n1 q1] 66 (0, 0))) := by show _ = _; rw [← hWs]; exact heap_alloc_new ws _
      rw [hWs]
      have hsz := KS.out.size
      obtain ⟨KX, hKX⟩ : ∃ KX, ws.heap.size = KX := ⟨_, rfl⟩
      have HBX1 : Hid (¬ blk (.slice a1 n1 q1) KX) := fun h => by have := hv3 KX h; omega
      have HBX2 : Hid (¬ KX = E) := fun h => by omega
      rw [hKX] at HBX ⊢
      have HEVs : Hid (EOut Ws E (.slice a1 n1 q1) Ws (kindOf 0 (rs.take at_)) (.slice a1 n1 q1) (emit 0 (rs.take at_))) := (HEV.out.below hkS).fresh
      have HKW2 : Hid (Keeps (fun i => w.heap.size ≤ i) w Ws) := HKR.out.trans hkS (fun _ _ h => h.elim)
      have HET2 : Hid (ETab PT Ws E (.slice a1 n1 q1)) := ⟨(HET1.out.tabs2 HEV.out).keeps hkS (fun _ _ => id), (HET1.out.ft2 HEV.out).keeps hkS, HEV.out.free, HET1.out.e⟩
      have HTB2 : Hid (14 ≤ Ws.heap.size) := Nat.le_trans (Nat.le_trans HTB1.out HEV.out.keeps.size) hkS.size
      clear hWs hkS hKX hsz hv1 hv3 helt
      go_wp2_with (fail)
      go_loopw [39] (fun i wr => ∃ j : Nat, i = .int .i64 (j : Int) ∧ j ≤ m ∧ ∃ v', EOut Ws E (.slice a1 n1 q1) wr (kindOf (kindOf 0 (rs.take at_)) (ts.take j)) v' ((emit 0 (rs.take at_)) ++ emit (kindOf 0 (rs.take at_)) (ts.take j))) (fun i _ => m - natOfV i)
      case atStart => exact ⟨0, rfl, Nat.zero_le _, _, by rw [List.take_zero]; show EOut _ _ _ _ (kindOf 0 (rs.take at_)) _ ((emit 0 (rs.take at_)) ++ []); rw [List.append_nil]; exact HEVs.out⟩
      case round =>
        obtain ⟨j, rfl, hj, v', hev⟩ := hrel
        have HEV := Lib.hid hev
        clear hev
        have HKR : Hid (Keeps (fun i => w.heap.size ≤ i) w wr) := HKW2.out.trans HEV.out.keeps (fun i hi h => by
          rcases h with h | h
          · exact HV2.out i h
          · have := HE.out; omega)
        by_cases hlt : j < m
        · have t1 : (j : Int) < (m : Nat) := by omega
          have t0 : (0 : Int) ≤ (j : Int) := by omega
          have hwj : IntKind.i64.wrap ((j : Int) + 1) = ((j + 1 : Nat) : Int) := by rw [IntWalk.i64_in _ (by omega)]; rfl
          have hjl : j < others.length := by rw [HM.out]; omega
          have hjr : j < ts.length := by rw [← HALL2.out.len]; exact hjl
          obtain ⟨b, off, hab, hc⟩ := HOTH.out.cells (by intro e; rw [e] at hjl; simp at hjl)
          obtain ⟨o, ho⟩ : ∃ o, others[j] = o := ⟨_, rfl⟩
          obtain ⟨R, hR⟩ : ∃ R, ts[j] = R := ⟨_, rfl⟩
          obtain ⟨nx, T⟩ := R
          have hsay := HALL2.out.say (j) hjl hjr
          rw [ho, hR] at hsay
          have hsay : OpSay PT o nx T := hsay
          obtain ⟨d0, d1, d2, d3, d4, d5, d6⟩ := hc (j) hjl o ho
          have hbE : ¬ w.heap.size ≤ b := by have := World.block_lt_of_cell? w _ d0; exact Nat.not_le.2 this
          have d0 := HKR.out.cell d0 hbE
          have d1 := HKR.out.cell d1 hbE
          have d2 := HKR.out.cell d2 hbE
          have d3 := HKR.out.cell d3 hbE
          have d4 := HKR.out.cell d4 hbE
          have d5 := HKR.out.cell d5 hbE
          have d6 := HKR.out.cell d6 hbE
          have HSAY := Lib.hid hsay
          have HR := Lib.hid hR
          have HLE : Hid (((emit 0 (rs.take at_)) ++ emit (kindOf 0 (rs.take at_)) (ts.take j)).length ≤ 130000000000000) := by
            show _ ≤ _
            have h1 := (HSMT.out.take j).bound (kindOf 0 (rs.take at_))
            have h2 := (HSMR.out.take at_).bound 0
            rw [List.length_append]
            omega
          obtain ⟨op, s, bb, i, u, g, sz⟩ := o
          simp only at d0 d1 d2 d3 d4 d5 d6
          clear hc ho hR hsay
          subst hab
          go_upto_region 13 with (fail)
          obtain ⟨W5, hW5⟩ : ∃ W, (wr.alloc (.cells #[.int .i64 op, .string s, .bool bb, .int .i64 i, .int .u64 (u : Int), .int .u64 (g : Int), .int .i64 sz] 53)) = W := ⟨_, rfl⟩
          have hK5 : Keeps (fun _ => False) wr W5 := by rw [← hW5]; exact (Keeps.refl _ wr).alloc _
          have hp5 : W5.heap[wr.heap.size]? = some (.cells #[.int .i64 op, .string s, .bool bb, .int .i64 i, .int .u64 (u : Int), .int .u64 (g : Int), .int .i64 sz] 53 (0, 0)) := by rw [← hW5]; exact heap_alloc_new wr _
          rw [hW5]
          obtain ⟨KV, hKV⟩ : ∃ KV, wr.heap.size = KV := ⟨_, rfl⟩
          rw [hKV] at hp5 ⊢
          have hcall := HSAY.out Ws E (.slice a1 n1 q1) W5 _ _ _ HET2.out (HEV.out.below hK5) HTB2.out HLE.out
          have HCALL := Lib.hid hcall
          have p0 := cell_row (j := 0) hp5
          have p1 := cell_row (j := 1) hp5
          have p2 := cell_row (j := 2) hp5
          have p3 := cell_row (j := 3) hp5
          have p4 := cell_row (j := 4) hp5
          have p5 := cell_row (j := 5) hp5
          have p6 := cell_row (j := 6) hp5
          simp at p0 p1 p2 p3 p4 p5 p6
          clear hW5 hK5 hp5 hKV hcall d0 d1 d2 d3 d4 d5 d6
          go_wp2_with (go_at_call 18; refine HCALL.out.mono ?_; rintro e w6 ⟨rfl, v6, h6⟩; have H6 := Lib.hid h6; clear h6)
          go_roundw
          case rel =>
            have h := emit_take (kindOf 0 (rs.take at_)) (ts) j (by exact hjr) nx T (by exact HR.out)
            refine ⟨j + 1, rfl, by omega, v6, ?_⟩
            rw [h.1, h.2, ← List.append_assoc]
            exact H6.out
          case measure => simp [natOfV]; omega
        · have t1 : ¬ (j : Int) < (m : Nat) := by omega
          obtain rfl : m = j := by omega
          have hown : Own wr (.slice a1 n1 q1) (emit 0 (rs.take at_)) := (HEV.out.pre _ HEVs.out.own).1
          have HOWN := Lib.hid hown
          have hbx := HEV.out.keeps.row HBX.out (fun h => by
            rcases h with h | h
            · exact HBX1.out h
            · exact HBX2.out h)
          have b0 := cell_row (j := 0) hbx
          have b1 := cell_row (j := 1) hbx
          have b2 := cell_row (j := 2) hbx
          simp at b0 b1 b2
          have HRS := Lib.hid (reset_any E wr _ _ _ _ _ _ _ HEV.out.row (kindOf 0 (rs.take at_)) a1 n1 q1)
          clear hown hbx
          go_upto_region 16 with (go_at_call 22; refine HRS.out.mono ?_; rintro e w8 ⟨rfl, k8, r8⟩; have K8 := Lib.hid k8; have R8 := Lib.hid r8; clear k8 r8)
          have H8 : Hid (EOut w8 E (.slice a1 n1 q1) w8 (kindOf 0 (rs.take at_)) (.slice a1 n1 q1) (emit 0 (rs.take at_))) := EOut.fresh (B := w8) (v0 := (.slice a1 n1 q1)) ⟨R8.out, HOWN.out.keeps K8.out (fun b hb e => HEVs.out.ne (by rw [hb, e])), Keeps.refl _ _, Moved.refl _ _, fun l0 h0 => ⟨h0, fun _ _ _ => by rw [h0.same (HOWN.out.keeps K8.out (fun b hb e => HEVs.out.ne (by rw [hb, e])))]; exact List.prefix_refl _⟩, HEVs.out.ne, HEVs.out.ne, HEVs.out.free⟩
          have HKW3 : Hid (Keeps (fun i => w.heap.size ≤ i) w w8) := HKR.out.trans K8.out (fun i hi h => by have := HE.out; omega)
          have HET3 : Hid (ETab PT w8 E (.slice a1 n1 q1)) := ⟨(HET2.out.tabs2 HEV.out).keeps K8.out (fun k hk e => by have := HET2.out.e; omega), (HET2.out.ft2 HEV.out).keepsS K8.out (fun k hk e => by have := HET2.out.e; omega), HET2.out.v0, HET2.out.e⟩
          have HTB3 : Hid (14 ≤ w8.heap.size) := Nat.le_trans (Nat.le_trans HTB2.out HEV.out.keeps.size) K8.out.size
          clear b0 b1 b2
          have hs3 := fun w' => run_osfrom a n c at_ hat w'
          obtain ⟨a3, ha3⟩ : ∃ a3, (if c = at_ then a else a.map (·.add (at_ * 7))) = a3 := ⟨_, rfl⟩
          obtain ⟨q3, hq3⟩ : ∃ q, c - at_ = q := ⟨_, rfl⟩
          obtain ⟨r3, hr3⟩ : ∃ q, n - at_ = q := ⟨_, rfl⟩
          rw [ha3, hq3, hr3] at hs3
          have HA3 := Lib.hid ha3
          have HR3 := Lib.hid hr3
          have hr3n : r3 ≤ 10000 := by omega
          clear ha3 hq3 hr3
          go_wp2_with (fail)
          clear hs3
          go_loopw [54] (fun i wr => ∃ j : Nat, i = .int .i64 (j : Int) ∧ j ≤ r3 ∧ ∃ v', EOut w8 E (.slice a1 n1 q1) wr (kindOf (kindOf 0 (rs.take at_)) ((rs.drop at_).take j)) v' ((emit 0 (rs.take at_)) ++ emit (kindOf 0 (rs.take at_)) ((rs.drop at_).take j))) (fun i _ => r3 - natOfV i)
          case atStart => exact ⟨0, rfl, Nat.zero_le _, _, by rw [List.take_zero]; show EOut _ _ _ _ (kindOf 0 (rs.take at_)) _ ((emit 0 (rs.take at_)) ++ []); rw [List.append_nil]; exact H8.out⟩
          case round =>
            obtain ⟨j, rfl, hj, v', hev⟩ := hrel
            have HEV := Lib.hid hev
            clear hev
            have HKR : Hid (Keeps (fun i => w.heap.size ≤ i) w wr) := HKW3.out.trans HEV.out.keeps (fun i hi h => by
              rcases h with h | h
              · exact HV2.out i h
              · have := HE.out; omega)
            by_cases hlt : j < r3
            · have t1 : (j : Int) < (r3 : Nat) := by omega
              have t0 : (0 : Int) ≤ (j : Int) := by omega
              have hwj : IntKind.i64.wrap ((j : Int) + 1) = ((j + 1 : Nat) : Int) := by rw [IntWalk.i64_in _ (by omega)]; rfl
              have hjl : at_ + j < ops.length := by rw [HN.out]; have := HR3.out; omega
              have hjr : at_ + j < rs.length := by rw [← HALL.out.len]; exact hjl
              obtain ⟨b, off, hab, hc⟩ := HOPS.out.cells (by intro e; rw [e] at hjl; simp at hjl)
              obtain ⟨o, ho⟩ : ∃ o, ops[at_ + j] = o := ⟨_, rfl⟩
              obtain ⟨R, hR⟩ : ∃ R, rs[at_ + j] = R := ⟨_, rfl⟩
              obtain ⟨nx, T⟩ := R
              have hsay := HALL.out.say (at_ + j) hjl hjr
              rw [ho, hR] at hsay
              have hsay : OpSay PT o nx T := hsay
              obtain ⟨d0, d1, d2, d3, d4, d5, d6⟩ := hc (at_ + j) hjl o ho
              have hbE : ¬ w.heap.size ≤ b := by have := World.block_lt_of_cell? w _ d0; exact Nat.not_le.2 this
              have d0 := HKR.out.cell d0 hbE
              have d1 := HKR.out.cell d1 hbE
              have d2 := HKR.out.cell d2 hbE
              have d3 := HKR.out.cell d3 hbE
              have d4 := HKR.out.cell d4 hbE
              have d5 := HKR.out.cell d5 hbE
              have d6 := HKR.out.cell d6 hbE
              have HSAY := Lib.hid hsay
              have HR := Lib.hid hR
              have HLE : Hid (((emit 0 (rs.take at_)) ++ emit (kindOf 0 (rs.take at_)) ((rs.drop at_).take j)).length ≤ 130000000000000) := by
                show _ ≤ _
                have h1 := (HSMD.out.take j).bound (kindOf 0 (rs.take at_))
                have h2 := (HSMR.out.take at_).bound 0
                rw [List.length_append]
                omega
              obtain ⟨op, s, bb, i, u, g, sz⟩ := o
              simp only at d0 d1 d2 d3 d4 d5 d6
              clear hc ho hR hsay
              have ha3 : a3 = some ⟨b, off + at_ * 7, none⟩ := by rw [← HA3.out, if_neg (by have := HCA.out; have := HR3.out; omega), hab]; simp [Addr.add]
              subst ha3
              have e7 : off + (at_ + j) * 7 = off + at_ * 7 + j * 7 := by omega
              rw [e7] at d0 d1 d2 d3 d4 d5 d6
              clear hab e7
              go_upto_region 19 with (fail)
              obtain ⟨W5, hW5⟩ : ∃ W, (wr.alloc (.cells #[.int .i64 op, .string s, .bool bb, .int .i64 i, .int .u64 (u : Int), .int .u64 (g : Int), .int .i64 sz] 53)) = W := ⟨_, rfl⟩
              have hK5 : Keeps (fun _ => False) wr W5 := by rw [← hW5]; exact (Keeps.refl _ wr).alloc _
              have hp5 : W5.heap[wr.heap.size]? = some (.cells #[.int .i64 op, .string s, .bool bb, .int .i64 i, .int .u64 (u : Int), .int .u64 (g : Int), .int .i64 sz] 53 (0, 0)) := by rw [← hW5]; exact heap_alloc_new wr _
              rw [hW5]
              obtain ⟨KV, hKV⟩ : ∃ KV, wr.heap.size = KV := ⟨_, rfl⟩
              rw [hKV] at hp5 ⊢
              have hcall := HSAY.out w8 E (.slice a1 n1 q1) W5 _ _ _ HET3.out (HEV.out.below hK5) HTB3.out HLE.out
              have HCALL := Lib.hid hcall
              have p0 := cell_row (j := 0) hp5
              have p1 := cell_row (j := 1) hp5
              have p2 := cell_row (j := 2) hp5
              have p3 := cell_row (j := 3) hp5
              have p4 := cell_row (j := 4) hp5
              have p5 := cell_row (j := 5) hp5
              have p6 := cell_row (j := 6) hp5
              simp at p0 p1 p2 p3 p4 p5 p6
              clear hW5 hK5 hp5 hKV hcall d0 d1 d2 d3 d4 d5 d6
              go_wp2_with (go_at_call 18; refine HCALL.out.mono ?_; rintro e w6 ⟨rfl, v6, h6⟩; have H6 := Lib.hid h6; clear h6)
              go_roundw
              case rel =>
                have h := emit_take (kindOf 0 (rs.take at_)) ((rs.drop at_)) j (by rw [List.length_drop]; omega) nx T (by rw [List.getElem_drop]; exact HR.out)
                refine ⟨j + 1, rfl, by omega, v6, ?_⟩
                rw [h.1, h.2, ← List.append_assoc]
                exact H6.out
              case measure => simp [natOfV]; omega
            · have t1 : ¬ (j : Int) < (r3 : Nat) := by omega
              obtain rfl : r3 = j := by omega
              have hrs : emit 0 (rs.take at_) ++ emit (kindOf 0 (rs.take at_)) ((rs.drop at_).take r3) = emit 0 rs := by
                have h1 : (rs.drop at_).take r3 = rs.drop at_ := List.take_of_length_le (by rw [List.length_drop, ← HALL.out.len, HN.out]; have := HR3.out; omega)
                rw [h1, ← emit_append, List.take_append_drop]
              rw [hrs] at HEV
              have HBY := Lib.hid (bytes_any _ _ _ _ _ _ _ HEV.out)
              have HCP := Lib.hid (copied2_any v' (emit 0 rs) wr HEV.out.own.bytes (by have := HSMR.out.bound 0; omega))
              have HKK : Hid (Keeps (fun _ => False) w wr) := HKR.out.mono (fun i hi h => by omega)
              go_wp2_with (first
                | (go_at_call 20; refine HBY.out.mono ?_; rintro e w' ⟨rfl, hww⟩; obtain rfl := hww.symm)
                | (go_at_call 19; refine HCP.out.mono ?_; rintro e w7 ⟨V, rfl, hb7, hk7⟩; have B7 := Lib.hid hb7; have K7 := Lib.hid hk7; clear hb7 hk7))
              go_ret
              exact ⟨V, rfl, B7.out, HKK.out.trans K7.out (fun _ _ h => h)⟩
end Go.Proofs.YtmijjppjodpagaaGreatDoor

namespace Go.Proofs.YtmijjppjodpagaaGreatDoor
open Go.RowKit

/-- A blank. -/
def isSp (c : UInt8) : Bool := c.toNat == 32 || c.toNat == 10 || c.toNat == 13 || c.toNat == 9
/-- The bytes behind the blanks. -/
def skip (l : List UInt8) : List UInt8 := l.dropWhile isSp
theorem skip_cons (x : UInt8) (l : List UInt8) : skip (x :: l) = if isSp x then skip l else x :: l := by
  unfold skip
  rw [List.dropWhile_cons]

/-- V lies in v's block, or in none. -/
def Within (v V : Value) : Prop := ∀ k, V.ownBlock = some k → v.ownBlock = some k
theorem Within.refl (v : Value) : Within v v := fun _ h => h
theorem Within.trans {a b c : Value} (h : Within a b) (h' : Within b c) : Within a c := fun k hk => h k (h' k hk)
theorem within_from (a : Option Addr) (n c k : Nat) : Within (.slice a n c) (sliceFrom a n c k) := by
  intro b hb
  unfold sliceFrom at hb
  cases a with
  | none => simp [Value.ownBlock] at hb
  | some a =>
    split at hb
    · exact hb
    · by_cases h0 : k = 0 <;> simpa [Value.ownBlock, Addr.add, h0] using hb
theorem within_len (a : Option Addr) (n c n' c' : Nat) : Within (.slice a n c) (.slice a n' c') := by
  intro b hb
  cases a with
  | none => simp [Value.ownBlock] at hb
  | some a => exact hb

/-- The slice from k on, as a value of its own. -/
theorem BytesAt.from {w : World} {v : Value} {l : List UInt8} (h : BytesAt w v l) (k : Nat) (hk : k ≤ l.length) :
    ∃ V, (∀ w', (Instr.slice 31 v (some (.int .i64 (k : Int))) none none).run Tryz.prog w' = .ok V w') ∧ BytesAt w V (l.drop k) ∧ Within v V := by
  obtain ⟨a, c, rfl, hc, hm, _⟩ := id h
  exact ⟨_, fun w' => run_sfrom a _ c k hk w', h.drop k hk, within_from _ _ _ _⟩
/-- The slice from k to j. -/
theorem BytesAt.mid {w : World} {v : Value} {l : List UInt8} (h : BytesAt w v l) (k j : Nat) (hk : k ≤ j) (hj : j ≤ l.length) :
    ∃ V, (∀ w', (Instr.slice 31 v (some (.int .i64 (k : Int))) (some (.int .i64 (j : Int))) none).run Tryz.prog w' = .ok V w') ∧ BytesAt w V ((l.take j).drop k) := by
  obtain ⟨a, c, rfl, hc, hm, _⟩ := id h
  have h2 := (h.take j c hj (by omega) (Nat.le_refl _)).drop k (by rw [List.length_take]; omega)
  refine ⟨_, fun w' => ?_, h2⟩
  obtain ⟨i0, hi, hz0, hz1, hz2⟩ := info_parts info5
  have h1 := run_sliceBound (P := Tryz.prog) w' .i64 (j : Int) c .sliceAcap (by omega) (by omega)
  have h3 := run_sliceBound (P := Tryz.prog) w' .i64 (k : Int) j .sliceB (by omega) (by omega)
  simp [Instr.slice, Instr.sliceBounds, run_underlying Tryz.underlying31, h1, h3, sizeOf, typeInfo, hi, hz1, sliceFrom]
theorem BytesAt.form {w : World} {v : Value} {l : List UInt8} (h : BytesAt w v l) : ∃ a c, v = .slice a l.length c ∧ l.length ≤ c ∧ c ≤ maxLen := by
  obtain ⟨a, c, h1, h2, h3, _⟩ := h
  exact ⟨a, c, h1, h2, h3⟩

set_option maxRecDepth 100000 in
set_option maxHeartbeats 400000 in
theorem consume_any (v : Value) (l : List UInt8) (n : Nat) (hn : n ≤ l.length) (w : World) (hv : BytesAt w v l) (hs : ∀ r, skip (l.drop n) ≠ 35 :: r) :
    Calls Tryz.prog 137 #[v, .int .i64 n] w fun e w' => (∃ V, e = .returned V ∧ BytesAt w V (skip (l.drop n)) ∧ Within v V) ∧ w = w' := by
  obtain ⟨V0, hV0, hb0, hi0⟩ := hv.from n hn
  have HN := Lib.hid hs
  have HB0 := Lib.hid hb0
  have HI0 := Lib.hid hi0
  clear hs hv hb0 hi0
  go_enter Tryz.func137, Tryz.ntmps137
  go_wp2
  go_loop [0] (fun s => ∃ r, BytesAt w s r ∧ Within v s ∧ skip r = skip (l.drop n)) (fun s => lenOf s)
  case atStart => exact ⟨_, HB0.out, HI0.out, rfl⟩
  case round =>
    obtain ⟨r, hr, hi, he⟩ := hrel
    have HS : Hid (skip r = skip (l.drop n)) := he
    have HI := Lib.hid hi
    clear he hi
    cases r with
    | nil =>
      obtain ⟨a', c', rfl, hc', hm', _⟩ := id hr
      have HR := Lib.hid hr
      clear hr
      go_wp2
      go_ret
      exact ⟨⟨_, rfl, by rw [← HS.out]; exact HR.out, HI.out⟩, rfl⟩
    | cons x r =>
      obtain ⟨V1, hV1, hb1, hi1⟩ := hr.from 1 (by simp)
      obtain ⟨b, off, c', rfl, hc', hm', hx⟩ := hr.cons
      have HR := Lib.hid hr
      have HD := Lib.hid hb1
      have HI1 := Lib.hid hi1
      have hV1' : ∀ w', (Instr.slice 31 (.slice (some ⟨b, off, none⟩) (r.length + 1) c') (some (.int .i64 1)) none none).run Tryz.prog w' = .ok V1 w' := hV1
      obtain ⟨a1, c1, hf1, _, _⟩ := hb1.form
      have HF1 := Lib.hid hf1
      clear hr hb1 hi1 hV1 hf1
      cases hx32 : isSp x with
      | true =>
        have H32 := Lib.hid hx32
        have hsp : x.toNat = 32 ∨ x.toNat = 10 ∨ x.toNat = 13 ∨ x.toNat = 9 := by simpa [isSp, or_assoc] using hx32
        clear hx32
        rcases hsp with hsp | hsp | hsp | hsp
        all_goals
          have H1 := Lib.hid hsp
          rw [hsp] at hx
          clear hsp
          go_wp2
          go_round
          case rel => exact ⟨r, by simpa using HD.out, HI.out.trans HI1.out, by rw [← HS.out, skip_cons, if_pos H32.out]⟩
          case measure => rw [HF1.out]; simp [lenOf]
      | false =>
        have H32 := Lib.hid hx32
        have hne : x.toNat ≠ 35 := by
          intro h
          refine HN.out r ?_
          rw [← HS.out, skip_cons, hx32, if_neg (by simp)]
          rw [show x = 35 from UInt8.toNat_inj.1 h]
        have h0 : ((x.toNat : Int) == 32) = false := by simp [isSp] at hx32; simp; omega
        have h1 : ((x.toNat : Int) == 10) = false := by simp [isSp] at hx32; simp; omega
        have h2 : ((x.toNat : Int) == 13) = false := by simp [isSp] at hx32; simp; omega
        have h3 : ((x.toNat : Int) == 9) = false := by simp [isSp] at hx32; simp; omega
        have h4 : ((x.toNat : Int) == 35) = false := by simp; omega
        clear hx32 hne hV1'
        go_wp2
        go_ret
        exact ⟨⟨_, rfl, by rw [← HS.out, skip_cons, H32.out, if_neg (by simp)]; exact HR.out, HI.out⟩, rfl⟩

/-- d.consume(n): the decoder's row gets the shorter input. -/
theorem dconsume (D : Nat) (cur : Array Value) (v : Value) (l : List UInt8) (n : Nat) (hn : n ≤ l.length) (w : World) (hrow : w.heap[D]? = some (.cells cur 129 (0, 0))) (hin : cur[10]? = some v)
    (hv : BytesAt w v l) (hs : ∀ r, skip (l.drop n) ≠ 35 :: r) :
    Calls Tryz.prog 113 #[.pointer (some ⟨D, 0, none⟩), .int .i64 n] w fun e w' =>
      e = .returned (.tuple #[]) ∧ ∃ V, BytesAt w V (skip (l.drop n)) ∧ Within v V ∧ w' = w.setCell ⟨D, 10, none⟩ V := by
  have hc : w.cell? ⟨D, 10, none⟩ = some v := (cell_row hrow).trans hin
  have hf : w.frozen? ⟨D, 10, none⟩ = false := frozen_row hrow
  go_enter Tryz.func113, Tryz.ntmps113
  go_wp2_with (go_at_call 137; refine (consume_any v l n hn w hv hs).mono ?_; rintro e w1 ⟨⟨V, rfl, hb, hi⟩, rfl⟩; obtain ⟨a1, c1, rfl, _, _⟩ := hb.form)
  (try simp only [Exit.inBlock, Exit.then]); refine bodyPost_ret (results_none rfl _ _ _) rfl ?_
  exact ⟨rfl, _, hb, hi, rfl⟩
end Go.Proofs.YtmijjppjodpagaaGreatDoor
