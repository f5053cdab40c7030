/-
  textOp at an enum and at a message.
  Operations that grow, kept apart from other rows; how long the parts of a message's operations are.
  Every operation of a message that fits is one that the Encoder takes.
  (*Decoder).consumeToken of the text form.
-/
import Derived.Test.YtmijjppjodpagaaGreatDoorM26
import Derived.Test.YtmijjppjodpagaaGreatDoorM29
import Derived.Maps.AppendAt
import Derived.Test.YtmijjppjodpagaaGreatDoorM27
import Derived.BigRegion
import Derived.Deep.RegionLaw
set_option linter.unusedVariables false
set_option linter.unusedSimpArgs false
namespace Go.Proofs.YtmijjppjodpagaaGreatDoor
open Go.RowKit
section
variable {ops : Array Oper} {rest : List Oper} {o : Oper} {a : Act} {Q : Exit → Act → World → Prop} {w : World}
theorem at_ops_app (hgd : o.guard = none) (s x : Operand) (ho : o.op = .call { callee := .builtin .append, args := #[s, x], argTypes := #[29, 29] }) (base : Nat)
    {v xv : Value} {l r : List OpV} (h : OOwn base w v l) (hs : a.eval s = v) (hx : a.eval x = xv) (hxb : OpsAt w xv r) (hb : l.length + r.length ≤ 1000000) (hbase : base ≤ w.heap.size)
    (hk : ∀ v' w', OOwn base w' v' (l ++ r) → Keeps (fun j => base ≤ j) w w' → wpList Tryz.prog ops Q rest (a.put o.dst v') w') : wpList Tryz.prog ops Q (o :: rest) a w := by
  refine wpList_plain hgd fun K hK => ?_
  obtain ⟨v', w', hr, h2, h3⟩ := run_ops_app o.type base w h hxb hb hbase
  unfold Oper.wp execOp
  simp only [ho, resolve, invoke, builtin, Sem.run_bind, Sem.run_pure, Result.andThen_ok, List.map_toArray, List.map_cons, List.map_nil, hs, hx, hr]
  exact hK _ _ (hk v' w' h2 h3)
end
theorem oown_one (w : World) (o : OpV) : OOwn w.heap.size (w.alloc (.cells (opc o).toArray 53)) (.slice (some ⟨w.heap.size, 0, none⟩) 1 1) [o] :=
  ⟨opsC_length [o], .inr ⟨w.heap.size, 1, _, rfl, Nat.le_refl _, heap_alloc_new w _, Nat.le_refl _, by unfold maxLen; omega, rfl, rfl⟩⟩
set_option maxRecDepth 1000000 in
set_option maxHeartbeats 20000000 in
theorem textOp_14 (x y : Value) (S : Sch) (name : ByteArray) (number kind type : Int) (rep map : Bool) (b : Bool) (i : Int) (u g : Nat) (s : ByteArray) (am : Option Addr) (n cm : Nat) (msg : List (Int × List PV)) (inner : Int → List (Int × List PV) → List OpV) (w : World) (hk : kind = 14) (hsch : SchAt w x y S) (ht0 : 0 ≤ type) (ht1 : type < S.enums.length) (hlen : ∀ e ∈ S.enums, e.names.length = e.numbers.length) : Calls Tryz.prog 16 #[.agg #[x, y], .agg #[.string name, .int .i64 number, .int .i64 kind, .bool rep, .bool map, .int .i64 type], .agg #[.bool b, .int .i64 i, .int .u64 (u : Int), .int .u64 (g : Int), .string s, .slice am n cm]] w (OpsRes w (valOps inner S kind type b i u g s msg)) := by
  subst hk
  obtain ⟨t, rfl⟩ : ∃ t : Nat, type = (t : Int) := ⟨type.toNat, by omega⟩
  have htl : t < S.enums.length := by omega
  obtain ⟨ay, cy, rfl, hcy, hmy⟩ := hsch.2.len
  obtain ⟨ne, hne⟩ : ∃ n, S.enums.length = n := ⟨_, rfl⟩
  have hy := hsch.2
  rw [hne] at hcy hy ⊢
  obtain ⟨be, oe, rfl, hce⟩ := ETsAt.cells hy (by intro e; rw [e] at htl; simp at htl)
  obtain ⟨nv, uv, d0, d1, hsn, hsu⟩ := hce t htl
  obtain ⟨e, he⟩ : ∃ e, S.enums[t] = e := ⟨_, rfl⟩
  rw [he] at hsn hsu
  have hee : e.names.length = e.numbers.length := hlen e (by rw [← he]; exact List.getElem_mem htl)
  obtain ⟨r, hr⟩ : ∃ r, enumN e.numbers e.names i = r := ⟨_, rfl⟩
  have hen : enumOf S (t : Int) i = r := by
    unfold enumOf
    rw [show ((t : Int)).toNat = t from rfl, List.getElem?_eq_getElem htl, he]
    exact hr
  have HEN : Hid (∀ wx, Keeps (fun _ => False) w wx → Calls Tryz.prog 30 #[.agg #[nv, uv], .int .i64 i] wx fun e w' => e = .returned (.string r) ∧ Keeps (fun _ => False) wx w') := fun wx hk => by
    rw [← hr]
    exact enumName_any nv uv e.names e.numbers hee i wx (hsn.keeps hk) (hsu.keeps hk)
  obtain ⟨ops, hops⟩ : ∃ ops, valOps inner S 14 (t : Int) b i u g s msg = ops := ⟨_, rfl⟩
  have hops2 : ops = if r.toList = [] then [oInt i] else [oLit r] := by rw [← hops]; simp [valOps, hen]
  rw [hops]
  have htn : (t : Int) < (ne : Int) := by omega
  have ht0 : (0 : Int) ≤ (t : Int) := by omega
  have HOP := Lib.hid hops2
  have HD0 := Lib.hid d0
  have HD1 := Lib.hid d1
  clear hce hsn hsu he hee hr hen hops hops2 hsch hy hne hlen htl hmy d0 d1
  obtain ⟨W0, hW0⟩ : ∃ W, ((w.alloc (.cells #[x, .slice (some ⟨be, oe, none⟩) ne cy] 25)).alloc (.cells #[.string name, .int .i64 number, .int .i64 14, .bool rep, .bool map, .int .i64 (t : Int)] 45)).alloc (.cells #[.bool b, .int .i64 i, .int .u64 (u : Int), .int .u64 (g : Int), .string s, .slice am n cm] 51) = W := ⟨_, rfl⟩
  have hk0 : Keeps (fun _ => False) w W0 := by rw [← hW0]; exact (((Keeps.refl _ w).alloc _).alloc _).alloc _
  have r0 : W0.heap[w.heap.size]? = some (.cells #[x, .slice (some ⟨be, oe, none⟩) ne cy] 25 (0, 0)) := by rw [← hW0]; exact ((Keeps.refl (fun _ => False) _).alloc _).row (heap_alloc2_old w _ _) id
  have r1 : W0.heap[w.heap.size + 1]? = some (.cells #[.string name, .int .i64 number, .int .i64 14, .bool rep, .bool map, .int .i64 (t : Int)] 45 (0, 0)) := by rw [← hW0]; exact ((Keeps.refl (fun _ => False) _).alloc _).row (heap_alloc2_new w _ _) id
  have r2 : W0.heap[w.heap.size + 2]? = some (.cells #[.bool b, .int .i64 i, .int .u64 (u : Int), .int .u64 (g : Int), .string s, .slice am n cm] 51 (0, 0)) := by rw [← hW0]; have h := heap_alloc_new ((w.alloc (.cells #[x, .slice (some ⟨be, oe, none⟩) ne cy] 25)).alloc (.cells #[.string name, .int .i64 number, .int .i64 14, .bool rep, .bool map, .int .i64 (t : Int)] 45)) (.cells #[.bool b, .int .i64 i, .int .u64 (u : Int), .int .u64 (g : Int), .string s, .slice am n cm] 51); simpa using h
  have a0 := cell_row (j := 0) r0
  have a1 := cell_row (j := 1) r0
  have b2 := cell_row (j := 2) r1
  have b5 := cell_row (j := 5) r1
  have c0 := cell_row (j := 0) r2
  have c1 := cell_row (j := 1) r2
  have c2 := cell_row (j := 2) r2
  have c3 := cell_row (j := 3) r2
  have c4 := cell_row (j := 4) r2
  have c5 := cell_row (j := 5) r2
  simp at a0 a1 b2 b5 c0 c1 c2 c3 c4 c5
  have HK0 := Lib.hid hk0
  have HW0 := Lib.hid hW0
  have HR0 := Lib.hid r0
  have HR1 := Lib.hid r1
  have HR2 := Lib.hid r2
  clear hk0 hW0 r0 r1 r2
  go_enter Tryz.func16, Tryz.ntmps16
  go_upto_region 1 with (fail)
  rw [HW0.out]
  clear HW0
  have d0 := HK0.out.cell HD0.out id
  have d1 := HK0.out.cell HD1.out id
  go_wp2_with (fail)
  go_region_with ((go_at_call 30; refine (HEN.out _ (HK0.out.trans (by repeat (first | exact Keeps.refl _ _ | apply Keeps.drew)) (fun _ _ h => h))).mono ?_; rintro e w2 ⟨rfl, k2⟩; have K2 : Hid (Keeps (fun _ => False) w w2) := (HK0.out.trans (by repeat (first | exact Keeps.refl _ _ | apply Keeps.drew)) (fun _ _ h => h)).trans k2 (fun _ _ h => h); have c1 := (Keeps.of_drew k2).cell c1 id; clear k2))
  all_goals
    by_cases hrn : r.toList = []
    · have h1 : (r.toList == []) = true := by simpa using hrn
      have h2 : (r.toList != []) = false := by simpa using hrn
      go_wp2_with (fail)
      go_ret
      rw [HOP.out, if_pos hrn]
      exact ⟨_, rfl, opsAt_one w2 (oInt i), K2.out.alloc _⟩
    · have h1 : (r.toList == []) = false := by simpa using hrn
      have h2 : (r.toList != []) = true := by simpa using hrn
      go_wp2_with (fail)
      go_ret
      rw [HOP.out, if_neg hrn]
      exact ⟨_, rfl, opsAt_one w2 (oLit r), K2.out.alloc _⟩
set_option maxRecDepth 1000000 in
set_option maxHeartbeats 20000000 in
theorem textOp_11 (x y : Value) (S : Sch) (name : ByteArray) (number kind type : Int) (rep map : Bool) (b : Bool) (i : Int) (u g : Nat) (s : ByteArray) (am : Option Addr) (n cm : Nat) (msg : List (Int × List PV)) (inner : Int → List (Int × List PV) → List OpV) (w : World) (hk : kind = 11) (hin : ∀ wx, Keeps (fun _ => False) w wx → Calls Tryz.prog 6 #[.agg #[x, y], .int .i64 type, .slice am n cm] wx (OpsRes wx (inner type msg))) (hb : (inner type msg).length ≤ 900000) : Calls Tryz.prog 16 #[.agg #[x, y], .agg #[.string name, .int .i64 number, .int .i64 kind, .bool rep, .bool map, .int .i64 type], .agg #[.bool b, .int .i64 i, .int .u64 (u : Int), .int .u64 (g : Int), .string s, .slice am n cm]] w (OpsRes w (valOps inner S kind type b i u g s msg)) := by
  subst hk
  have hv : valOps inner S 11 type b i u g s msg = ([oOpen] ++ inner type msg) ++ [oClose] := by simp [valOps]
  rw [hv]
  obtain ⟨IN, hIN⟩ : ∃ l, inner type msg = l := ⟨_, rfl⟩
  rw [hIN] at hin hb ⊢
  have HIN := Lib.hid hin
  clear hv hIN hin
  obtain ⟨W0, hW0⟩ : ∃ W, ((w.alloc (.cells #[x, y] 25)).alloc (.cells #[.string name, .int .i64 number, .int .i64 11, .bool rep, .bool map, .int .i64 type] 45)).alloc (.cells #[.bool b, .int .i64 i, .int .u64 (u : Int), .int .u64 (g : Int), .string s, .slice am n cm] 51) = W := ⟨_, rfl⟩
  have hk0 : Keeps (fun _ => False) w W0 := by rw [← hW0]; exact (((Keeps.refl _ w).alloc _).alloc _).alloc _
  have r0 : W0.heap[w.heap.size]? = some (.cells #[x, y] 25 (0, 0)) := by rw [← hW0]; exact ((Keeps.refl (fun _ => False) _).alloc _).row (heap_alloc2_old w _ _) id
  have r1 : W0.heap[w.heap.size + 1]? = some (.cells #[.string name, .int .i64 number, .int .i64 11, .bool rep, .bool map, .int .i64 type] 45 (0, 0)) := by rw [← hW0]; exact ((Keeps.refl (fun _ => False) _).alloc _).row (heap_alloc2_new w _ _) id
  have r2 : W0.heap[w.heap.size + 2]? = some (.cells #[.bool b, .int .i64 i, .int .u64 (u : Int), .int .u64 (g : Int), .string s, .slice am n cm] 51 (0, 0)) := by rw [← hW0]; have h := heap_alloc_new ((w.alloc (.cells #[x, y] 25)).alloc (.cells #[.string name, .int .i64 number, .int .i64 11, .bool rep, .bool map, .int .i64 type] 45)) (.cells #[.bool b, .int .i64 i, .int .u64 (u : Int), .int .u64 (g : Int), .string s, .slice am n cm] 51); simpa using h
  have a0 := cell_row (j := 0) r0
  have a1 := cell_row (j := 1) r0
  have b2 := cell_row (j := 2) r1
  have b5 := cell_row (j := 5) r1
  have c0 := cell_row (j := 0) r2
  have c1 := cell_row (j := 1) r2
  have c2 := cell_row (j := 2) r2
  have c3 := cell_row (j := 3) r2
  have c4 := cell_row (j := 4) r2
  have c5 := cell_row (j := 5) r2
  simp at a0 a1 b2 b5 c0 c1 c2 c3 c4 c5
  have HK0 := Lib.hid hk0
  have HW0 := Lib.hid hW0
  have HR0 := Lib.hid r0
  have HR1 := Lib.hid r1
  have HR2 := Lib.hid r2
  clear hk0 hW0 r0 r1 r2
  go_enter Tryz.func16, Tryz.ntmps16
  go_upto_region 1 with (fail)
  rw [HW0.out]
  clear HW0
  have hk1 : Keeps (fun _ => False) W0 (W0.alloc (.cells #[.int .i64 8, .string ⟨#[]⟩, .bool false, .int .i64 0, .int .u64 0, .int .u64 0, .int .i64 0] 53)) := (Keeps.refl _ W0).alloc _
  have ho1 : OOwn W0.heap.size (W0.alloc (.cells #[.int .i64 8, .string ⟨#[]⟩, .bool false, .int .i64 0, .int .u64 0, .int .u64 0, .int .i64 0] 53)) (.slice (some ⟨W0.heap.size, 0, none⟩) 1 1) [oOpen] := oown_one W0 oOpen
  have q0 := hk1.cell a0 id
  have q1 := hk1.cell a1 id
  have q2 := hk1.cell b5 id
  have q3 := hk1.cell c5 id
  have HK1 := Lib.hid hk1
  have HO1 := Lib.hid ho1
  have HSZ : Hid (∀ wx, Keeps (fun j => W0.heap.size ≤ j) (W0.alloc (.cells #[.int .i64 8, .string ⟨#[]⟩, .bool false, .int .i64 0, .int .u64 0, .int .u64 0, .int .i64 0] 53)) wx → W0.heap.size ≤ wx.heap.size) := fun wx h => Nat.le_trans hk1.size h.size
  clear hk1 ho1
  go_wp2_with (first
    | (go_at_call 6; refine (HIN.out _ (HK0.out.trans HK1.out (fun _ _ h => h))).mono ?_; rintro e w2 ⟨V, rfl, hV, k2⟩; have B2 := Lib.hid hV; have K2 := Lib.hid k2; have O2 := Lib.hid (HO1.out.keeps k2 (fun _ _ => id)); clear hV k2)
    | (at_builtin; have _h := O4; refine at_ops_app rfl (.tmp 76) (.tmp 78) rfl W0.heap.size (O4.out.keeps ((Keeps.refl (fun _ => False) w4).alloc _) (fun _ _ => id)) rfl rfl (opsAt_one w4 oClose) (by simp; omega) (Nat.le_trans (HSZ.out _ K4.out) (by simp)) ?_; intro v6 w6 o6 k6; have O6 := Lib.hid o6; have K6 := Lib.hid k6; clear o6 k6)
    | (at_builtin; have _h := O2; refine at_ops_app rfl (.tmp 68) (.tmp 74) rfl W0.heap.size O2.out rfl rfl B2.out (by simp; omega) (HSZ.out _ (K2.out.mono (fun _ _ h => h.elim))) ?_; intro v4 w4 o4 k4; have O4 := Lib.hid o4; have K4 : Hid (Keeps (fun j => W0.heap.size ≤ j) (W0.alloc (.cells #[.int .i64 8, .string ⟨#[]⟩, .bool false, .int .i64 0, .int .u64 0, .int .u64 0, .int .i64 0] 53)) w4) := (K2.out.mono (S1 := fun j => W0.heap.size ≤ j) (fun _ _ h => h.elim)).trans k4 (fun _ _ h => h); clear o4 k4))
  go_ret
  refine ⟨_, rfl, O6.out.opsAt, ?_⟩
  have k1 : Keeps (fun j => W0.heap.size ≤ j) W0 w6 := (((HK1.out.mono (S1 := fun j => W0.heap.size ≤ j) (fun _ _ h => h.elim)).trans K4.out (fun _ _ h => h)).alloc _).trans K6.out (fun _ _ h => h)
  exact HK0.out.trans (k1.mono (S1 := fun _ => False) (fun i hi h => absurd hi (Nat.not_lt.2 h))) (fun _ _ h => h)
end Go.Proofs.YtmijjppjodpagaaGreatDoor

namespace Go.Proofs.YtmijjppjodpagaaGreatDoor
open Go.RowKit
theorem run_ops_grow (ty : TypeId) (base : Nat) (w : World) {v x : Value} {l r : List OpV} (h : OOwn base w v l) (hx : OpsAt w x r) (hb : l.length + r.length ≤ 1000000) (hbase : base ≤ w.heap.size)
    (T : Nat → Prop) (hT : ∀ k, v.ownBlock = some k → T k) (hT2 : T w.heap.size) :
    ∃ v' w', (Builtin.append_ #[29, 29] ty #[v, x]).run Tryz.prog w = .ok v' w' ∧ OOwn base w' v' (l ++ r) ∧ Keeps T w w' ∧ ∀ k, v'.ownBlock = some k → T k := by
  obtain ⟨i0, hi, hz0, hz1, hz2⟩ := info_parts infoOp
  obtain ⟨a, c, rfl, hc, hm⟩ := hx.len
  by_cases hr : r = []
  · subst hr
    refine ⟨v, w, ?_, by rw [List.append_nil]; exact h, Keeps.refl _ _, hT⟩
    obtain ⟨_, h1⟩ := h
    rcases h1 with ⟨hv, hn⟩ | ⟨g, cap, cur, hv, hb2, hg, hn, hm2, hs, ht⟩
    · subst hv
      simp [Builtin.append_, run_underlying Tryz.underlying29, sizeOf, typeInfo, hi, Builtin.lenOf, Builtin.firstCells]
      cases a <;> simp [loadCells, loadCellsFrom]
    · subst hv
      simp [Builtin.append_, run_underlying Tryz.underlying29, sizeOf, typeInfo, hi, Builtin.lenOf, Builtin.firstCells, hn]
      cases a <;> simp [loadCells, loadCellsFrom, storeCells]
  · obtain ⟨ad, rfl, hnews⟩ := hx.flat hr
    obtain ⟨v', w', hrun, ho, hg, _, hat⟩ := run_append_own_at w base 29 ty 53 i0 _ 7 64 Tryz.underlying29 hi hz0 hz1 hz2 rfl (by omega) v l.length (opsC l) h ad r.length c (opsC r) (opsC_length r) hnews (opsC_one r) (by unfold maxLen; omega) (by omega) hbase
    refine ⟨v', w', hrun, ?_, ⟨hg.os, hg.tape, hg.output, hg.size, fun k hk hn => hg.block k hk (fun e => hn (hT k e.symm))⟩, fun k hk => ?_⟩
    · unfold OOwn
      rw [List.length_append, opsC_append]
      exact ho
    · rcases hat with hat | hat
      · exact hT k (by rw [← hat]; exact hk)
      · rw [hk] at hat
        cases hat
        exact hT2
section
variable {ops : Array Oper} {rest : List Oper} {o : Oper} {a : Act} {Q : Exit → Act → World → Prop} {w : World}
theorem at_ops_grow (hgd : o.guard = none) (s x : Operand) (ho : o.op = .call { callee := .builtin .append, args := #[s, x], argTypes := #[29, 29] }) (base : Nat)
    {v xv : Value} {l r : List OpV} (h : OOwn base w v l) (hs : a.eval s = v) (hx : a.eval x = xv) (hxb : OpsAt w xv r) (hb : l.length + r.length ≤ 1000000) (hbase : base ≤ w.heap.size)
    (T : Nat → Prop) (hT : ∀ k, v.ownBlock = some k → T k) (hT2 : T w.heap.size)
    (hk : ∀ v' w', OOwn base w' v' (l ++ r) → Keeps T w w' → (∀ k, v'.ownBlock = some k → T k) → wpList Tryz.prog ops Q rest (a.put o.dst v') w') : wpList Tryz.prog ops Q (o :: rest) a w := by
  refine wpList_plain hgd fun K hK => ?_
  obtain ⟨v', w', hr, h2, h3, h4⟩ := run_ops_grow o.type base w h hxb hb hbase T hT hT2
  unfold Oper.wp execOp
  simp only [ho, resolve, invoke, builtin, Sem.run_bind, Sem.run_pure, Result.andThen_ok, List.map_toArray, List.map_cons, List.map_nil, hs, hx, hr]
  exact hK _ _ (hk v' w' h2 h3 h4)
end
theorem OOwn.lt {base : Nat} {w : World} {v : Value} {ops : List OpV} (h : OOwn base w v ops) : ∀ k, v.ownBlock = some k → base ≤ k ∧ k < w.heap.size := World.ownsRow.lt h
theorem fieldOps_eq {S : Sch} {t : Int} {q : Int} {ps : List PV} {f : FT} (inner : Int → List (Int × List PV) → List OpV) (hf : ftOf S t q = some f) : fieldOps inner S t (q, ps) = (ps.map (valsOf inner S f)).flatten := by
  unfold fieldOps
  rw [hf]
theorem ops_part {S : Sch} {d : Nat} {t q : Int} {fs : List (Int × List PV)} {k : Nat} {ps : List PV} {f : FT} (hk : k < fs.length) (hQ : fs[k] = (q, ps)) (hf : ftOf S t q = some f) (j : Nat) :
    (opsM S (d + 1) t (fs.take k)).length + ((ps.take j).map (valsOf (opsM S d) S f)).flatten.length ≤ (opsM S (d + 1) t fs).length := by
  have h1 := (opsM_take S d t fs (k + 1)).length_le
  have h2 := congrArg List.length (opsM_succ S d t fs k hk)
  rw [hQ, fieldOps_eq _ hf, List.length_append] at h2
  have h3 : ((ps.map (valsOf (opsM S d) S f)).flatten).length = ((ps.take j).map (valsOf (opsM S d) S f)).flatten.length + ((ps.drop j).map (valsOf (opsM S d) S f)).flatten.length := by
    rw [← List.length_append, ← List.flatten_append, ← List.map_append, List.take_append_drop]
  omega
theorem vals_step {S : Sch} {ps : List PV} {f : FT} (inner : Int → List (Int × List PV) → List OpV) {j : Nat} (hj : j < ps.length) {b : Bool} {i : Int} {u g : Nat} {s : ByteArray} {m : List (Int × List PV)} (hp : ps[j] = .mk b i u g s m) :
    ((ps.take (j + 1)).map (valsOf inner S f)).flatten = (((ps.take j).map (valsOf inner S f)).flatten ++ [nameOp f]) ++ valOps inner S f.kind f.type b i u g s m := by
  rw [List.take_succ_eq_append_getElem hj, List.map_append, List.flatten_append, hp]
  simp [valsOf]
theorem le_sum_of_mem' : ∀ {l : List Nat} {x : Nat}, x ∈ l → x ≤ l.sum
  | y :: r, x, h => by
    rw [List.sum_cons]
    rcases List.mem_cons.1 h with rfl | h
    · omega
    · have := le_sum_of_mem' h
      omega
theorem cnt_part (d : Nat) {fs : List (Int × List PV)} {f : Int × List PV} (hf : f ∈ fs) {p : PV} (hp : p ∈ f.2) : 1 + cntM d p.msg ≤ cntM (d + 1) fs := by
  rw [cntM_succ]
  have h1 := le_sum_of_mem' (List.mem_map.2 ⟨p, hp, rfl⟩ : 1 + cntM d p.msg ∈ f.2.map fun p => 1 + cntM d p.msg)
  have h2 := le_sum_of_mem' (List.mem_map.2 ⟨f, hf, rfl⟩ : (f.2.map fun p => 1 + cntM d p.msg).sum ∈ fs.map fun f => (f.2.map fun p => 1 + cntM d p.msg).sum)
  omega
end Go.Proofs.YtmijjppjodpagaaGreatDoor

namespace Go.Proofs.YtmijjppjodpagaaGreatDoor
open Go.RowKit
/-- A message's numbers are of their kinds, on d levels. -/
def Ranged : Nat → List (Int × List PV) → Prop
  | 0, _ => True
  | d + 1, fs => ∀ q ∈ fs, ∀ p ∈ q.2, match p with | .mk _ i u g _ m => -9223372036854775808 ≤ i ∧ i ≤ 9223372036854775807 ∧ u < 18446744073709551616 ∧ g < 18446744073709551616 ∧ Ranged d m
theorem MsgAt.ranged : ∀ {d : Nat} {w : World} {v : Value} {fs : List (Int × List PV)}, MsgAt w d v fs → Ranged d fs
  | 0, _, _, _, _ => trivial
  | d + 1, w, v, fs, h => by
    obtain ⟨vs, h1, h2, h3⟩ := h
    intro q hq p hp
    obtain ⟨j, hj, rfl⟩ := List.getElem_of_mem hq
    obtain ⟨ms, g1, g2, g3⟩ := h3 j hj (by omega)
    obtain ⟨k, hk, rfl⟩ := List.getElem_of_mem hp
    have g4 := g3 k hk (by omega)
    cases he : (fs[j]).2[k] with
    | mk b i u g s m =>
      rw [he] at g4
      simp only at g4 ⊢
      exact ⟨g4.1, g4.2.1, g4.2.2.1, g4.2.2.2.1, MsgAt.ranged g4.2.2.2.2⟩
/-- The names of a schema are not longer than the bulk. -/
structure NamesOk (S : Sch) : Prop where
  field : ∀ M ∈ S.msgs, ∀ f ∈ M.fields, f.name.size ≤ 1048576
  enum : ∀ e ∈ S.enums, ∀ n ∈ e.names, n.size ≤ 1048576
theorem enumN_mem : ∀ (xs : List Int) (nms : List ByteArray) (n : Int), enumN xs nms n ∈ nms ∨ enumN xs nms n = ⟨#[]⟩
  | [], _, _ => .inr (by simp [enumN])
  | x :: xs, [], _ => .inr (by simp [enumN])
  | x :: xs, nm :: nms, n => by
    unfold enumN
    split
    · exact .inl List.mem_cons_self
    · rcases enumN_mem xs nms n with h | h
      · exact .inl (List.mem_cons_of_mem _ h)
      · exact .inr h
theorem enumOf_size (S : Sch) (hn : NamesOk S) (t i : Int) : (enumOf S t i).size ≤ 1048576 := by
  unfold enumOf
  split
  · rename_i e he
    rcases enumN_mem e.numbers e.names i with h | h
    · exact hn.enum e (List.mem_of_getElem? he) _ h
    · rw [h]; decide
  · decide
theorem fit_mk (op : Int) (s : ByteArray) (b : Bool) (i : Int) (u f : Nat) (z : Int) (h1 : 1 ≤ op) (h2 : op ≤ 9) (hs : s.size ≤ 1048576) (hi : -9223372036854775808 ≤ i ∧ i ≤ 9223372036854775807) (hu : u < 18446744073709551616) (hf : f < 18446744073709551616) (hz : op = 4 → z = 64 ∨ (z = 32 ∧ FOk f)) : OpFit ⟨op, s, b, i, u, f, z⟩ := ⟨⟨h1, h2⟩, hs, hi, hu, hf, hz⟩
theorem empty_size : (⟨#[]⟩ : ByteArray).size ≤ 1048576 := by decide
theorem valOps_fit (inner : Int → List (Int × List PV) → List OpV) (S : Sch) (hn : NamesOk S) (kind type : Int) (b : Bool) (i : Int) (u g : Nat) (s : ByteArray) (msg : List (Int × List PV)) (hi : -9223372036854775808 ≤ i ∧ i ≤ 9223372036854775807) (hu : u < 18446744073709551616) (hg : g < 18446744073709551616) (hs : s.size ≤ 1048576) (hf : kind = 2 → FOk g) (hin : kind = 11 → ∀ o ∈ inner type msg, OpFit o) :
    ∀ o ∈ valOps inner S kind type b i u g s msg, OpFit o := by
  have e0 := empty_size
  have i0 : -9223372036854775808 ≤ (0 : Int) ∧ (0 : Int) ≤ 9223372036854775807 := by omega
  have fb : OpFit (oBool b) := fit_mk _ _ _ _ _ _ _ (by omega) (by omega) e0 i0 (by omega) (by omega) (fun h => by omega)
  have ft : OpFit (oText s) := fit_mk _ _ _ _ _ _ _ (by omega) (by omega) hs i0 (by omega) (by omega) (fun h => by omega)
  have fu : OpFit (oUint u) := fit_mk _ _ _ _ _ _ _ (by omega) (by omega) e0 i0 hu (by omega) (fun h => by omega)
  have fi : OpFit (oInt i) := fit_mk _ _ _ _ _ _ _ (by omega) (by omega) e0 hi (by omega) (by omega) (fun h => by omega)
  have f6 : OpFit (oFlo g 64) := fit_mk _ _ _ _ _ _ _ (by omega) (by omega) e0 i0 (by omega) hg (fun _ => .inl rfl)
  have fl : OpFit (oLit (enumOf S type i)) := fit_mk _ _ _ _ _ _ _ (by omega) (by omega) (enumOf_size S hn type i) i0 (by omega) (by omega) (fun h => by omega)
  have fo : OpFit oOpen := fit_mk _ _ _ _ _ _ _ (by omega) (by omega) e0 i0 (by omega) (by omega) (fun h => by omega)
  have fc : OpFit oClose := fit_mk _ _ _ _ _ _ _ (by omega) (by omega) e0 i0 (by omega) (by omega) (fun h => by omega)
  have one : ∀ x, OpFit x → ∀ o ∈ [x], OpFit o := fun x hx o ho => by rw [List.mem_singleton.1 ho]; exact hx
  unfold valOps
  by_cases h8 : kind = 8
  · rw [if_pos h8]; exact one _ fb
  rw [if_neg h8]
  by_cases h9 : kind = 9
  · rw [if_pos h9]; exact one _ ft
  rw [if_neg h9]
  by_cases h12 : kind = 12
  · rw [if_pos h12]; exact one _ ft
  rw [if_neg h12]
  by_cases h2 : kind = 2
  · rw [if_pos h2]
    exact one _ (fit_mk _ _ _ _ _ _ _ (by omega) (by omega) e0 i0 (by omega) hg (fun _ => .inr ⟨rfl, hf h2⟩))
  rw [if_neg h2]
  by_cases h1 : kind = 1
  · rw [if_pos h1]; exact one _ f6
  rw [if_neg h1]
  by_cases h13 : kind = 13
  · rw [if_pos h13]; exact one _ fu
  rw [if_neg h13]
  by_cases h4 : kind = 4
  · rw [if_pos h4]; exact one _ fu
  rw [if_neg h4]
  by_cases h7 : kind = 7
  · rw [if_pos h7]; exact one _ fu
  rw [if_neg h7]
  by_cases h6 : kind = 6
  · rw [if_pos h6]; exact one _ fu
  rw [if_neg h6]
  by_cases h14 : kind = 14
  · rw [if_pos h14]
    by_cases he : (enumOf S type i).toList = []
    · rw [if_pos he]; exact one _ fi
    · rw [if_neg he]; exact one _ fl
  rw [if_neg h14]
  by_cases h11 : kind = 11
  · rw [if_pos h11]
    intro o ho
    rcases List.mem_cons.1 ho with rfl | ho
    · exact fo
    · rcases List.mem_append.1 ho with ho | ho
      · exact hin h11 o ho
      · exact one _ fc o ho
  rw [if_neg h11]
  exact one _ fi
/-- The operations of a message that fits its schema fit. -/
theorem opsM_fit (S : Sch) (hn : NamesOk S) : ∀ (d l : Nat) (t : Int) (fs : List (Int × List PV)), MFits S l t fs → Ranged d fs → ∀ o ∈ opsM S d t fs, OpFit o
  | 0, _, _, _, _, _ => fun o ho => by cases ho
  | d + 1, 0, _, _, h, _ => absurd h (by unfold MFits; exact id)
  | d + 1, l + 1, t, fs, h, hr => by
    intro o ho
    simp only [opsM, List.mem_flatten, List.mem_map] at ho
    obtain ⟨_, ⟨q, hq, rfl⟩, ho⟩ := ho
    unfold fieldOps at ho
    cases hf : ftOf S t q.1 with
    | none => rw [hf] at ho; cases ho
    | some f =>
      rw [hf] at ho
      simp only [List.mem_flatten, List.mem_map] at ho
      obtain ⟨_, ⟨p, hp, rfl⟩, ho⟩ := ho
      unfold ftOf at hf
      obtain ⟨M, hM, hf⟩ := Option.bind_eq_some_iff.1 hf
      obtain ⟨j, hj, hjq⟩ := List.getElem_of_mem hq
      unfold MFits at h
      obtain ⟨_, _, f', hf', _, hv⟩ := h.2.2 M hM j hj
      rw [hjq] at hf' hv
      rw [hf] at hf'
      cases hf'
      obtain ⟨v1, v2, v3, v4⟩ := hv p hp
      have hr2 := hr q hq p hp
      obtain ⟨b, i, u, g, s, msg⟩ := p
      simp only at hr2
      obtain ⟨r1, r2, r3, r4, r5⟩ := hr2
      have hMm : M ∈ S.msgs := List.mem_of_getElem? hM
      have hfm : f ∈ M.fields := List.mem_of_getElem? hf
      have ho : o ∈ nameOp f :: valOps (opsM S d) S f.kind f.type b i u g s msg := ho
      rcases List.mem_cons.1 ho with rfl | ho
      · exact fit_mk _ _ _ _ _ _ _ (by omega) (by omega) (hn.field M hMm f hfm) (by omega) (by omega) (by omega) (fun h => by omega)
      · exact valOps_fit (opsM S d) S hn f.kind f.type b i u g s msg ⟨r1, r2⟩ r3 r4 (Nat.le_trans v1 (by omega)) v4 (fun hk => opsM_fit S hn d l f.type msg (v2 (by rw [hk]; rfl)) r5) o ho
end Go.Proofs.YtmijjppjodpagaaGreatDoor

namespace Go.Proofs.YtmijjppjodpagaaGreatDoor
open Go.RowKit

theorem BytesAt.form' {w : World} {v : Value} {l : List UInt8} (h : BytesAt w v l) (hl : l ≠ []) : ∃ b off c, v = .slice (some ⟨b, off, none⟩) l.length c ∧ l.length ≤ c ∧ c ≤ maxLen := by
  obtain ⟨a, c, rfl, h1, h2, h⟩ := h
  obtain ⟨b, off, rfl, _⟩ := h.resolve_left hl
  exact ⟨b, off, c, rfl, h1, h2⟩

/-- What is read in old blocks was there. -/
theorem BytesAt.back {w w1 : World} {v V : Value} {l l0 : List UInt8} (h : BytesAt w1 V l) (hk : Keeps (fun _ => False) w w1) (hv : BytesAt w v l0) (hi : Within v V) (hl : l ≠ [] → l0 ≠ []) : BytesAt w V l := by
  obtain ⟨a, c, rfl, hc, hm, hx0⟩ := h
  refine ⟨a, c, rfl, hc, hm, ?_⟩
  by_cases h0 : l = []
  · exact .inl h0
  · obtain ⟨b, off, rfl, hx⟩ := hx0.resolve_left h0
    refine .inr ⟨b, off, rfl, fun j hj => ?_⟩
    have hb := hi b rfl
    obtain ⟨b', off', c', rfl, _, _⟩ := hv.form'  (hl h0)
    simp only [Value.ownBlock, Option.some.injEq] at hb
    subst hb
    have hpos : 0 < l0.length := List.length_pos_iff.2 (hl h0)
    have hlt := World.block_lt_of_cell? w _ (hv.cell.2 0 hpos)
    exact (World.cell?_of_block (hk.block b' hlt id)).symm.trans (hx j hj)

set_option maxRecDepth 1000000 in
set_option maxHeartbeats 4000000 in
theorem consumeToken_any (D : Nat) (cur : Array Value) (vo vi : Value) (orig l : List UInt8) (k n : Nat) (at' : Nat) (hn : n ≤ l.length) (w : World) (hrow : w.heap[D]? = some (.cells cur 129 (0, 0)))
    (ho : cur[9]? = some vo) (hin : cur[10]? = some vi) (hvo : BytesAt w vo orig) (hv : BytesAt w vi l) (hs : ∀ r, skip (l.drop n) ≠ 35 :: r) :
    Calls Tryz.prog 114 #[.pointer (some ⟨D, 0, none⟩), .int .u8 k, .int .i64 n, .int .u8 at'] w fun e w' =>
      ∃ raw V pos, e = .returned (.agg #[.int .u8 k, .int .u8 at', .int .u8 0, .int .i64 pos, raw, .string ⟨#[]⟩]) ∧ BytesAt w raw (l.take n) ∧ Within vi raw ∧ BytesAt w V (skip (l.drop n)) ∧ Within vi V ∧ Keeps (fun k => k = D) w w' ∧ w'.heap[D]? = some (.cells (cur.setIfInBounds 10 V) 129 (0, 0)) := by
  have hc9 : w.cell? ⟨D, 9, none⟩ = some vo := (cell_row hrow).trans ho
  have hc10 : w.cell? ⟨D, 10, none⟩ = some vi := (cell_row hrow).trans hin
  obtain ⟨ao, co, rfl, _, _⟩ := hvo.form
  obtain ⟨ai, ci, rfl, hci, hmi⟩ := hv.form
  have h1 := fun w' => run_sto ai l.length ci n (by omega) w'
  have hlt := row_lt hrow
  go_enter Tryz.func114, Tryz.ntmps114
  go_wp2
  go_region
  go_simp
  have hK : ∀ A B, Keeps (fun _ => False) w ((w.alloc A).alloc B).drew := fun A B => (((Keeps.refl _ w).alloc A).alloc B).drew
  go_wp2_with (go_at_call 113; refine (dconsume D cur _ l n hn _ ((hK _ _).row hrow id) hin (hv.keeps (hK _ _) (fun _ _ => id)) hs).mono ?_; rintro e w2 ⟨rfl, V, hb, hi, rfl⟩; obtain ⟨aV, cV, rfl, _, _⟩ := hb.form)
  have hWs : ∀ A, (w.setCell ⟨D, 10, none⟩ A).heap.size = w.heap.size := fun A => by simp
  refine bodyPost_ret (results_cell_row rfl _ _ w.heap.size _ _ (0, 0) _ rfl (by have h := heap_alloc2_old (w.setCell ⟨D, 10, none⟩ (.slice aV (skip (l.drop n)).length cV)); rw [hWs] at h; exact h _ _) Tryz.underlying120 rfl (by kernel_rfl)) rfl ?_
  have hKD : Keeps (fun k => k = D) w (w.setCell ⟨D, 10, none⟩ (.slice aV (skip (l.drop n)).length cV)) := Keeps.setCell (S := fun k => k = D) (Keeps.refl _ w) ⟨D, 10, none⟩ (fun _ => rfl) _
  refine ⟨_, _, _, rfl, hv.take n ci hn (by omega) (Nat.le_refl _), within_len _ _ _ _ _, hb.back (hK _ _) hv hi (fun h1 h2 => h1 (by rw [h2]; simp [skip])), hi, ((hKD.alloc _).alloc _).drew, ?_⟩
  exact (Keeps.row (((Keeps.refl (fun _ => False) _).alloc _).alloc _).drew (setCell_row hrow _) id)
end Go.Proofs.YtmijjppjodpagaaGreatDoor
