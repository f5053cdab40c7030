/-
  SchemaFits of the reference: what it tells of a schema.
-/
import Derived.Test.YtonegoemmologaaGreatDoorM41
import Derived.BigQuiet
import Derived.MapKept
import Derived.Laws.StructEq
import Derived.Deep.QuietTactic
set_option linter.unusedVariables false
set_option linter.unusedSimpArgs false
namespace Go.Proofs.YtonegoemmologaaGreatDoor
open Go.RowKit
def SchOk (S : Sch) : Prop := S.msgs.length ≤ 50 ∧ S.enums.length ≤ 50 ∧ (∀ e ∈ S.enums, e.names.length = e.numbers.length ∧ e.names.length ≤ 50) ∧ ∀ m ∈ S.msgs, m.fields.length ≤ 50 ∧ ∀ f ∈ m.fields, FieldOk S f
def EIn (E : ET) (m j : Nat) : Prop := ∀ i, i < j → (∀ a b, E.names[m]? = some a → E.names[i]? = some b → b ≠ a) ∧ ∀ a b, E.numbers[m]? = some a → E.numbers[i]? = some b → b ≠ a
def EDist (E : ET) (k : Nat) : Prop := ∀ i, i < k → EIn E i i
def FIn (l : List FT) (q j : Nat) : Prop := ∀ i, i < j → ∀ f g, l[q]? = some f → l[i]? = some g → g.name ≠ f.name ∧ g.number ≠ f.number
def FDist (l : List FT) (k : Nat) : Prop := ∀ i, i < k → FIn l i i
def SchDist (S : Sch) : Prop := (∀ e ∈ S.enums, EDist e e.names.length) ∧ ∀ m ∈ S.msgs, FDist m.fields m.fields.length
theorem EIn.succ {E : ET} {m j : Nat} {a b : ByteArray} {x y : Int} (h : EIn E m j) (hm : m < E.names.length) (hm2 : m < E.numbers.length) (hj : j < E.names.length) (hj2 : j < E.numbers.length) (h1 : E.names[m] = a) (h2 : E.names[j] = b) (h3 : E.numbers[m] = x) (h4 : E.numbers[j] = y) (n1 : ¬ b = a) (n2 : ¬ y = x) : EIn E m (j + 1) := by
 intro i hi
 by_cases c : i < j
 · exact h i c
 · obtain rfl : i = j := by omega
   rw [List.getElem?_eq_getElem hm, List.getElem?_eq_getElem hm2, List.getElem?_eq_getElem hj, List.getElem?_eq_getElem hj2, h1, h2, h3, h4]
   exact ⟨fun p q hp hq => by cases hp; cases hq; exact n1, fun p q hp hq => by cases hp; cases hq; exact n2⟩
theorem EDist.succ {E : ET} {m : Nat} (h : EDist E m) (h1 : EIn E m m) : EDist E (m + 1) := by
 intro i hi
 by_cases c : i < m
 · exact h i c
 · obtain rfl : i = m := by omega
   exact h1
theorem FIn.succ {l : List FT} {q j : Nat} {f g : FT} (h : FIn l q j) (hq : q < l.length) (hj : j < l.length) (h1 : l[q] = f) (h2 : l[j] = g) (n1 : ¬ g.name = f.name) (n2 : ¬ g.number = f.number) : FIn l q (j + 1) := by
 intro i hi
 by_cases c : i < j
 · exact h i c
 · obtain rfl : i = j := by omega
   rw [List.getElem?_eq_getElem hq, List.getElem?_eq_getElem hj, h1, h2]
   exact fun p q hp hq => by cases hp; cases hq; exact ⟨n1, n2⟩
theorem FDist.succ {l : List FT} {m : Nat} (h : FDist l m) (h1 : FIn l m m) : FDist l (m + 1) := by
 intro i hi
 by_cases c : i < m
 · exact h i c
 · obtain rfl : i = m := by omega
   exact h1
def EOkUpto (S : Sch) (k : Nat) : Prop := ∀ j (h : j < S.enums.length), j < k → (S.enums[j].names.length = S.enums[j].numbers.length ∧ S.enums[j].names.length ≤ 50) ∧ EDist S.enums[j] S.enums[j].names.length
def FOkUpto (S : Sch) (l : List FT) (k : Nat) : Prop := ∀ j (h : j < l.length), j < k → FieldOk S l[j]
def MOkUpto (S : Sch) (k : Nat) : Prop := ∀ j (h : j < S.msgs.length), j < k → (S.msgs[j].fields.length ≤ 50 ∧ ∀ f ∈ S.msgs[j].fields, FieldOk S f) ∧ FDist S.msgs[j].fields S.msgs[j].fields.length
set_option maxRecDepth 1000000 in
set_option maxHeartbeats 20000000 in
theorem schemaFits_tells (x y : Value) (S : Sch) (w : World) (h : SchAt w x y S) (hzm : ∀ m ∈ S.msgs, MTBound m) (hze : ∀ e ∈ S.enums, ETBound e) :
 Calls Tryz.prog 13 #[.agg #[x, y]] w (Tells w (SchOk S ∧ SchDist S)) := by
 have HH := Lib.hid h
 obtain ⟨a, c, hfv, hca, hma⟩ := h.1.len
 obtain ⟨a2, c2, hfu, hca2, hma2⟩ := h.2.len
 obtain ⟨n, hnn⟩ : ∃ n, S.msgs.length = n := ⟨_, rfl⟩
 obtain ⟨n2, hn2⟩ : ∃ n, S.enums.length = n := ⟨_, rfl⟩
 rw [hnn] at hfv hca
 rw [hn2] at hfu hca2
 subst hfv hfu
 unfold maxLen at hma hma2
 have HN := Lib.hid hnn
 have HN2 := Lib.hid hn2
 have HZM := Lib.hid hzm
 have HZE := Lib.hid hze
 clear h hnn hn2 hzm hze
 obtain ⟨W1, hW1⟩ : ∃ W, w.alloc (.cells #[.slice a n c, .slice a2 n2 c2] 25) = W := ⟨_, rfl⟩
 have HK1 : Hid (Keeps (fun _ => False) w W1) := by show Keeps _ _ _; rw [← hW1]; exact (Keeps.refl _ w).alloc _
 have HR1 : Hid (W1.heap[w.heap.size]? = some (.cells #[.slice a n c, .slice a2 n2 c2] 25 (0, 0))) := by show _ = _; rw [← hW1]; exact heap_alloc_new w _
 have HW1 := Lib.hid hW1
 clear hW1
 by_cases g0 : n = 0
 · subst g0
   go_enter Tryz.func13, Tryz.ntmps13
   go_wp2
   go_ret
   exact Tells.no ((Keeps.refl _ w).alloc _)
 by_cases g1 : (50 : Int) < (n : Int)
 · have g2 : ((n : Int) == 0) = false := by simp; omega
   go_enter Tryz.func13, Tryz.ntmps13
   go_wp2
   go_ret
   exact Tells.no ((Keeps.refl _ w).alloc _)
 have g2 : ((n : Int) == 0) = false := by simp; omega
 by_cases g3 : (50 : Int) < (n2 : Int)
 · go_enter Tryz.func13, Tryz.ntmps13
   go_wp2
   go_ret
   exact Tells.no ((Keeps.refl _ w).alloc _)
 obtain ⟨T, hT⟩ : ∃ T : Prop, (SchOk S ∧ SchDist S) = T := ⟨_, rfl⟩
 have HT := Lib.hid hT
 rw [hT]
 clear hT
 go_enter Tryz.func13, Tryz.ntmps13
 go_wp2_with (fail)
 rw [HW1.out]
 go_loopw [32] (fun i wr => ∃ k : Nat, i = .int .i64 (k : Nat) ∧ k ≤ n2 ∧ Keeps (fun _ => False) W1 wr ∧ EOkUpto S k) (fun i _ => n2 - natOfV i)
 case atStart => exact ⟨0, rfl, Nat.zero_le _, Keeps.refl _ _, fun j _ h => by omega⟩
 case round =>
  obtain ⟨k, rfl, hk, hkw, hall⟩ := hrel
  have HK := Lib.hid hkw
  have HA := Lib.hid hall
  clear hkw hall
  by_cases hlt : k < n2
  · -- one enum
    have t1 : (k : Int) < (n2 : Int) := by omega
    have t0 : (0 : Int) ≤ (k : Int) := by omega
    have hkl : k < S.enums.length := by rw [HN2.out]; exact hlt
    have hE := HH.out.2.keeps (HK1.out.trans HK.out (fun _ _ => id))
    obtain ⟨b, off, rfl, hcell⟩ := hE.cells (by intro e; rw [e] at hkl; simp at hkl)
    obtain ⟨nv, uv, e0, e1, hnv, huv⟩ := hcell k hkl
    have hze := HZE.out _ (List.getElem_mem hkl)
    obtain ⟨E, hEk⟩ : ∃ E, S.enums[k] = E := ⟨_, rfl⟩
    rw [hEk] at hnv huv hze
    have HEK := Lib.hid hEk
    obtain ⟨af, cf, hff, hcf, hmf⟩ := hnv.len
    obtain ⟨p, hp⟩ : ∃ p, E.names.length = p := ⟨_, rfl⟩
    rw [hp] at hff hcf
    subst hff
    obtain ⟨ag, cg, hgg, hcg, hmg⟩ := huv.len
    obtain ⟨q, hq⟩ : ∃ q, E.numbers.length = q := ⟨_, rfl⟩
    rw [hq] at hgg hcg
    subst hgg
    unfold maxLen at hmf hmg
    have HNV := Lib.hid hnv
    have HUV := Lib.hid huv
    have HP := Lib.hid hp
    have HQ := Lib.hid hq
    have HZ := Lib.hid hze
    have hwr : IntKind.i64.wrap ((k : Int) + 1) = ((k + 1 : Nat) : Int) := by rw [IntWalk.i64_in _ (by omega)]; rfl
    clear hcell hE hnv huv hEk hp hq hze
    by_cases p0 : p = 0
    · subst p0
      go_wp2
      go_ret
      exact Tells.no ((HK1.out.trans HK.out (fun _ _ => id)).alloc _)
    have p1 : ((p : Int) == 0) = false := by simp; omega
    by_cases pq : p = q
    · subst pq
      by_cases p50 : (50 : Int) < (p : Int)
      · go_wp2
        go_ret
        exact Tells.no ((HK1.out.trans HK.out (fun _ _ => id)).alloc _)
      · go_wp2_with (fail)
        obtain ⟨wo, hwo⟩ : ∃ wo, wr.alloc (.cells #[.slice af p cf, .slice ag p cg] 56) = wo := ⟨_, rfl⟩
        have HKO : Hid (Keeps (fun _ => False) wr wo) := by show Keeps _ _ _; rw [← hwo]; exact (Keeps.refl _ wr).alloc _
        have HRO : Hid (wo.heap[wr.heap.size]? = some (.cells #[.slice af p cf, .slice ag p cg] 56 (0, 0))) := by show _ = _; rw [← hwo]; exact heap_alloc_new wr _
        rw [hwo]
        obtain ⟨K, hK⟩ : ∃ K, wr.heap.size = K := ⟨_, rfl⟩
        rw [hK] at HRO ⊢
        clear hwo hK e0 e1
        go_loopw [58] (fun i wx => ∃ m : Nat, i = .int .i64 (m : Nat) ∧ m ≤ p ∧ Keeps (fun _ => False) wo wx ∧ EDist E m) (fun i _ => p - natOfV i)
        case atStart => exact ⟨0, rfl, Nat.zero_le _, Keeps.refl _ _, fun i h => by omega⟩
        case round =>
         obtain ⟨m, rfl, hm, hkx, hed⟩ := hrel
         have HX := Lib.hid hkx
         have HED := Lib.hid hed
         clear hed
         have hrx := hkx.row HRO.out id
         have r0 := cell_row (j := 0) hrx
         have r1 := cell_row (j := 1) hrx
         simp at r0 r1
         clear hkx hrx
         by_cases hmt : m < p
         · have u1 : (m : Int) < (p : Int) := by omega
           have u0 : (0 : Int) ≤ (m : Int) := by omega
           have hml : m < E.names.length := by rw [HP.out]; exact hmt
           have hml2 : m < E.numbers.length := by rw [HQ.out]; exact hmt
           obtain ⟨bn, on, rfl, hcn⟩ := (HNV.out.keeps HKO.out).cells (by intro e; rw [e] at hml; simp at hml)
           obtain ⟨bu, ou, rfl, hcu⟩ := (HUV.out.keeps HKO.out).cells (by intro e; rw [e] at hml2; simp at hml2)
           have HCN := Lib.hid hcn
           have HCU := Lib.hid hcu
           have hcm := HX.out.cell (hcn m hml) id
           clear hcn hcu
           have hszm := HZ.out _ (List.getElem_mem hml)
           obtain ⟨s, hs⟩ : ∃ s, E.names[m] = s := ⟨_, rfl⟩
           rw [hs] at hcm hszm
           have hid := ident_tells s hszm
           have hwm : IntKind.i64.wrap ((m : Int) + 1) = ((m + 1 : Nat) : Int) := by rw [IntWalk.i64_in _ (by omega)]; rfl
           have HID := Lib.hid hid
           have HSM := Lib.hid hs
           clear hid hs hszm
           have HALL : Hid (∀ wx, Keeps (fun _ => False) wo wx → Keeps (fun _ => False) w wx) := fun wx h => ((HK1.out.trans HK.out (fun _ _ => id)).trans HKO.out (fun _ _ => id)).trans h (fun _ _ => id)
           go_wp2_with (go_at_call 27; refine (HID.out _).mono ?_; rintro e w2 ⟨b1, rfl, _, k1⟩; have K2 := Lib.hid (HX.out.trans k1 (fun _ _ => id)); clear k1; cases b1)
           · go_ret
             exact Tells.no (HALL.out _ K2.out)
           · go_loopw [67] (fun i wx => ∃ j : Nat, i = .int .i64 (j : Nat) ∧ j ≤ m ∧ Keeps (fun _ => False) wo wx ∧ EIn E m j) (fun i _ => m - natOfV i)
             case atStart => exact ⟨0, rfl, Nat.zero_le _, K2.out, fun i h => by omega⟩
             case round =>
              obtain ⟨j, rfl, hj, hkj, hei⟩ := hrel
              have HJ := Lib.hid hkj
              have HEI := Lib.hid hei
              clear hei
              have hrj := hkj.row HRO.out id
              have g0 := cell_row (j := 0) hrj
              have g1 := cell_row (j := 1) hrj
              simp at g0 g1
              clear hkj hrj hcm r0 r1
              by_cases hjm : j < m
              · have v1 : (j : Int) < (m : Int) := by omega
                have v0 : (0 : Int) ≤ (j : Int) := by omega
                have v2 : (j : Int) < (p : Int) := by omega
                have n1 := HJ.out.cell (HCN.out j (by omega)) id
                have n3 := HJ.out.cell (HCU.out j (by omega)) id
                have n4 := HJ.out.cell (HCU.out m hml2) id
                obtain ⟨sj, hsj⟩ : ∃ s, E.names[j]'(by omega) = s := ⟨_, rfl⟩
                obtain ⟨zj, hzj⟩ : ∃ s, E.numbers[j]'(by omega) = s := ⟨_, rfl⟩
                obtain ⟨zm, hzm⟩ : ∃ s, E.numbers[m]'hml2 = s := ⟨_, rfl⟩
                rw [hsj] at n1
                rw [hzj] at n3
                rw [hzm] at n4
                have hwj : IntKind.i64.wrap ((j : Int) + 1) = ((j + 1 : Nat) : Int) := by rw [IntWalk.i64_in _ (by omega)]; rfl
                have HSJ := Lib.hid hsj
                have HZJ := Lib.hid hzj
                have HZMM := Lib.hid hzm
                clear hsj hzj hzm
                by_cases hss : sj = s
                · subst hss
                  go_wp2_with (fail)
                  go_quiet (fail)
                  go_wp2_with (fail)
                  go_ret
                  exact Tells.no ((HALL.out _ HJ.out).drewN _)
                · have hss1 : (sj == s) = false := by cases hq : (sj == s) with | false => rfl | true => exact absurd ((MapKept.bytes_beq _ _).1 hq) hss
                  have hss2 : (sj.toList == s.toList) = false := by rw [← beq_toListBytes]; exact hss1
                  by_cases hzz : zj = zm
                  · subst hzz
                    go_wp2_with (fail)
                    go_quiet (fail)
                    go_wp2_with (fail)
                    go_ret
                    exact Tells.no ((HALL.out _ HJ.out).drewN _)
                  · have hzz1 : (zj == zm) = false := by simp [hzz]
                    have hzz2 : decide (zj = zm) = false := by simp [hzz]
                    go_wp2_with (fail)
                    go_quiet (fail)
                    go_wp2_with (fail)
                    go_roundw
                    case rel => exact ⟨j + 1, rfl, by omega, HJ.out.drewN _, HEI.out.succ hml hml2 (by omega) (by omega) HSM.out HSJ.out HZMM.out HZJ.out hss hzz⟩
                    case measure => simp [natOfV]; omega
              · have v1 : ¬ (j : Int) < (m : Int) := by omega
                go_wp2_with (fail)
                go_roundw
                case rel => exact ⟨m + 1, rfl, by omega, HJ.out, by obtain rfl : j = m := (by omega); exact HED.out.succ HEI.out⟩
                case measure => simp [natOfV]; omega
         · have u1 : ¬ (m : Int) < (p : Int) := by omega
           have HALL : Hid (∀ wx, Keeps (fun _ => False) wo wx → Keeps (fun _ => False) W1 wx) := fun wx h => (HK.out.trans HKO.out (fun _ _ => id)).trans h (fun _ _ => id)
           go_wp2_with (fail)
           go_roundw
           case rel =>
            refine ⟨k + 1, rfl, by omega, HALL.out _ HX.out, fun j hj hjk => ?_⟩
            by_cases h1 : j < k
            · exact HA.out j hj h1
            · obtain rfl : j = k := by omega
              rw [HEK.out, HP.out, HQ.out]
              exact ⟨⟨rfl, by omega⟩, by obtain rfl : m = p := (by omega); exact HED.out⟩
           case measure => simp [natOfV]; omega
    · have q1 : ((p : Int) != (q : Int)) = true := by simp; omega
      have q2 : ((p : Int) == (q : Int)) = false := by simp; omega
      go_wp2
      go_ret
      exact Tells.no ((HK1.out.trans HK.out (fun _ _ => id)).alloc _)
  · -- all enums
    have t1 : ¬ (k : Int) < (n2 : Int) := by omega
    have HEA : Hid (∀ e ∈ S.enums, (e.names.length = e.numbers.length ∧ e.names.length ≤ 50) ∧ EDist e e.names.length) := by
     intro e he
     obtain ⟨j, hj, rfl⟩ := List.getElem_of_mem he
     exact HA.out j hj (by have := HN2.out; omega)
    have HFin : Hid (MOkUpto S n → T) := by
     intro hm
     rw [← HT.out]
     refine ⟨⟨by have := HN.out; omega, by have := HN2.out; omega, fun e he => (HEA.out e he).1, fun m hmm => ?_⟩, fun e he => (HEA.out e he).2, fun m hmm => ?_⟩
     · obtain ⟨j, hj, rfl⟩ := List.getElem_of_mem hmm
       exact (hm j hj (by have := HN.out; omega)).1
     · obtain ⟨j, hj, rfl⟩ := List.getElem_of_mem hmm
       exact (hm j hj (by have := HN.out; omega)).2
    have HKW : Hid (Keeps (fun _ => False) w wr) := HK1.out.trans HK.out (fun _ _ => id)
    have HRW : Hid (wr.heap[w.heap.size]? = some (.cells #[.slice a n c, .slice a2 n2 c2] 25 (0, 0))) := HK.out.row HR1.out id
    have y0 := cell_row (j := 0) HRW.out
    simp at y0
    clear HA HEA
    go_wp2_with (fail)
    clear y0
    go_loopw [96] (fun i wz => ∃ m : Nat, i = .int .i64 (m : Nat) ∧ m ≤ n ∧ Keeps (fun _ => False) wr wz ∧ MOkUpto S m) (fun i _ => n - natOfV i)
    case atStart => exact ⟨0, rfl, Nat.zero_le _, Keeps.refl _ _, fun j _ h => by omega⟩
    case round =>
     obtain ⟨m, rfl, hm, hkz, hmall⟩ := hrel
     have HKZ : Hid (Keeps (fun _ => False) w wr) := HKW.out.trans hkz (fun _ _ => id)
     have HRZ : Hid (wr.heap[w.heap.size]? = some (.cells #[.slice a n c, .slice a2 n2 c2] 25 (0, 0))) := hkz.row HRW.out id
     have HZ := Lib.hid hkz
     have HMA := Lib.hid hmall
     clear hkz hmall
     by_cases hmn : m < n
     · have t2 : (m : Int) < (n : Int) := by omega
       have t0 : (0 : Int) ≤ (m : Int) := by omega
       have hml : m < S.msgs.length := by rw [HN.out]; exact hmn
       have hM := HH.out.1.keeps HKZ.out
       obtain ⟨b, off, rfl, hcell⟩ := hM.cells (by intro e; rw [e] at hml; simp at hml)
       obtain ⟨fv, e0, e1, hfv⟩ := hcell m hml
       have hzm := HZM.out _ (List.getElem_mem hml)
       obtain ⟨M, hMk⟩ : ∃ M, S.msgs[m] = M := ⟨_, rfl⟩
       rw [hMk] at e0 hfv hzm
       have HMK := Lib.hid hMk
       obtain ⟨mn, hmn'⟩ : ∃ mn, M.name = mn := ⟨_, rfl⟩
       rw [hmn'] at e0
       obtain ⟨af, cf, hff, hcf, hmf⟩ := hfv.len
       obtain ⟨p, hp⟩ : ∃ p, M.fields.length = p := ⟨_, rfl⟩
       rw [hp] at hff hcf
       subst hff
       unfold maxLen at hmf
       have HFV := Lib.hid hfv
       have HP := Lib.hid hp
       have HZB := Lib.hid hzm
       have hwm : IntKind.i64.wrap ((m : Int) + 1) = ((m + 1 : Nat) : Int) := by rw [IntWalk.i64_in _ (by omega)]; rfl
       clear hcell hM hfv hMk hp hzm hmn'
       by_cases p50 : (50 : Int) < (p : Int)
       · go_wp2_with (fail)
         go_ret
         exact Tells.no (HKZ.out.alloc _)
       · go_wp2_with (fail)
         obtain ⟨wo, hwo⟩ : ∃ wo, wr.alloc (.cells #[.string mn, .slice af p cf] 36) = wo := ⟨_, rfl⟩
         have HKO : Hid (Keeps (fun _ => False) wr wo) := by show Keeps _ _ _; rw [← hwo]; exact (Keeps.refl _ wr).alloc _
         have HRO : Hid (wo.heap[wr.heap.size]? = some (.cells #[.string mn, .slice af p cf] 36 (0, 0))) := by show _ = _; rw [← hwo]; exact heap_alloc_new wr _
         rw [hwo]
         obtain ⟨K, hK⟩ : ∃ K, wr.heap.size = K := ⟨_, rfl⟩
         rw [hK] at HRO ⊢
         clear hwo hK e0 e1
         have HRS : Hid (wo.heap[w.heap.size]? = some (.cells #[.slice (some ⟨b, off, none⟩) n c, .slice a2 n2 c2] 25 (0, 0))) := HKO.out.row HRZ.out id
         have HKWO : Hid (Keeps (fun _ => False) w wo) := HKZ.out.trans HKO.out (fun _ _ => id)
         have HFVO := Lib.hid (HFV.out.keeps HKO.out)
         go_loopw [107] (fun i wx => ∃ q : Nat, i = .int .i64 (q : Nat) ∧ q ≤ p ∧ Keeps (fun _ => False) wo wx ∧ FOkUpto S M.fields q ∧ FDist M.fields q) (fun i _ => p - natOfV i)
         case atStart => exact ⟨0, rfl, Nat.zero_le _, Keeps.refl _ _, fun j _ h => by omega, fun j h => by omega⟩
         case round =>
          obtain ⟨q, rfl, hq, hkx, hfall, hfd⟩ := hrel
          have HFD := Lib.hid hfd
          clear hfd
          have HX := Lib.hid hkx
          have HFA := Lib.hid hfall
          clear hkx hfall
          by_cases hqp : q < p
          · have u1 : (q : Int) < (p : Int) := by omega
            have u0 : (0 : Int) ≤ (q : Int) := by omega
            have hql : q < M.fields.length := by rw [HP.out]; exact hqp
            obtain ⟨bf, of, rfl, hcf'⟩ := (HFVO.out.keeps HX.out).cells (by intro e; rw [e] at hql; simp at hql)
            obtain ⟨c0, c1, c2', c3, c4, c5⟩ := hcf' q hql
            have HB := HZB.out _ (List.getElem_mem hql)
            obtain ⟨f, hf⟩ : ∃ f, M.fields[q] = f := ⟨_, rfl⟩
            rw [hf] at c0 c1 c2' c3 c4 c5 HB
            have HCF := Lib.hid hcf'
            have HFQ := Lib.hid hf
            have HKX : Hid (Keeps (fun _ => False) w wr) := HKWO.out.trans HX.out (fun _ _ => id)
            have HFF : Hid (∀ wy, Keeps (fun _ => False) w wy → Calls Tryz.prog 28 #[.agg #[.slice (some ⟨b, off, none⟩) n c, .slice a2 n2 c2], .agg #[.string f.name, .int .i64 f.number, .int .i64 f.kind, .bool f.rep, .bool f.map, .int .i64 f.type]] wy (Tells wy (FieldOk S f))) := fun wy hy => fieldFits_tells f _ _ S wy (HH.out.keeps hy) HB
            obtain ⟨f0, f1, f2, f3, f4, f5⟩ := f
            simp only at c0 c1 c2' c3 c4 c5 HFF
            have hrs := HX.out.row HRS.out id
            have r0 := cell_row (j := 0) hrs
            have r1 := cell_row (j := 1) hrs
            have hwq : IntKind.i64.wrap ((q : Int) + 1) = ((q + 1 : Nat) : Int) := by rw [IntWalk.i64_in _ (by omega)]; rfl
            simp at r0 r1
            clear hcf' hf HB hrs
            go_upto_region 29 with (fail)
            obtain ⟨wb, hwb⟩ : ∃ wb, wr.alloc (.cells #[.string f0, .int .i64 f1, .int .i64 f2, .bool f3, .bool f4, .int .i64 f5] 33) = wb := ⟨_, rfl⟩
            have HKB : Hid (Keeps (fun _ => False) wr wb) := by show Keeps _ _ _; rw [← hwb]; exact (Keeps.refl _ wr).alloc _
            have HRB : Hid (wb.heap[wr.heap.size]? = some (.cells #[.string f0, .int .i64 f1, .int .i64 f2, .bool f3, .bool f4, .int .i64 f5] 33 (0, 0))) := by show _ = _; rw [← hwb]; exact heap_alloc_new wr _
            rw [hwb]
            obtain ⟨KB, hKB⟩ : ∃ KB, wr.heap.size = KB := ⟨_, rfl⟩
            rw [hKB] at HRB ⊢
            clear hwb hKB c0 c1 c2' c3 c4 c5 r0 r1
            have HKXB : Hid (Keeps (fun _ => False) w wb) := HKX.out.trans HKB.out (fun _ _ => id)
            have hrs := HKB.out.row (HX.out.row HRS.out id) id
            have r0 := cell_row (j := 0) hrs
            have r1 := cell_row (j := 1) hrs
            have b0 := cell_row (j := 0) HRB.out
            have b1 := cell_row (j := 1) HRB.out
            have b2 := cell_row (j := 2) HRB.out
            have b3 := cell_row (j := 3) HRB.out
            have b4 := cell_row (j := 4) HRB.out
            have b5 := cell_row (j := 5) HRB.out
            simp at r0 r1 b0 b1 b2 b3 b4 b5
            clear hrs
            go_wp2_with (go_at_call 28; refine (HFF.out _ HKXB.out).mono ?_; rintro e w2 ⟨b1, rfl, hb1, k1⟩; have K2 := Lib.hid k1; have HB1 := Lib.hid hb1; clear k1 hb1; cases b1)
            · go_ret
              exact Tells.no (HKXB.out.trans K2.out (fun _ _ => id))
            · have HOK := Lib.hid (HB1.out trivial)
              have HKOX : Hid (Keeps (fun _ => False) wo w2) := (HX.out.trans HKB.out (fun _ _ => id)).trans K2.out (fun _ _ => id)
              have HRB2 := Lib.hid (K2.out.row HRB.out id)
              have HRO2 := Lib.hid (HKOX.out.row HRO.out id)
              clear r0 r1 b0 b1 b2 b3 b4 b5 HB1
              go_loopw [117] (fun i wx => ∃ j : Nat, i = .int .i64 (j : Nat) ∧ j ≤ q ∧ Keeps (fun _ => False) w2 wx ∧ FIn M.fields q j) (fun i _ => q - natOfV i)
              case atStart => exact ⟨0, rfl, Nat.zero_le _, Keeps.refl _ _, fun i h => by omega⟩
              case round =>
               obtain ⟨j, rfl, hj, hkj, hfi⟩ := hrel
               have HJ := Lib.hid hkj
               have HFI := Lib.hid hfi
               clear hfi
               have hrb := HJ.out.row HRB2.out id
               have b0 := cell_row (j := 0) hrb
               have b1 := cell_row (j := 1) hrb
               have hro := HJ.out.row HRO2.out id
               have o1 := cell_row (j := 1) hro
               have HKJ : Hid (Keeps (fun _ => False) wo wr) := HKOX.out.trans HJ.out (fun _ _ => id)
               simp at b0 b1 o1
               clear hkj hrb hro
               by_cases hjm : j < q
               · have v1 : (j : Int) < (q : Int) := by omega
                 have v0 : (0 : Int) ≤ (j : Int) := by omega
                 have v2 : (j : Int) < (p : Int) := by omega
                 obtain ⟨n0, n1, _, _, _, _⟩ := HCF.out j (by omega)
                 have n0 := (HKB.out.trans (K2.out.trans HJ.out (fun _ _ => id)) (fun _ _ => id)).cell n0 id
                 have n1 := (HKB.out.trans (K2.out.trans HJ.out (fun _ _ => id)) (fun _ _ => id)).cell n1 id
                 obtain ⟨sj, hsj⟩ : ∃ s, (M.fields[j]'(by omega)).name = s := ⟨_, rfl⟩
                 obtain ⟨zj, hzj⟩ : ∃ s, (M.fields[j]'(by omega)).number = s := ⟨_, rfl⟩
                 rw [hsj] at n0
                 rw [hzj] at n1
                 have hwj : IntKind.i64.wrap ((j : Int) + 1) = ((j + 1 : Nat) : Int) := by rw [IntWalk.i64_in _ (by omega)]; rfl
                 have HSJ := Lib.hid hsj
                 have HZJ := Lib.hid hzj
                 clear hsj hzj
                 by_cases hss : sj = f0
                 · subst hss
                   go_wp2_with (fail)
                   go_quiet (fail)
                   go_wp2_with (fail)
                   go_ret
                   exact Tells.no ((HKWO.out.trans HKJ.out (fun _ _ => id)).drewN _)
                 · have hss1 : (sj == f0) = false := by cases hq : (sj == f0) with | false => rfl | true => exact absurd ((MapKept.bytes_beq _ _).1 hq) hss
                   have hss2 : (sj.toList == f0.toList) = false := by rw [← beq_toListBytes]; exact hss1
                   by_cases hzz : zj = f1
                   · subst hzz
                     go_wp2_with (fail)
                     go_quiet (fail)
                     go_wp2_with (fail)
                     go_ret
                     exact Tells.no ((HKWO.out.trans HKJ.out (fun _ _ => id)).drewN _)
                   · have hzz1 : (zj == f1) = false := by simp [hzz]
                     have hzz2 : decide (zj = f1) = false := by simp [hzz]
                     go_wp2_with (fail)
                     go_quiet (fail)
                     go_wp2_with (fail)
                     go_roundw
                     case rel => exact ⟨j + 1, rfl, by omega, HJ.out.drewN _, HFI.out.succ hql (by omega) HFQ.out rfl (by rw [HSJ.out]; exact hss) (by rw [HZJ.out]; exact hzz)⟩
                     case measure => simp [natOfV]; omega
               · have v1 : ¬ (j : Int) < (q : Int) := by omega
                 go_wp2_with (fail)
                 go_roundw
                 case rel =>
                  refine ⟨q + 1, rfl, by omega, HKJ.out, fun i hi hiq => ?_, by obtain rfl : j = q := (by omega); exact HFD.out.succ HFI.out⟩
                  by_cases h1 : i < q
                  · exact HFA.out i hi h1
                  · obtain rfl : i = q := by omega
                    rw [HFQ.out]
                    exact HOK.out
                 case measure => simp [natOfV]; omega
          · have u1 : ¬ (q : Int) < (p : Int) := by omega
            have HALL : Hid (Keeps (fun _ => False) wo wr) := HX.out
            go_wp2_with (fail)
            go_roundw
            case rel =>
             refine ⟨m + 1, rfl, by omega, (HZ.out.trans HKO.out (fun _ _ => id)).trans HALL.out (fun _ _ => id), fun j hj hjm => ?_⟩
             by_cases h1 : j < m
             · exact HMA.out j hj h1
             · obtain rfl : j = m := by omega
               rw [HMK.out]
               refine ⟨⟨by have := HP.out; omega, fun f hf => ?_⟩, by rw [HP.out]; obtain rfl : q = p := (by omega); exact HFD.out⟩
               obtain ⟨i, hi, rfl⟩ := List.getElem_of_mem hf
               exact HFA.out i hi (by have := HP.out; omega)
            case measure => simp [natOfV]; omega
     · have t2 : ¬ (m : Int) < (n : Int) := by omega
       have HEnd : Hid T := HFin.out fun j hj _ => HMA.out j hj (by have := HN.out; omega)
       go_wp2_with (fail)
       go_ret
       exact Tells.yes HEnd.out HKZ.out
end Go.Proofs.YtonegoemmologaaGreatDoor
