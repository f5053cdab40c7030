/-
  bulk, MessageFits, fits: what the law's own guard tells of a message.
  enumName of the laws: the name of an enum's number, a function of the enum and the number.
  defaultOf: a value as the thin package has it.
-/
import Derived.Test.YtonegoemmologaaGreatDoorM45
import Derived.Deep.RegionHeld3
import Derived.Deep.DeepCutAuto
import Derived.Test.YtonegoemmologaaGreatDoorM27
set_option linter.unusedVariables false
set_option linter.unusedSimpArgs false
namespace Go.Proofs.YtonegoemmologaaGreatDoor
open Go.RowKit
def SomeInt (w : World) (e : Ending) (w' : World) : Prop := ∃ r : Int, e = .returned (.int .i64 r) ∧ Keeps (fun _ => False) w w'
theorem Keeps.of_drew {S : Nat → Prop} {w w' : World} (h : Keeps S w.drew w') : Keeps S w w' := ((Keeps.refl S w).drew).trans h (fun _ _ h => h)
def BulkSay (d : Nat) : Prop := ∀ (w : World) (v : Value) (fs : List (Int × List PV)), MsgAt w d v fs → Calls Tryz.prog 15 #[v] w (SomeInt w)
set_option maxRecDepth 1000000 in
set_option maxHeartbeats 20000000 in
theorem bulk_succ (d : Nat) (ih : BulkSay d) : BulkSay (d + 1) := by
 intro w v fs hm
 have HI := Lib.hid ih
 clear ih
 obtain ⟨ag, cg, rfl, hcg, hmg⟩ := hm.len
 obtain ⟨nf, hnf⟩ : ∃ n, fs.length = n := ⟨_, rfl⟩
 rw [hnf] at hcg hm ⊢
 unfold maxLen at hmg
 have HNF := Lib.hid hnf
 have HM := Lib.hid hm
 clear hnf hm
 go_enter Tryz.func15, Tryz.ntmps15
 go_wp2_with (fail)
 go_loopw [3, 10] (fun s i wr => ∃ (k : Nat) (z : Int), s = .int .i64 z ∧ i = .int .i64 (k : Nat) ∧ k ≤ nf ∧ Keeps (fun _ => False) w wr) (fun _ i _ => nf - natOfV i)
 case atStart => exact ⟨0, 0, rfl, rfl, by omega, Keeps.refl _ _⟩
 case round =>
  obtain ⟨k, z, rfl, rfl, hk, hkk⟩ := hrel
  have HX := Lib.hid hkk
  clear hkk
  by_cases hlt : k < nf
  · have t1 : (k : Int) < (nf : Int) := by omega
    have t0 : (0 : Int) ≤ (k : Int) := by omega
    have hkl : k < fs.length := by rw [HNF.out]; exact hlt
    obtain ⟨b2, off2, rfl, hc2⟩ := HM.out.cells (by intro e; rw [e] at hkl; simp at hkl)
    obtain ⟨vv, q0, q1, hvv⟩ := hc2 k hkl
    obtain ⟨Q, hQ⟩ : ∃ Q, fs[k] = Q := ⟨_, rfl⟩
    rw [hQ] at q0 hvv
    obtain ⟨q, ps⟩ := Q
    simp only at q0 hvv
    obtain ⟨av, cv, rfl, hcv, hmv⟩ := hvv.len
    obtain ⟨r, hr⟩ : ∃ r, ps.length = r := ⟨_, rfl⟩
    rw [hr] at hcv q1 hvv
    unfold maxLen at hmv
    have q0 := HX.out.cell q0 id
    have q1 := HX.out.cell q1 id
    have HVV := Lib.hid hvv
    have HR := Lib.hid hr
    have hwk : IntKind.i64.wrap ((k : Int) + 1) = ((k + 1 : Nat) : Int) := by rw [IntWalk.i64_in _ (by omega)]; rfl
    clear hc2 hvv hr hQ
    go_wp2_with (fail)
    obtain ⟨W3, hW3⟩ : ∃ W, (wr.alloc (.cells #[.int .i64 q, .slice av r cv] 31)) = W := ⟨_, rfl⟩
    have hK3 : Keeps (fun _ => False) wr W3 := by rw [← hW3]; exact (Keeps.refl _ wr).alloc _
    rw [hW3]
    have HK3 : Hid (Keeps (fun _ => False) w W3) := HX.out.trans hK3 (fun _ _ h => h)
    clear hW3 hK3 q0 q1
    go_loopw [3, 17] (fun s i wx => ∃ (j : Nat) (z : Int), s = .int .i64 z ∧ i = .int .i64 (j : Nat) ∧ j ≤ r ∧ Keeps (fun _ => False) W3 wx) (fun _ i _ => r - natOfV i)
    case atStart => exact ⟨0, _, rfl, rfl, Nat.zero_le _, Keeps.refl _ _⟩
    case round =>
     obtain ⟨j, z, rfl, rfl, hj, hkx⟩ := hrel
     have HJ := Lib.hid hkx
     clear hkx
     have HJW : Hid (Keeps (fun _ => False) w wr) := HK3.out.trans HJ.out (fun _ _ h => h)
     by_cases hjr : j < r
     · have u2 : (j : Int) < (r : Int) := by omega
       have u3 : (0 : Int) ≤ (j : Int) := by omega
       have hjl : j < ps.length := by rw [HR.out]; exact hjr
       obtain ⟨bv, ov, rfl, hcv2⟩ := HVV.out.cells (by intro e; rw [e] at hjl; simp at hjl)
       obtain ⟨PP, hP⟩ : ∃ PP, ps[j] = PP := ⟨_, rfl⟩
       obtain ⟨bb, i, u, g, s, m⟩ := PP
       obtain ⟨am, cm, y0, y1, y2, y3, y4, y5, hm5⟩ := hcv2 j hjl bb i u g s m hP
       have v0 := HJW.out.cell y0 id
       have v1 := HJW.out.cell y1 id
       have v2 := HJW.out.cell y2 id
       have v3 := HJW.out.cell y3 id
       have v4 := HJW.out.cell y4 id
       have v5 := HJW.out.cell y5 id
       obtain ⟨nm, hnm⟩ : ∃ n, m.length = n := ⟨_, rfl⟩
       have HM5 := Lib.hid hm5
       rw [hnm] at v5 HM5
       have hwj : IntKind.i64.wrap ((j : Int) + 1) = ((j + 1 : Nat) : Int) := by rw [IntWalk.i64_in _ (by omega)]; rfl
       clear hP hm5 hnm hcv2 y0 y1 y2 y3 y4 y5
       go_upto_region 8 with (fail)
       obtain ⟨W5, hW5⟩ : ∃ W, (wr.alloc (.cells #[.bool bb, .int .i64 i, .int .u64 (u : Int), .int .u64 (g : Int), .string s, .slice am nm cm] 39)) = W := ⟨_, rfl⟩
       have hK5 : Keeps (fun _ => False) wr W5 := by rw [← hW5]; exact (Keeps.refl _ wr).alloc _
       have hp5 : W5.heap[wr.heap.size]? = some (.cells #[.bool bb, .int .i64 i, .int .u64 (u : Int), .int .u64 (g : Int), .string s, .slice am nm cm] 39 (0, 0)) := by rw [← hW5]; exact heap_alloc_new wr _
       rw [hW5]
       obtain ⟨KV, hKV⟩ : ∃ KV, wr.heap.size = KV := ⟨_, rfl⟩
       rw [hKV] at hp5 ⊢
       have HK5 := Lib.hid hK5
       have p4 := cell_row (j := 4) hp5
       have p5 := cell_row (j := 5) hp5
       simp at p4 p5
       have HS : Hid (∀ w', Keeps (fun _ => False) W5 w' → w'.cell? ⟨KV, 4, none⟩ = some (.string s) ∧ w'.cell? ⟨KV, 5, none⟩ = some (.slice am nm cm)) := fun w' h => ⟨h.cell p4 id, h.cell p5 id⟩
       have HMW : Hid (∀ wx, Keeps (fun _ => False) W5 wx → MsgAt wx d (.slice am nm cm) m) := fun wx h => (HM5.out.keeps (HJW.out.trans (HK5.out.trans h (fun _ _ h => h)) (fun _ _ h => h)))
       clear hW5 hK5 hKV hp5 v0 v1 v2 v3 v4 v5 p4 p5
       go_region_held3 (fun w' => w'.cell? ⟨KV, 4, none⟩ = some (.string s) ∧ w'.cell? ⟨KV, 5, none⟩ = some (.slice am nm cm)) ((exact HS.out _ (by repeat (first | exact Keeps.refl _ _ | assumption | (exact Keeps.of_drew (by assumption)) | apply Keeps.alloc | apply Keeps.drew))))
        ((go_at_call 15; refine (HI.out _ _ m (HMW.out _ (by repeat (first | exact Keeps.refl _ _ | assumption | (exact Keeps.of_drew (by assumption)) | apply Keeps.alloc | apply Keeps.drew)))).mono ?_; rintro e w6 ⟨r6, rfl, k6⟩))
       go_wp2_with (fail)
       go_roundw
       case rel => exact ⟨j + 1, _, rfl, rfl, by omega, ((HJ.out.trans HK5.out (fun _ _ h => h)).trans (Keeps.of_drew k6) (fun _ _ h => h))⟩
       case measure => simp [natOfV]; omega
     · have u2 : ¬ (j : Int) < (r : Int) := by omega
       go_wp2_with (fail)
       go_roundw
       case rel => exact ⟨k + 1, _, rfl, rfl, by omega, HJW.out⟩
       case measure => simp [natOfV]; omega
  · have t1 : ¬ (k : Int) < (nf : Int) := by omega
    go_wp2_with (fail)
    go_ret
    exact ⟨_, rfl, HX.out⟩
theorem bulk_any : ∀ d, BulkSay d
 | 0 => fun _ _ _ h => absurd h (by unfold MsgAt; exact id)
 | d + 1 => bulk_succ d (bulk_any d)
theorem fits_any (x y : Value) (S : Sch) (w0 : World) (L : Nat) (hsch : SchAt w0 x y S) (hL0 : w0.heap.size ≤ L) : ∀ l, l ≤ 20 → FitsSay x y S w0 L l
 | 0, _ => fits_zero x y S w0 L hsch
 | l + 1, hl => fits_succ x y S w0 L hsch l (by omega) hL0 (fits_any x y S w0 L hsch hL0 l (by omega))
def MsgGood (S : Sch) (t : Int) (d : Nat) (fs : List (Int × List PV)) : Prop := MFits S 20 t fs ∧ cntM d fs ≤ 2000
set_option maxRecDepth 1000000 in
set_option maxHeartbeats 20000000 in
theorem messageFits_tells (x y : Value) (S : Sch) (w : World) (hsch : SchAt w x y S) (t : Int) (v : Value) (fs : List (Int × List PV)) (d : Nat) (hm : MsgAt w d v fs) (hbd : MBound d fs) :
 Calls Tryz.prog 14 #[.agg #[x, y], .int .i64 t, v] w (Tells w (MsgGood S t d fs)) := by
 obtain ⟨W0, hW0⟩ : ∃ W, w.alloc (.cells #[x, y] 25) = W := ⟨_, rfl⟩
 have hk0 : Keeps (fun _ => False) w W0 := by rw [← hW0]; exact (Keeps.refl _ w).alloc _
 have hr0 : W0.heap[w.heap.size]? = some (.cells #[x, y] 25 (0, 0)) := by rw [← hW0]; exact heap_alloc_new w _
 obtain ⟨W1, hW1⟩ : ∃ W, W0.alloc (.cells #[.int .i64 2000] 3) = W := ⟨_, rfl⟩
 have hk1 : Keeps (fun _ => False) W0 W1 := by rw [← hW1]; exact (Keeps.refl _ W0).alloc _
 have hr1 : W1.heap[W0.heap.size]? = some (.cells #[.int .i64 2000] 3 (0, 0)) := by rw [← hW1]; exact heap_alloc_new W0 _
 have hr2 := hk1.row hr0 id
 have hsz : w.heap.size ≤ W0.heap.size := hk0.size
 have hszL : W0.heap.size = w.heap.size + 1 := by rw [← hW0]; simp
 have HF := Lib.hid ((fits_any x y S W0 W0.heap.size (hsch.keeps hk0) (Nat.le_refl _) 20 (Nat.le_refl _)) W1 t v fs d 2000 hk1 (hm.keeps hk0) hbd hr1 (by omega) (by omega))
 obtain ⟨L, hL⟩ : ∃ L, W0.heap.size = L := ⟨_, rfl⟩
 rw [hL] at HF hr1 hsz
 have e0 := cell_row (j := 0) hr2
 have e1 := cell_row (j := 1) hr2
 simp at e0 e1
 have HW0 := Lib.hid hW0
 have HW1 := Lib.hid hW1
 have HK : Hid (Keeps (fun _ => False) w W1) := hk0.trans hk1 (fun _ _ h => h)
 have HL := Lib.hid hL
 have HSZ := Lib.hid hsz
 have HSZL := Lib.hid hszL
 clear hW0 hW1 hk0 hk1 hr0 hr1 hr2 hsch hm hbd hL hsz hszL
 go_enter Tryz.func14, Tryz.ntmps14
 go_upto_region 2 with (fail)
 rw [HW0.out, HW1.out]
 have hL2 : w.heap.size + 1 = L := by rw [← HSZL.out, HL.out]
 rw [hL2]
 clear hL2
 go_wp2_with (go_at_call 29; refine HF.out.mono ?_; rintro e w6 ⟨b6, l6, rfl, k6, r6, x1, x2, x3⟩; have K6 := Lib.hid k6; have X3 := Lib.hid x3; clear k6 r6 x3)
 go_ret
 exact ⟨b6, rfl, fun h => ⟨(X3.out h).1, by have := (X3.out h).2; omega⟩, HK.out.trans K6.out (fun i hi e => by have := HSZ.out; omega)⟩
set_option maxRecDepth 1000000 in
set_option maxHeartbeats 20000000 in
theorem lawFits_all (x y : Value) (S : Sch) (w : World) (hsch : SchAt w x y S) (hzm : ∀ m ∈ S.msgs, MTBound m) (hze : ∀ e ∈ S.enums, ETBound e) (t : Int) (v : Value) (fs : List (Int × List PV)) (d : Nat) (hm : MsgAt w d v fs) (hbd : MBound d fs) :
 Calls Tryz.prog 5 #[.agg #[x, y], .int .i64 t, v] w (Tells w ((SchOk S ∧ SchDist S) ∧ MsgGood S t d fs)) := by
 obtain ⟨T1, hT1⟩ : ∃ T, (SchOk S ∧ SchDist S) = T := ⟨_, rfl⟩
 obtain ⟨T2, hT2⟩ : ∃ T, MsgGood S t d fs = T := ⟨_, rfl⟩
 obtain ⟨T3, hT3⟩ : ∃ T, (T1 ∧ T2) = T := ⟨_, rfl⟩
 have H1 : Hid (∀ w', Keeps (fun _ => False) w w' → Calls Tryz.prog 13 #[.agg #[x, y]] w' (Tells w' T1)) := fun w' hk => by rw [← hT1]; exact schemaFits_tells x y S w' (hsch.keeps hk) hzm hze
 have H2 : Hid (∀ w', Keeps (fun _ => False) w w' → Calls Tryz.prog 14 #[.agg #[x, y], .int .i64 t, v] w' (Tells w' T2)) := fun w' hk => by rw [← hT2]; exact messageFits_tells x y S w' (hsch.keeps hk) t v fs d (hm.keeps hk) hbd
 have H3 : Hid (∀ w', Keeps (fun _ => False) w w' → Calls Tryz.prog 15 #[v] w' (SomeInt w')) := fun w' hk => bulk_any d w' v fs (hm.keeps hk)
 have HT3 : Hid (T1 → T2 → T3) := fun h1 h2 => by rw [← hT3]; exact ⟨h1, h2⟩
 rw [hT1, hT2, hT3]
 clear hT1 hT2 hT3 hsch hm hbd hzm hze
 obtain ⟨W0, hW0⟩ : ∃ W, w.alloc (.cells #[x, y] 25) = W := ⟨_, rfl⟩
 have hk0 : Keeps (fun _ => False) w W0 := by rw [← hW0]; exact (Keeps.refl _ w).alloc _
 have hr0 : W0.heap[w.heap.size]? = some (.cells #[x, y] 25 (0, 0)) := by rw [← hW0]; exact heap_alloc_new w _
 have HR0 := Lib.hid hr0
 have HK0 := Lib.hid hk0
 have HW0 := Lib.hid hW0
 have e0 := cell_row (j := 0) hr0
 have e1 := cell_row (j := 1) hr0
 simp at e0 e1
 clear hW0 hk0 hr0
 go_enter Tryz.func5, Tryz.ntmps5
 go_upto_region 1 with (fail)
 rw [HW0.out]
 obtain ⟨K, hK⟩ : ∃ K, w.heap.size = K := ⟨_, rfl⟩
 rw [hK] at e0 e1 HR0 ⊢
 clear hK
 go_wp2_with (first
  | (go_at_call 13; refine (H1.out _ HK0.out).mono ?_; rintro e w6 ⟨b6, rfl, x6, k6⟩; have X6 := Lib.hid x6; have e0 := k6.cell e0 id; have e1 := k6.cell e1 id; have K6 : Hid (Keeps (fun _ => False) w w6) := HK0.out.trans k6 (fun _ _ h => h); clear x6 k6; cases b6)
  | (go_at_call 14; refine (H2.out _ K6.out).mono ?_; rintro e w7 ⟨b7, rfl, x7, k7⟩; have X7 := Lib.hid x7; have K7 : Hid (Keeps (fun _ => False) w w7) := K6.out.trans k7 (fun _ _ h => h); clear x7 k7; cases b7)
  | (go_at_call 15; refine (H3.out _ K7.out).mono ?_; rintro e w8 ⟨r8, rfl, k8⟩; have K8 : Hid (Keeps (fun _ => False) w w8) := K7.out.trans k8 (fun _ _ h => h); clear k8; by_cases hr8 : r8 ≤ 65536))
 all_goals go_ret
 all_goals first
  | exact Tells.no K6.out
  | exact Tells.no K7.out
  | exact ⟨_, rfl, fun _ => HT3.out (X6.out (by first | rfl | trivial)) (X7.out (by first | rfl | trivial)), K8.out⟩
end Go.Proofs.YtonegoemmologaaGreatDoor
namespace Go.Proofs.YtonegoemmologaaGreatDoor
open Go.RowKit
def enumN : List Int → List ByteArray → Int → ByteArray
 | x :: xs, nm :: nms, n => if (wrap64 x == n) = true then nm else enumN xs nms n
 | _, _, _ => ⟨#[]⟩
theorem enumN_at (xs : List Int) (nms : List ByteArray) (n : Int) (j : Nat) (h : j < xs.length) (h' : j < nms.length) : enumN (xs.drop j) (nms.drop j) n = if (wrap64 xs[j] == n) = true then nms[j] else enumN (xs.drop (j + 1)) (nms.drop (j + 1)) n := by
 rw [List.drop_eq_getElem_cons h, List.drop_eq_getElem_cons h']
 rfl
theorem enumN_end (xs : List Int) (nms : List ByteArray) (n : Int) (j : Nat) (h : xs.length ≤ j) : enumN (xs.drop j) (nms.drop j) n = ⟨#[]⟩ := by
 rw [List.drop_eq_nil_of_le h]
 rfl
set_option maxRecDepth 1000000 in
set_option maxHeartbeats 20000000 in
theorem enumName_any (nv uv : Value) (names : List ByteArray) (numbers : List Int) (hl : names.length = numbers.length) (n : Int) (w : World) (h1 : StrRows w nv names) (h2 : I32Rows w uv numbers) :
 Calls Tryz.prog 16 #[.agg #[nv, uv], .int .i64 n] w fun e w' => e = .returned (.string (enumN numbers names n)) ∧ Keeps (fun _ => False) w w' := by
 obtain ⟨a, c, rfl, hca, hma⟩ := h1.len
 obtain ⟨a2, c2, rfl, hca2, hma2⟩ := h2.len
 obtain ⟨N, hN⟩ : ∃ n, numbers.length = n := ⟨_, rfl⟩
 rw [hl] at h1 hca ⊢
 rw [hN] at hca hca2 h1 h2 ⊢
 have hlN : names.length = N := by rw [hl, hN]
 have HN := Lib.hid hN
 have HLN := Lib.hid hlN
 have H1 := Lib.hid h1
 have H2 := Lib.hid h2
 unfold maxLen at hma hma2
 obtain ⟨r, hr⟩ : ∃ r, enumN numbers names n = r := ⟨_, rfl⟩
 rw [hr]
 have HR := Lib.hid hr
 clear hl hN hlN h1 h2 hr
 obtain ⟨W1, hW1⟩ : ∃ W, w.alloc (.cells #[.slice a N c, .slice a2 N c2] 56) = W := ⟨_, rfl⟩
 have hk1 : Keeps (fun _ => False) w W1 := by rw [← hW1]; exact (Keeps.refl _ w).alloc _
 have r1 : W1.heap[w.heap.size]? = some (.cells #[.slice a N c, .slice a2 N c2] 56 (0, 0)) := by rw [← hW1]; exact heap_alloc_new w _
 have e0 := cell_row (j := 0) r1
 have e1 := cell_row (j := 1) r1
 simp at e0 e1
 have HW1 := Lib.hid hW1
 have HK1 := Lib.hid hk1
 have HE0 := Lib.hid e0
 clear hW1 hk1 r1
 go_enter Tryz.func16, Tryz.ntmps16
 go_upto_region 1 with (fail)
 rw [HW1.out]
 obtain ⟨K, hK⟩ : ∃ K, w.heap.size = K := ⟨_, rfl⟩
 rw [hK] at e0 e1 HE0 ⊢
 clear hK HW1
 go_wp2_with (fail)
 clear e0 e1
 go_loopw [10] (fun i wr => ∃ j : Nat, i = .int .i64 (j : Int) ∧ j ≤ N ∧ enumN (numbers.drop j) (names.drop j) n = r ∧ Keeps (fun _ => False) W1 wr) (fun i _ => N - natOfV i)
 case atStart => exact ⟨0, rfl, Nat.zero_le _, HR.out, Keeps.refl _ _⟩
 case round =>
  obtain ⟨j, rfl, hj, hen, hkk⟩ := hrel
  have HEN := Lib.hid hen
  have HK := Lib.hid hkk
  have HKW : Hid (Keeps (fun _ => False) w wr) := HK1.out.trans HK.out (fun _ _ h => h)
  clear hen hkk
  by_cases hlt : j < N
  · have t1 : (j : Int) < (N : Int) := by omega
    have t0 : (0 : Int) ≤ (j : Int) := by omega
    have hwj : IntKind.i64.wrap ((j : Int) + 1) = ((j + 1 : Nat) : Int) := by rw [IntWalk.i64_in _ (by omega)]; rfl
    have hjl : j < numbers.length := by rw [HN.out]; exact hlt
    have hjn : j < names.length := by rw [HLN.out]; exact hlt
    obtain ⟨b, off, rfl, hc⟩ := StrRows.cells H1.out (by intro e; rw [e] at hjn; simp at hjn)
    obtain ⟨b2, off2, rfl, hc2⟩ := I32Rows.cells H2.out (by intro e; rw [e] at hjl; simp at hjl)
    have d0 := HKW.out.cell (hc j hjn) id
    have d1 := HKW.out.cell (hc2 j hjl) id
    have d2 := HK.out.cell HE0.out id
    have hstep := enumN_at numbers names n j hjl hjn
    obtain ⟨X, hX⟩ : ∃ X, numbers[j] = X := ⟨_, rfl⟩
    obtain ⟨Y, hY⟩ : ∃ Y, names[j] = Y := ⟨_, rfl⟩
    rw [hX] at d1
    rw [hY] at d0
    rw [hX, hY] at hstep
    have HST := Lib.hid hstep
    clear hc hc2 hX hY hstep
    by_cases hq : (wrap64 X == n) = true
    · have hres : Y = r := by rw [← HEN.out, HST.out, if_pos hq]
      go_wp2_with (fail)
      go_ret
      first | exact ⟨rfl, HKW.out⟩ | exact ⟨by rw [hres], HKW.out⟩
    · have hq' : (wrap64 X == n) = false := by simpa using hq
      have hres : enumN (numbers.drop (j + 1)) (names.drop (j + 1)) n = r := by rw [← HEN.out, HST.out, if_neg hq]
      have HRES := Lib.hid hres
      clear hres hq
      go_wp2_with (fail)
      go_roundw
      case rel => exact ⟨j + 1, rfl, by omega, HRES.out, HK.out⟩
      case measure => simp [natOfV]; omega
  · have t1 : ¬ (j : Int) < (N : Int) := by omega
    have hres : r = ⟨#[]⟩ := by rw [← HEN.out]; exact enumN_end numbers names n j (by rw [HN.out]; omega)
    go_wp2_with (fail)
    go_ret
    first | exact ⟨rfl, HKW.out⟩ | exact ⟨by rw [hres], HKW.out⟩
end Go.Proofs.YtonegoemmologaaGreatDoor
namespace Go.Proofs.YtonegoemmologaaGreatDoor
open Go.RowKit
theorem results_cell_3 {fn : Func} {p q r s : Tmp} {ty : TypeId} (h : fn.results = #[.cell p ty, .tmp q, .tmp r, .tmp s]) (tmps : Array Value) (w : World) (g : Nat) (hp : tmps.getD p undef = .pointer (some ⟨g, 0, none⟩)) {v : Value}
 (hv : (loadVar ty ⟨g, 0, none⟩).run Tryz.prog w = .ok v w) : (results fn tmps).run Tryz.prog w = .ok (.tuple #[v, tmps.getD q undef, tmps.getD r undef, tmps.getD s undef]) w := by
 have hp' : tmps[p]?.getD undef = .pointer (some ⟨g, 0, none⟩) := by simpa using hp
 simp [results, h, hp', asAddr, hv]
theorem box4 (w : World) (o1 o2 o3 o4 : Obj) : ((((w.alloc o1).alloc o2).alloc o3).alloc o4).heap[w.heap.size + 3]? = some o4 := by
 have hs : ∀ (w : World) (o : Obj), (w.alloc o).heap.size = w.heap.size + 1 := fun w o => by show (w.heap.push o).size = _; rw [Array.size_push]
 have h : (((w.alloc o1).alloc o2).alloc o3).heap.size = w.heap.size + 3 := by rw [hs, hs, hs]
 rw [← h]
 exact heap_alloc_new _ _
set_option maxRecDepth 1000000 in
set_option maxHeartbeats 8000000 in
theorem defaultOf_plain (a1 a2 am : Option Addr) (n1 c1 n2 c2 nm cm : Nat) (nme : ByteArray) (num k ty : Int) (rep mp b : Bool) (i u f : Int) (s : ByteArray) (h11 : (k == 11) = false) (h14 : (k == 14) = false) (w : World) :
 Calls Tryz.prog 6 #[.agg #[.slice a1 n1 c1, .slice a2 n2 c2], .agg #[.string nme, .int .i64 num, .int .i64 k, .bool rep, .bool mp, .int .i64 ty], .agg #[.bool b, .int .i64 i, .int .u64 u, .int .u64 f, .string s, .slice am nm cm]] w fun en w' =>
  en = .returned (.tuple #[.agg #[.int .i64 k, .bool b, .int .i64 i, .int .u64 u, .int .u64 f, .string s, .string ⟨#[]⟩], .slice none 0 0, .slice none 0 0, .bool true]) ∧ Keeps (fun _ => False) w w' := by
 go_enter Tryz.func6, Tryz.ntmps6
 go_wp2_with (fail)
 (try simp only [Exit.inBlock, Exit.then])
 refine bodyPost_ret (results_cell_3 rfl _ _ (w.heap.size + 3) rfl (run_loadVar_row _ _ _ _ _ (0, 0) _ (Keeps.row (by repeat (first | exact Keeps.refl (fun _ => False) _ | apply Keeps.alloc)) (box4 w _ _ _ _) id) Tryz.underlying42 rfl (by kernel_rfl))) rfl ?_
 exact ⟨rfl, by repeat (first | exact Keeps.refl _ _ | apply Keeps.alloc)⟩
end Go.Proofs.YtonegoemmologaaGreatDoor
