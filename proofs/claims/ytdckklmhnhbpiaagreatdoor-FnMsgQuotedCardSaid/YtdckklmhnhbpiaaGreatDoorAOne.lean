/-
  The number '1' at the end of a text: parseIdent, parseLiteralValue, parseNumber, number.string.
-/
import Derived.Test.YtdckklmhnhbpiaaGreatDoorANext
import Derived.Deep.RegionHeld3
import Derived.Deep.DeepCutAuto
set_option linter.unusedSimpArgs false
set_option linter.unusedVariables false
namespace Go.Proofs.YtdckklmhnhbpiaaGreatDoor
open Go.RowKit

set_option maxRecDepth 100000 in
theorem ident_one (b off c : Nat) (w : World) (h : w.cell? ⟨b, off, none⟩ = some (.int .u8 49)) :
    Calls Tryz.prog 88 #[.slice (some ⟨b, off, none⟩) 1 c, .bool true] w fun e w' => e = .returned (.int .i64 0) ∧ w = w' := by
  go_enter Tryz.func88, Tryz.ntmps88
  go_wp2
  go_ret
  exact ⟨rfl, rfl⟩

theorem results_cell_b {fn : Func} {p u : Tmp} {ty : TypeId} (h : fn.results = #[.cell p ty, .tmp u]) (tmps : Array Value) (w : World) (g : Nat) (hp : tmps.getD p undef = .pointer (some ⟨g, 0, none⟩)) {v : Value}
    (hv : (loadVar ty ⟨g, 0, none⟩).run Tryz.prog w = .ok v w) : (results fn tmps).run Tryz.prog w = .ok (.tuple #[v, tmps.getD u undef]) w := by
  rw [results_cell_tmp h, hp]
  simp only [asAddr, Sem.run_pure, Result.andThen_ok, hv]

set_option maxRecDepth 100000 in
theorem literal_one (D b off c : Nat) (w : World) (hc : w.cell? ⟨D, 10, none⟩ = some (.slice (some ⟨b, off, none⟩) 1 c)) (h : w.cell? ⟨b, off, none⟩ = some (.int .u8 49)) :
    Calls Tryz.prog 93 #[.pointer (some ⟨D, 0, none⟩)] w fun e w' => (∃ v, e = .returned (.tuple #[.agg v, .bool false]) ∧ v = #[.int .u8 0, .int .u8 0, .int .u8 0, .int .i64 0, .slice none 0 0, .string ⟨#[]⟩]) ∧ Keeps (fun _ => False) w w' := by
  have hk : ∀ o, Keeps (fun _ => False) w (w.alloc o) := fun o => (Keeps.refl _ w).alloc o
  have hcA := fun o => (hk o).cell hc id
  have hbA := fun o => (hk o).cell h id
  go_enter Tryz.func93, Tryz.ntmps93
  go_wp2_with (go_at_call 88; refine (ident_one b off c _ (hbA _)).mono ?_; rintro e w2 ⟨rfl, rfl⟩)
  refine bodyPost_ret (results_cell_b rfl _ _ w.heap.size rfl (run_loadVar_row _ _ _ _ _ (0, 0) _ (heap_alloc_new w _) Tryz.underlying53 rfl (by kernel_rfl))) rfl ?_
  exact ⟨⟨_, rfl, rfl⟩, hk _⟩

set_option maxRecDepth 1000000 in
set_option maxHeartbeats 8000000 in
theorem number_one (b off c : Nat) (w : World) (h : w.cell? ⟨b, off, none⟩ = some (.int .u8 49)) (hc : 1 ≤ c) :
    Calls Tryz.prog 89 #[.slice (some ⟨b, off, none⟩) 1 c] w fun e w' => e = .returned (.agg #[.int .u8 0, .bool false, .int .i64 1, .int .i64 0]) ∧ Keeps (fun _ => False) w w' := by
  have hk : ∀ o, Keeps (fun _ => False) w (w.alloc o) := fun o => (Keeps.refl _ w).alloc o
  have hbA := fun o => (hk o).cell h id
  have hsl0 := fun w' => run_sfrom (some ⟨b, off, none⟩) 1 c 1 (by omega) w'
  unfold sliceFrom at hsl0
  obtain ⟨a2, ha2⟩ : ∃ a2, (if c = 1 then some ⟨b, off, none⟩ else (some (⟨b, off, none⟩ : Addr)).map (·.add 1)) = a2 := ⟨_, rfl⟩
  obtain ⟨c2, hc2⟩ : ∃ c2, c - 1 = c2 := ⟨_, rfl⟩
  rw [ha2, hc2] at hsl0
  have hsl : ∀ w', (Instr.slice 24 (.slice (some ⟨b, off, none⟩) 1 c) (some (.int .i64 1)) none none).run Tryz.prog w' = .ok (.slice a2 0 c2) w' := hsl0
  clear hsl0 ha2 hc2
  go_enter Tryz.func89, Tryz.ntmps89
  go_wp2
  refine wp_loop_once ?_
  go_wp2
  refine bodyPost_ret (results_cell_row rfl _ _ w.heap.size _ _ (0, 0) _ rfl (heap_alloc_new w _) Tryz.underlying153 rfl (by kernel_rfl)) rfl ?_
  exact ⟨rfl, hk _⟩

set_option maxRecDepth 1000000 in
set_option maxHeartbeats 8000000 in
theorem numstr_one (b off c : Nat) (w : World) (hb : BytesAt w (.slice (some ⟨b, off, none⟩) 1 c) [49]) :
    Calls Tryz.prog 90 #[.agg #[.int .u8 0, .bool false, .int .i64 1, .int .i64 0], .slice (some ⟨b, off, none⟩) 1 c] w fun e w' => e = .returned (.string (mk [49])) ∧ Keeps (fun _ => False) w w' := by
  obtain ⟨a0, c0, hf, hc, hm⟩ := hb.form
  simp only [Value.slice.injEq] at hf
  obtain ⟨rfl, -, rfl⟩ := hf
  have hk : ∀ o, Keeps (fun _ => False) w (w.alloc o) := fun o => (Keeps.refl _ w).alloc o
  have hcv := fun o => run_to_str (hb.keeps (hk o) (fun _ _ => id))
  have hsl : ∀ w', (Instr.slice 24 (.slice (some ⟨b, off, none⟩) 1 c) none (some (.int .i64 1)) none).run Tryz.prog w' = .ok (.slice (some ⟨b, off, none⟩) 1 c) w' := fun w' => run_sto (some ⟨b, off, none⟩) 1 c 1 (by simpa using hc) w'
  obtain ⟨s, hs⟩ : ∃ s, mk [49] = s := ⟨_, rfl⟩
  rw [hs] at hcv ⊢
  clear hs
  have hu := Tryz.underlying153
  go_enter Tryz.func90, Tryz.ntmps90
  go_wp2
  go_ret
  exact ⟨rfl, hk _⟩

set_option maxRecDepth 1000000 in
set_option maxHeartbeats 20000000 in
theorem numberValue_one (D : Nat) (cur : Array Value) (vo vi : Value) (orig : List UInt8) (w : World) (hrow : w.heap[D]? = some (.cells cur 68 (0, 0))) (ho : cur[9]? = some vo) (hin : cur[10]? = some vi) (hvo : BytesAt w vo orig) (hv : BytesAt w vi [49]) (hvD : vi.ownBlock ≠ some D) (hoD : vo.ownBlock ≠ some D) :
    Calls Tryz.prog 94 #[.pointer (some ⟨D, 0, none⟩)] w fun e w' =>
      ∃ raw V pos, e = .returned (.tuple #[.agg #[.int .u8 3, .int .u8 1, .int .u8 0, .int .i64 pos, raw, .string (mk [49])], .bool true]) ∧ BytesAt w' raw [49] ∧ Within vi raw ∧ BytesAt w' V [] ∧ Within vi V ∧ Keeps (fun k => k = D) w w' ∧ w'.heap[D]? = some (.cells (cur.setIfInBounds 10 V) 68 (0, 0)) := by
  obtain ⟨ao, co, rfl, _, _⟩ := hvo.form
  obtain ⟨b, off, c, rfl, hcc, hcm⟩ := hv.form' (by simp)
  have hDl := row_lt hrow
  obtain ⟨no, hno⟩ : ∃ no, orig.length = no := ⟨_, rfl⟩
  have hc9 : w.cell? ⟨D, 9, none⟩ = some (.slice ao no co) := by rw [← hno]; exact (cell_row hrow).trans ho
  have hc10 : w.cell? ⟨D, 10, none⟩ = some (.slice (some ⟨b, off, none⟩) 1 c) := (cell_row hrow).trans hin
  have hk : ∀ o, Keeps (fun _ => False) w (w.alloc o) := fun o => (Keeps.refl _ w).alloc o
  have hx : w.cell? ⟨b, off, none⟩ = some (.int .u8 49) := hv.cell.2 0 (by simp)
  have hcA := fun o => (hk o).cell hc10 id
  have hxA := fun o => (hk o).cell hx id
  have hsl : ∀ w', (Instr.slice 24 (.slice (some ⟨b, off, none⟩) 1 c) none (some (.int .i64 1)) none).run Tryz.prog w' = .ok (.slice (some ⟨b, off, none⟩) 1 c) w' := fun w' => run_sto (some ⟨b, off, none⟩) 1 c 1 (by simpa using hcc) w'
  unfold maxLen at hcm
  have HR := Lib.hid hrow
  have HV := Lib.hid hv
  clear hrow hv hvo
  go_enter Tryz.func94, Tryz.ntmps94
  go_upto_region 8 with (go_at_call 89; refine (number_one b off c _ (hxA _) (by simpa using hcc)).mono ?_; rintro e w2 ⟨rfl, hk2⟩)
  have hR2 := hk2.row (heap_alloc_new w _) id
  have hkw2 := (hk _).trans hk2 (fun _ _ => id)
  have hs2 : w.heap.size + 1 ≤ w2.heap.size := by have h := hk2.size; simpa using h
  have d9 := hkw2.cell hc9 id
  have d10 := hkw2.cell hc10 id
  have hmK := heap_alloc_new w2 (.cells #[.int .u8 0, .bool false, .int .i64 1, .int .i64 0] 153)
  have hKs : w2.heap.size < (w2.alloc (.cells #[.int .u8 0, .bool false, .int .i64 1, .int .i64 0] 153)).heap.size := by simp
  obtain ⟨W, hW⟩ : ∃ W, w2.alloc (.cells #[.int .u8 0, .bool false, .int .i64 1, .int .i64 0] 153) = W := ⟨_, rfl⟩
  have h2W : Keeps (fun _ => False) w2 W := by rw [← hW]; exact (Keeps.refl _ w2).alloc _
  rw [hW] at hmK hKs
  rw [hW]
  clear hW
  obtain ⟨K, hKe⟩ : ∃ K, w2.heap.size = K := ⟨_, rfl⟩
  rw [hKe] at hmK hKs ⊢
  have hKD : D ≠ K := by omega
  have HS : Hid (∀ w', Keeps (fun _ => False) W w' → w'.cell? ⟨D, 9, none⟩ = some (.slice ao no co) ∧ w'.cell? ⟨D, 10, none⟩ = some (.slice (some ⟨b, off, none⟩) 1 c) ∧ w'.cell? ⟨K, 0, none⟩ = some (.int .u8 0) ∧ w'.cell? ⟨K, 1, none⟩ = some (.bool false) ∧ w'.cell? ⟨K, 2, none⟩ = some (.int .i64 1) ∧ w'.cell? ⟨K, 3, none⟩ = some (.int .i64 0)) := fun w' hk => ⟨hk.cell (h2W.cell d9 id) id, hk.cell (h2W.cell d10 id) id, (cell_row (hk.row hmK id)).trans rfl, (cell_row (hk.row hmK id)).trans rfl, (cell_row (hk.row hmK id)).trans rfl, (cell_row (hk.row hmK id)).trans rfl⟩
  have hDW : D ≠ W.heap.size := by have h := h2W.size; omega
  have hKW : K ≠ W.heap.size := by omega
  have HS6 : Hid (∀ (wn : World) (a b' c' d e f : Value), Keeps (fun _ => False) W wn → ((((((wn.setCell ⟨W.heap.size, 0, none⟩ a).setCell ⟨W.heap.size, 1, none⟩ b').setCell ⟨W.heap.size, 2, none⟩ c').setCell ⟨W.heap.size, 3, none⟩ d).setCell ⟨W.heap.size, 4, none⟩ e).setCell ⟨W.heap.size, 5, none⟩ f).cell? ⟨D, 9, none⟩ = some (.slice ao no co) ∧ ((((((wn.setCell ⟨W.heap.size, 0, none⟩ a).setCell ⟨W.heap.size, 1, none⟩ b').setCell ⟨W.heap.size, 2, none⟩ c').setCell ⟨W.heap.size, 3, none⟩ d).setCell ⟨W.heap.size, 4, none⟩ e).setCell ⟨W.heap.size, 5, none⟩ f).cell? ⟨D, 10, none⟩ = some (.slice (some ⟨b, off, none⟩) 1 c) ∧ ((((((wn.setCell ⟨W.heap.size, 0, none⟩ a).setCell ⟨W.heap.size, 1, none⟩ b').setCell ⟨W.heap.size, 2, none⟩ c').setCell ⟨W.heap.size, 3, none⟩ d).setCell ⟨W.heap.size, 4, none⟩ e).setCell ⟨W.heap.size, 5, none⟩ f).cell? ⟨K, 0, none⟩ = some (.int .u8 0) ∧ ((((((wn.setCell ⟨W.heap.size, 0, none⟩ a).setCell ⟨W.heap.size, 1, none⟩ b').setCell ⟨W.heap.size, 2, none⟩ c').setCell ⟨W.heap.size, 3, none⟩ d).setCell ⟨W.heap.size, 4, none⟩ e).setCell ⟨W.heap.size, 5, none⟩ f).cell? ⟨K, 1, none⟩ = some (.bool false) ∧ ((((((wn.setCell ⟨W.heap.size, 0, none⟩ a).setCell ⟨W.heap.size, 1, none⟩ b').setCell ⟨W.heap.size, 2, none⟩ c').setCell ⟨W.heap.size, 3, none⟩ d).setCell ⟨W.heap.size, 4, none⟩ e).setCell ⟨W.heap.size, 5, none⟩ f).cell? ⟨K, 2, none⟩ = some (.int .i64 1) ∧ ((((((wn.setCell ⟨W.heap.size, 0, none⟩ a).setCell ⟨W.heap.size, 1, none⟩ b').setCell ⟨W.heap.size, 2, none⟩ c').setCell ⟨W.heap.size, 3, none⟩ d).setCell ⟨W.heap.size, 4, none⟩ e).setCell ⟨W.heap.size, 5, none⟩ f).cell? ⟨K, 3, none⟩ = some (.int .i64 0)) := fun wn a b' c' d e f hk => by
    obtain ⟨s1, s2, s3, s4, s5, s6⟩ := HS.out wn hk
    have st := store6_keeps wn W.heap.size a b' c' d e f
    exact ⟨st.cell s1 hDW, st.cell s2 hDW, st.cell s3 hKW, st.cell s4 hKW, st.cell s5 hKW, st.cell s6 hKW⟩
  have HVW : Hid (BytesAt W (.slice (some ⟨b, off, none⟩) 1 c) [49]) := HV.out.keeps (hkw2.trans h2W (fun _ _ => id)) (fun _ _ => id)
  have HD2 := Lib.hid d9
  have HD3 := Lib.hid d10
  clear d9 d10
  go_region_held3 (fun w' => w'.cell? ⟨D, 9, none⟩ = some (.slice ao no co) ∧ w'.cell? ⟨D, 10, none⟩ = some (.slice (some ⟨b, off, none⟩) 1 c) ∧ w'.cell? ⟨K, 0, none⟩ = some (.int .u8 0) ∧ w'.cell? ⟨K, 1, none⟩ = some (.bool false) ∧ w'.cell? ⟨K, 2, none⟩ = some (.int .i64 1) ∧ w'.cell? ⟨K, 3, none⟩ = some (.int .i64 0))
    (first | (with_reducible exact HS6.out _ _ _ _ _ _ _ hkn) | (with_reducible exact HS.out _ ((Keeps.refl _ W).drew)) | (with_reducible exact HS.out _ hkn) | (with_reducible exact HS.out _ (hkn.alloc _)) | (with_reducible exact HS.out _ (((Keeps.refl _ W).alloc _).drew)) | (with_reducible exact HS.out _ ((Keeps.refl _ W).alloc _)))
    (first
      | (go_at_call 90; refine (numstr_one b off c _ ?_).mono ?_; exact (HVW.out.keeps (((Keeps.refl (fun _ => False) W).alloc _).drew) (fun _ _ => id)); rintro e wn ⟨rfl, hk3⟩; have hkn := (((Keeps.refl (fun _ => False) W).alloc _).drew).trans hk3 (fun _ _ => id); have hrK := hk3.row (heap_alloc_new W _) id; have hfK := fun j => frozen_row (j := j) hrK; have q0 := cell_row (j := 0) hrK; have q1 := cell_row (j := 1) hrK; have q2 := cell_row (j := 2) hrK; have q3 := cell_row (j := 3) hrK; have q4 := cell_row (j := 4) hrK; have q5 := cell_row (j := 5) hrK; simp at q0 q1 q2 q3 q4 q5)
      | (go_at_call 90; refine (numstr_one b off c _ ?_).mono ?_; exact (HVW.out.keeps ((Keeps.refl (fun _ => False) W).drew) (fun _ _ => id)); rintro e wn ⟨rfl, hk3⟩; have hkn := ((Keeps.refl (fun _ => False) W).drew).trans hk3 (fun _ _ => id)))
  · have h3k : Keeps (fun j => j = wn.heap.size) wn (wn.alloc (.cells #[.int .u8 3, .int .u8 1, .int .u8 0, .int .i64 (IntKind.i64.wrap ((no : Int) - 1)), .slice (some ⟨b, off, none⟩) 1 c, .string (mk [49])] 53)) := (Keeps.refl _ wn).alloc _
    have rK := heap_alloc_new wn (.cells #[.int .u8 3, .int .u8 1, .int .u8 0, .int .i64 (IntKind.i64.wrap ((no : Int) - 1)), .slice (some ⟨b, off, none⟩) 1 c, .string (mk [49])] 53)
    have hKKt : K ≠ wn.heap.size := by have h := hkn.size; omega
    have hKt : w.heap.size + 1 ≤ wn.heap.size ∧ D ≠ wn.heap.size := by have h := hkn.size; omega
    obtain ⟨W3, hW3⟩ : ∃ W3, wn.alloc (.cells #[.int .u8 3, .int .u8 1, .int .u8 0, .int .i64 (IntKind.i64.wrap ((no : Int) - 1)), .slice (some ⟨b, off, none⟩) 1 c, .string (mk [49])] 53) = W3 := ⟨_, rfl⟩
    rw [hW3] at h3k rK ⊢
    clear hW3
    obtain ⟨Kt, hKte⟩ : ∃ Kt, wn.heap.size = Kt := ⟨_, rfl⟩
    rw [hKte] at h3k rK hKKt hKt ⊢
    have hkB : Keeps (fun _ => False) w W3 := ((hkw2.trans h2W (fun _ _ => id)).trans hkn (fun _ _ => id)).trans h3k (fun i hi h => by omega)
    have rD := hkB.row HR.out id
    have rR := (((h2W.trans hkn (fun _ _ => id)).row hR2 id) |> fun h => h3k.row h (by omega))
    have m2 := h3k.cell ((cell_row (j := 2) (hkn.row hmK id)).trans rfl) hKKt
    have hfR := fun j => frozen_row (j := j) rR
    have e0 := cell_row (j := 0) rK
    have e1 := cell_row (j := 1) rK
    have e2 := cell_row (j := 2) rK
    have e3 := cell_row (j := 3) rK
    have e4 := cell_row (j := 4) rK
    have e5 := cell_row (j := 5) rK
    have g0 := cell_row (j := 0) rR
    have g1 := cell_row (j := 1) rR
    have g2 := cell_row (j := 2) rR
    have g3 := cell_row (j := 3) rR
    have g4 := cell_row (j := 4) rR
    have g5 := cell_row (j := 5) rR
    simp at e0 e1 e2 e3 e4 e5 g0 g1 g2 g3 g4 g5
    have hdc := dconsume D cur _ [49] 1 (by simp) W3 rD hin (HV.out.keeps hkB (fun _ _ => id)) (by intro r hr; cases hr)
    have RK := Lib.hid rK
    have RR := Lib.hid rR
    have RD := Lib.hid rD
    clear rK rR rD
    have hDKt := hKt.2
    have hDR : D ≠ w.heap.size := by omega
    have hRD : w.heap.size ≠ D := by omega
    have hKtD : Kt ≠ D := fun e => hKt.2 e.symm
    go_simp
    go_wp2_with (go_at_call 46; refine hdc.mono ?_; rintro e w4 ⟨rfl, V, hVb, hVi, rfl⟩; obtain ⟨aV, cV, hVf, _, _⟩ := hVb.form; subst hVf)
    have h4k : Keeps (fun j => j = D) W3 (W3.setCell ⟨D, 10, none⟩ (.slice aV (skip (List.drop 1 [(49 : UInt8)])).length cV)) := Keeps.setCell (S := fun j => j = D) (Keeps.refl _ W3) ⟨D, 10, none⟩ (fun _ => rfl) _
    have rR4 := h4k.row RR.out hRD
    have hbw : b < w.heap.size := World.block_lt_of_cell? w _ hx
    have hbD : b ≠ D := fun e => hvD (by subst e; rfl)
    have nU : ∀ U, Within (.slice (some ⟨b, off, none⟩) 1 c) U → ∀ j, U.ownBlock = some j → j ≠ D ∧ j ≠ w.heap.size := fun U hU j hj => by
      have h := hU j hj
      simp [Value.ownBlock] at h
      omega
    have hVi' : Within (.slice (some ⟨b, off, none⟩) 1 c) (.slice aV (skip (List.drop 1 [(49 : UInt8)])).length cV) := hVi
    refine bodyPost_ret (results_cell_b rfl _ _ w.heap.size rfl (run_loadVar_row _ _ _ _ _ (0, 0) _ (store6_row rR4 _ _ _ _ _ _) Tryz.underlying53 rfl (by kernel_rfl))) rfl ?_
    have h5k := fun a b c d e f => store6_keeps (W3.setCell ⟨D, 10, none⟩ (.slice aV (skip (List.drop 1 [(49 : UInt8)])).length cV)) w.heap.size a b c d e f
    refine ⟨_, _, _, rfl, ((HV.out.keeps hkB (fun _ _ => id)).keeps h4k (fun j hj => (nU _ (Within.refl _) j hj).1)).keeps (h5k _ _ _ _ _ _) (fun j hj => (nU _ (Within.refl _) j hj).2), Within.refl _, (hVb.keeps h4k (fun j hj => (nU _ hVi' j hj).1)).keeps (h5k _ _ _ _ _ _) (fun j hj => (nU _ hVi' j hj).2), hVi, ?_, (h5k _ _ _ _ _ _).row (setCell_row RD.out _) hDR⟩
    exact ((hkB.mono (S1 := fun j => j = D) (fun _ _ => False.elim)).trans h4k (fun _ _ h => h)).trans (h5k _ _ _ _ _ _) (fun i hi h => by omega)
  · have h3k : Keeps (fun j => j = W.heap.size) wn ((((((wn.setCell ⟨W.heap.size, 0, none⟩ (.int .u8 3)).setCell ⟨W.heap.size, 1, none⟩ (.int .u8 1)).setCell ⟨W.heap.size, 2, none⟩ (.int .u8 0)).setCell ⟨W.heap.size, 3, none⟩ (.int .i64 (IntKind.i64.wrap ((no : Int) - 1)))).setCell ⟨W.heap.size, 4, none⟩ (.slice (some ⟨b, off, none⟩) 1 c)).setCell ⟨W.heap.size, 5, none⟩ (.string (mk [49]))) := store6_keeps wn W.heap.size (.int .u8 3) (.int .u8 1) (.int .u8 0) (.int .i64 (IntKind.i64.wrap ((no : Int) - 1))) (.slice (some ⟨b, off, none⟩) 1 c) (.string (mk [49]))
    have rK : ((((((wn.setCell ⟨W.heap.size, 0, none⟩ (.int .u8 3)).setCell ⟨W.heap.size, 1, none⟩ (.int .u8 1)).setCell ⟨W.heap.size, 2, none⟩ (.int .u8 0)).setCell ⟨W.heap.size, 3, none⟩ (.int .i64 (IntKind.i64.wrap ((no : Int) - 1)))).setCell ⟨W.heap.size, 4, none⟩ (.slice (some ⟨b, off, none⟩) 1 c)).setCell ⟨W.heap.size, 5, none⟩ (.string (mk [49]))).heap[W.heap.size]? = some (.cells #[.int .u8 3, .int .u8 1, .int .u8 0, .int .i64 (IntKind.i64.wrap ((no : Int) - 1)), .slice (some ⟨b, off, none⟩) 1 c, .string (mk [49])] 53 (0, 0)) := store6_row hrK (.int .u8 3) (.int .u8 1) (.int .u8 0) (.int .i64 (IntKind.i64.wrap ((no : Int) - 1))) (.slice (some ⟨b, off, none⟩) 1 c) (.string (mk [49]))
    have hKKt : K ≠ W.heap.size := hKW
    have hKt : w.heap.size + 1 ≤ W.heap.size ∧ D ≠ W.heap.size := by have h := h2W.size; omega
    obtain ⟨W3, hW3⟩ : ∃ W3, ((((((wn.setCell ⟨W.heap.size, 0, none⟩ (.int .u8 3)).setCell ⟨W.heap.size, 1, none⟩ (.int .u8 1)).setCell ⟨W.heap.size, 2, none⟩ (.int .u8 0)).setCell ⟨W.heap.size, 3, none⟩ (.int .i64 (IntKind.i64.wrap ((no : Int) - 1)))).setCell ⟨W.heap.size, 4, none⟩ (.slice (some ⟨b, off, none⟩) 1 c)).setCell ⟨W.heap.size, 5, none⟩ (.string (mk [49]))) = W3 := ⟨_, rfl⟩
    rw [hW3] at h3k rK ⊢
    clear hW3
    obtain ⟨Kt, hKte⟩ : ∃ Kt, W.heap.size = Kt := ⟨_, rfl⟩
    rw [hKte] at h3k rK hKKt hKt ⊢
    have hkB : Keeps (fun _ => False) w W3 := ((hkw2.trans h2W (fun _ _ => id)).trans hkn (fun _ _ => id)).trans h3k (fun i hi h => by omega)
    have rD := hkB.row HR.out id
    have rR := (((h2W.trans hkn (fun _ _ => id)).row hR2 id) |> fun h => h3k.row h (by omega))
    have m2 := h3k.cell ((cell_row (j := 2) (hkn.row hmK id)).trans rfl) hKKt
    have hfR := fun j => frozen_row (j := j) rR
    have e0 := cell_row (j := 0) rK
    have e1 := cell_row (j := 1) rK
    have e2 := cell_row (j := 2) rK
    have e3 := cell_row (j := 3) rK
    have e4 := cell_row (j := 4) rK
    have e5 := cell_row (j := 5) rK
    have g0 := cell_row (j := 0) rR
    have g1 := cell_row (j := 1) rR
    have g2 := cell_row (j := 2) rR
    have g3 := cell_row (j := 3) rR
    have g4 := cell_row (j := 4) rR
    have g5 := cell_row (j := 5) rR
    simp at e0 e1 e2 e3 e4 e5 g0 g1 g2 g3 g4 g5
    have hdc := dconsume D cur _ [49] 1 (by simp) W3 rD hin (HV.out.keeps hkB (fun _ _ => id)) (by intro r hr; cases hr)
    have RK := Lib.hid rK
    have RR := Lib.hid rR
    have RD := Lib.hid rD
    clear rK rR rD
    have hDKt := hKt.2
    have hDR : D ≠ w.heap.size := by omega
    have hRD : w.heap.size ≠ D := by omega
    have hKtD : Kt ≠ D := fun e => hKt.2 e.symm
    go_simp
    go_wp2_with (go_at_call 46; refine hdc.mono ?_; rintro e w4 ⟨rfl, V, hVb, hVi, rfl⟩; obtain ⟨aV, cV, hVf, _, _⟩ := hVb.form; subst hVf)
    have h4k : Keeps (fun j => j = D) W3 (W3.setCell ⟨D, 10, none⟩ (.slice aV (skip (List.drop 1 [(49 : UInt8)])).length cV)) := Keeps.setCell (S := fun j => j = D) (Keeps.refl _ W3) ⟨D, 10, none⟩ (fun _ => rfl) _
    have rR4 := h4k.row RR.out hRD
    have hbw : b < w.heap.size := World.block_lt_of_cell? w _ hx
    have hbD : b ≠ D := fun e => hvD (by subst e; rfl)
    have nU : ∀ U, Within (.slice (some ⟨b, off, none⟩) 1 c) U → ∀ j, U.ownBlock = some j → j ≠ D ∧ j ≠ w.heap.size := fun U hU j hj => by
      have h := hU j hj
      simp [Value.ownBlock] at h
      omega
    have hVi' : Within (.slice (some ⟨b, off, none⟩) 1 c) (.slice aV (skip (List.drop 1 [(49 : UInt8)])).length cV) := hVi
    refine bodyPost_ret (results_cell_b rfl _ _ w.heap.size rfl (run_loadVar_row _ _ _ _ _ (0, 0) _ (store6_row rR4 _ _ _ _ _ _) Tryz.underlying53 rfl (by kernel_rfl))) rfl ?_
    have h5k := fun a b c d e f => store6_keeps (W3.setCell ⟨D, 10, none⟩ (.slice aV (skip (List.drop 1 [(49 : UInt8)])).length cV)) w.heap.size a b c d e f
    refine ⟨_, _, _, rfl, ((HV.out.keeps hkB (fun _ _ => id)).keeps h4k (fun j hj => (nU _ (Within.refl _) j hj).1)).keeps (h5k _ _ _ _ _ _) (fun j hj => (nU _ (Within.refl _) j hj).2), Within.refl _, (hVb.keeps h4k (fun j hj => (nU _ hVi' j hj).1)).keeps (h5k _ _ _ _ _ _) (fun j hj => (nU _ hVi' j hj).2), hVi, ?_, (h5k _ _ _ _ _ _).row (setCell_row RD.out _) hDR⟩
    exact ((hkB.mono (S1 := fun j => j = D) (fun _ _ => False.elim)).trans h4k (fun _ _ h => h)).trans (h5k _ _ _ _ _ _) (fun i hi h => by omega)
end Go.Proofs.YtdckklmhnhbpiaaGreatDoor
