/-
  The number '1' at the end of a text: parseIdent, parseLiteralValue, parseNumber, number.string.
  parseScalar and parseNext at the number '1', and Read there. parseNext and Read at the number '1'.
-/
import Derived.Test.YtmijjppjodpagaaGreatDoorM31
import Derived.Deep.RegionHeld3
import Derived.Deep.DeepCutAuto
import Derived.Test.YtmijjppjodpagaaGreatDoorM43
set_option linter.unusedVariables false
set_option linter.unusedSimpArgs false
namespace Go.Proofs.YtmijjppjodpagaaGreatDoor
open Go.RowKit

set_option maxRecDepth 100000 in
theorem ident_one (b off c : Nat) (w : World) (h : w.cell? ⟨b, off, none⟩ = some (.int .u8 49)) :
    Calls Tryz.prog 141 #[.slice (some ⟨b, off, none⟩) 1 c, .bool true] w fun e w' => e = .returned (.int .i64 0) ∧ w = w' := by
  go_enter Tryz.func141, Tryz.ntmps141
  go_wp2
  go_ret
  exact ⟨rfl, rfl⟩

theorem results_cell_b {fn : Func} {p u : Tmp} {ty : TypeId} (h : fn.results = #[.cell p ty, .tmp u]) (tmps : Array Value) (w : World) (g : Nat) (hp : tmps.getD p undef = .pointer (some ⟨g, 0, none⟩)) {v : Value}
    (hv : (loadVar ty ⟨g, 0, none⟩).run Tryz.prog w = .ok v w) : (results fn tmps).run Tryz.prog w = .ok (.tuple #[v, tmps.getD u undef]) w := by
  rw [results_cell_tmp h, hp]
  simp only [asAddr, Sem.run_pure, Result.andThen_ok, hv]

set_option maxRecDepth 100000 in
theorem literal_one (D b off c : Nat) (w : World) (hc : w.cell? ⟨D, 10, none⟩ = some (.slice (some ⟨b, off, none⟩) 1 c)) (h : w.cell? ⟨b, off, none⟩ = some (.int .u8 49)) :
    Calls Tryz.prog 147 #[.pointer (some ⟨D, 0, none⟩)] w fun e w' => (∃ v, e = .returned (.tuple #[.agg v, .bool false]) ∧ v = #[.int .u8 0, .int .u8 0, .int .u8 0, .int .i64 0, .slice none 0 0, .string ⟨#[]⟩]) ∧ Keeps (fun _ => False) w w' := by
  have hk : ∀ o, Keeps (fun _ => False) w (w.alloc o) := fun o => (Keeps.refl _ w).alloc o
  have hcA := fun o => (hk o).cell hc id
  have hbA := fun o => (hk o).cell h id
  go_enter Tryz.func147, Tryz.ntmps147
  go_wp2_with (go_at_call 141; refine (ident_one b off c _ (hbA _)).mono ?_; rintro e w2 ⟨rfl, rfl⟩)
  refine bodyPost_ret (results_cell_b rfl _ _ w.heap.size rfl (run_loadVar_row _ _ _ _ _ (0, 0) _ (heap_alloc_new w _) Tryz.underlying120 rfl (by kernel_rfl))) rfl ?_
  exact ⟨⟨_, rfl, rfl⟩, hk _⟩

set_option maxRecDepth 1000000 in
set_option maxHeartbeats 8000000 in
theorem number_one (b off c : Nat) (w : World) (h : w.cell? ⟨b, off, none⟩ = some (.int .u8 49)) (hc : 1 ≤ c) :
    Calls Tryz.prog 142 #[.slice (some ⟨b, off, none⟩) 1 c] w fun e w' => e = .returned (.agg #[.int .u8 0, .bool false, .int .i64 1, .int .i64 0]) ∧ Keeps (fun _ => False) w w' := by
  have hk : ∀ o, Keeps (fun _ => False) w (w.alloc o) := fun o => (Keeps.refl _ w).alloc o
  have hbA := fun o => (hk o).cell h id
  have hsl0 := fun w' => run_sfrom (some ⟨b, off, none⟩) 1 c 1 (by omega) w'
  unfold sliceFrom at hsl0
  obtain ⟨a2, ha2⟩ : ∃ a2, (if c = 1 then some ⟨b, off, none⟩ else (some (⟨b, off, none⟩ : Addr)).map (·.add 1)) = a2 := ⟨_, rfl⟩
  obtain ⟨c2, hc2⟩ : ∃ c2, c - 1 = c2 := ⟨_, rfl⟩
  rw [ha2, hc2] at hsl0
  have hsl : ∀ w', (Instr.slice 31 (.slice (some ⟨b, off, none⟩) 1 c) (some (.int .i64 1)) none none).run Tryz.prog w' = .ok (.slice a2 0 c2) w' := hsl0
  clear hsl0 ha2 hc2
  go_enter Tryz.func142, Tryz.ntmps142
  go_wp2
  refine wp_loop_once ?_
  go_wp2
  refine bodyPost_ret (results_cell_row rfl _ _ w.heap.size _ _ (0, 0) _ rfl (heap_alloc_new w _) Tryz.underlying203 rfl (by kernel_rfl)) rfl ?_
  exact ⟨rfl, hk _⟩

set_option maxRecDepth 1000000 in
set_option maxHeartbeats 8000000 in
theorem numstr_one (b off c : Nat) (w : World) (hb : BytesAt w (.slice (some ⟨b, off, none⟩) 1 c) [49]) :
    Calls Tryz.prog 143 #[.agg #[.int .u8 0, .bool false, .int .i64 1, .int .i64 0], .slice (some ⟨b, off, none⟩) 1 c] w fun e w' => e = .returned (.string (mk [49])) ∧ Keeps (fun _ => False) w w' := by
  obtain ⟨a0, c0, hf, hc, hm⟩ := hb.form
  simp only [Value.slice.injEq] at hf
  obtain ⟨rfl, -, rfl⟩ := hf
  have hk : ∀ o, Keeps (fun _ => False) w (w.alloc o) := fun o => (Keeps.refl _ w).alloc o
  have hcv := fun o => run_to_str (hb.keeps (hk o) (fun _ _ => id))
  have hsl : ∀ w', (Instr.slice 31 (.slice (some ⟨b, off, none⟩) 1 c) none (some (.int .i64 1)) none).run Tryz.prog w' = .ok (.slice (some ⟨b, off, none⟩) 1 c) w' := fun w' => run_sto (some ⟨b, off, none⟩) 1 c 1 (by simpa using hc) w'
  obtain ⟨s, hs⟩ : ∃ s, mk [49] = s := ⟨_, rfl⟩
  rw [hs] at hcv ⊢
  clear hs
  have hu := Tryz.underlying203
  go_enter Tryz.func143, Tryz.ntmps143
  go_wp2
  go_ret
  exact ⟨rfl, hk _⟩

set_option maxRecDepth 1000000 in
set_option maxHeartbeats 20000000 in
theorem numberValue_one (D : Nat) (cur : Array Value) (vo vi : Value) (orig : List UInt8) (w : World) (hrow : w.heap[D]? = some (.cells cur 129 (0, 0))) (ho : cur[9]? = some vo) (hin : cur[10]? = some vi) (hvo : BytesAt w vo orig) (hv : BytesAt w vi [49]) (hvD : vi.ownBlock ≠ some D) (hoD : vo.ownBlock ≠ some D) :
    Calls Tryz.prog 148 #[.pointer (some ⟨D, 0, none⟩)] w fun e w' =>
      ∃ raw V pos, e = .returned (.tuple #[.agg #[.int .u8 3, .int .u8 1, .int .u8 0, .int .i64 pos, raw, .string (mk [49])], .bool true]) ∧ BytesAt w' raw [49] ∧ Within vi raw ∧ BytesAt w' V [] ∧ Within vi V ∧ Keeps (fun k => k = D) w w' ∧ w'.heap[D]? = some (.cells (cur.setIfInBounds 10 V) 129 (0, 0)) := by
  obtain ⟨ao, co, rfl, _, _⟩ := hvo.form
  obtain ⟨b, off, c, rfl, hcc, hcm⟩ := hv.form' (by simp)
  have hDl := row_lt hrow
  obtain ⟨no, hno⟩ : ∃ no, orig.length = no := ⟨_, rfl⟩
  have hc9 : w.cell? ⟨D, 9, none⟩ = some (.slice ao no co) := by rw [← hno]; exact (cell_row hrow).trans ho
  have hc10 : w.cell? ⟨D, 10, none⟩ = some (.slice (some ⟨b, off, none⟩) 1 c) := (cell_row hrow).trans hin
  have hk : ∀ o, Keeps (fun _ => False) w (w.alloc o) := fun o => (Keeps.refl _ w).alloc o
  have hx : w.cell? ⟨b, off, none⟩ = some (.int .u8 49) := hv.cell.2 0 (by simp)
  have hcA := fun o => (hk o).cell hc10 id
  have hxA := fun o => (hk o).cell hx id
  have hsl : ∀ w', (Instr.slice 31 (.slice (some ⟨b, off, none⟩) 1 c) none (some (.int .i64 1)) none).run Tryz.prog w' = .ok (.slice (some ⟨b, off, none⟩) 1 c) w' := fun w' => run_sto (some ⟨b, off, none⟩) 1 c 1 (by simpa using hcc) w'
  unfold maxLen at hcm
  have HR := Lib.hid hrow
  have HV := Lib.hid hv
  clear hrow hv hvo
  go_enter Tryz.func148, Tryz.ntmps148
  go_upto_region 8 with (go_at_call 142; refine (number_one b off c _ (hxA _) (by simpa using hcc)).mono ?_; rintro e w2 ⟨rfl, hk2⟩)
  have hR2 := hk2.row (heap_alloc_new w _) id
  have hkw2 := (hk _).trans hk2 (fun _ _ => id)
  have hs2 : w.heap.size + 1 ≤ w2.heap.size := by have h := hk2.size; simpa using h
  have d9 := hkw2.cell hc9 id
  have d10 := hkw2.cell hc10 id
  have hmK := heap_alloc_new w2 (.cells #[.int .u8 0, .bool false, .int .i64 1, .int .i64 0] 203)
  have hKs : w2.heap.size < (w2.alloc (.cells #[.int .u8 0, .bool false, .int .i64 1, .int .i64 0] 203)).heap.size := by simp
  obtain ⟨W, hW⟩ : ∃ W, w2.alloc (.cells #[.int .u8 0, .bool false, .int .i64 1, .int .i64 0] 203) = W := ⟨_, rfl⟩
  have h2W : Keeps (fun _ => False) w2 W := by rw [← hW]; exact (Keeps.refl _ w2).alloc _
  rw [hW] at hmK hKs
  rw [hW]
  clear hW
  obtain ⟨K, hKe⟩ : ∃ K, w2.heap.size = K := ⟨_, rfl⟩
  rw [hKe] at hmK hKs ⊢
  have hKD : D ≠ K := by omega
  have HS : Hid (∀ w', Keeps (fun _ => False) W w' → w'.cell? ⟨D, 9, none⟩ = some (.slice ao no co) ∧ w'.cell? ⟨D, 10, none⟩ = some (.slice (some ⟨b, off, none⟩) 1 c) ∧ w'.cell? ⟨K, 0, none⟩ = some (.int .u8 0) ∧ w'.cell? ⟨K, 1, none⟩ = some (.bool false) ∧ w'.cell? ⟨K, 2, none⟩ = some (.int .i64 1) ∧ w'.cell? ⟨K, 3, none⟩ = some (.int .i64 0)) := fun w' hk => ⟨hk.cell (h2W.cell d9 id) id, hk.cell (h2W.cell d10 id) id, (cell_row (hk.row hmK id)).trans rfl, (cell_row (hk.row hmK id)).trans rfl, (cell_row (hk.row hmK id)).trans rfl, (cell_row (hk.row hmK id)).trans rfl⟩
  have hDW : D ≠ W.heap.size := by have h := h2W.size; omega
  have hKW : K ≠ W.heap.size := by omega
  have HS6 : Hid (∀ (wn : World) (a b' c' d e f : Value), Keeps (fun _ => False) W wn → ((((((wn.setCell ⟨W.heap.size, 0, none⟩ a).setCell ⟨W.heap.size, 1, none⟩ b').setCell ⟨W.heap.size, 2, none⟩ c').setCell ⟨W.heap.size, 3, none⟩ d).setCell ⟨W.heap.size, 4, none⟩ e).setCell ⟨W.heap.size, 5, none⟩ f).cell? ⟨D, 9, none⟩ = some (.slice ao no co) ∧ ((((((wn.setCell ⟨W.heap.size, 0, none⟩ a).setCell ⟨W.heap.size, 1, none⟩ b').setCell ⟨W.heap.size, 2, none⟩ c').setCell ⟨W.heap.size, 3, none⟩ d).setCell ⟨W.heap.size, 4, none⟩ e).setCell ⟨W.heap.size, 5, none⟩ f).cell? ⟨D, 10, none⟩ = some (.slice (some ⟨b, off, none⟩) 1 c) ∧ ((((((wn.setCell ⟨W.heap.size, 0, none⟩ a).setCell ⟨W.heap.size, 1, none⟩ b').setCell ⟨W.heap.size, 2, none⟩ c').setCell ⟨W.heap.size, 3, none⟩ d).setCell ⟨W.heap.size, 4, none⟩ e).setCell ⟨W.heap.size, 5, none⟩ f).cell? ⟨K, 0, none⟩ = some (.int .u8 0) ∧ ((((((wn.setCell ⟨W.heap.size, 0, none⟩ a).setCell ⟨W.heap.size, 1, none⟩ b').setCell ⟨W.heap.size, 2, none⟩ c').setCell ⟨W.heap.size, 3, none⟩ d).setCell ⟨W.heap.size, 4, none⟩ e).setCell ⟨W.heap.size, 5, none⟩ f).cell? ⟨K, 1, none⟩ = some (.bool false) ∧ ((((((wn.setCell ⟨W.heap.size, 0, none⟩ a).setCell ⟨W.heap.size, 1, none⟩ b').setCell ⟨W.heap.size, 2, none⟩ c').setCell ⟨W.heap.size, 3, none⟩ d).setCell ⟨W.heap.size, 4, none⟩ e).setCell ⟨W.heap.size, 5, none⟩ f).cell? ⟨K, 2, none⟩ = some (.int .i64 1) ∧ ((((((wn.setCell ⟨W.heap.size, 0, none⟩ a).setCell ⟨W.heap.size, 1, none⟩ b').setCell ⟨W.heap.size, 2, none⟩ c').setCell ⟨W.heap.size, 3, none⟩ d).setCell ⟨W.heap.size, 4, none⟩ e).setCell ⟨W.heap.size, 5, none⟩ f).cell? ⟨K, 3, none⟩ = some (.int .i64 0)) := fun wn a b' c' d e f hk => by
    obtain ⟨s1, s2, s3, s4, s5, s6⟩ := HS.out wn hk
    have st := store6_keeps wn W.heap.size a b' c' d e f
    exact ⟨st.cell s1 hDW, st.cell s2 hDW, st.cell s3 hKW, st.cell s4 hKW, st.cell s5 hKW, st.cell s6 hKW⟩
  have HVW : Hid (BytesAt W (.slice (some ⟨b, off, none⟩) 1 c) [49]) := HV.out.keeps (hkw2.trans h2W (fun _ _ => id)) (fun _ _ => id)
  have HD2 := Lib.hid d9
  have HD3 := Lib.hid d10
  clear d9 d10
  go_region_held3 (fun w' => w'.cell? ⟨D, 9, none⟩ = some (.slice ao no co) ∧ w'.cell? ⟨D, 10, none⟩ = some (.slice (some ⟨b, off, none⟩) 1 c) ∧ w'.cell? ⟨K, 0, none⟩ = some (.int .u8 0) ∧ w'.cell? ⟨K, 1, none⟩ = some (.bool false) ∧ w'.cell? ⟨K, 2, none⟩ = some (.int .i64 1) ∧ w'.cell? ⟨K, 3, none⟩ = some (.int .i64 0))
    (first | (with_reducible exact HS6.out _ _ _ _ _ _ _ hkn) | (with_reducible exact HS.out _ ((Keeps.refl _ W).drew)) | (with_reducible exact HS.out _ hkn) | (with_reducible exact HS.out _ (hkn.alloc _)) | (with_reducible exact HS.out _ (((Keeps.refl _ W).alloc _).drew)) | (with_reducible exact HS.out _ ((Keeps.refl _ W).alloc _)))
    (first
      | (go_at_call 143; refine (numstr_one b off c _ ?_).mono ?_; exact (HVW.out.keeps (((Keeps.refl (fun _ => False) W).alloc _).drew) (fun _ _ => id)); rintro e wn ⟨rfl, hk3⟩; have hkn := (((Keeps.refl (fun _ => False) W).alloc _).drew).trans hk3 (fun _ _ => id); have hrK := hk3.row (heap_alloc_new W _) id; have hfK := fun j => frozen_row (j := j) hrK; have q0 := cell_row (j := 0) hrK; have q1 := cell_row (j := 1) hrK; have q2 := cell_row (j := 2) hrK; have q3 := cell_row (j := 3) hrK; have q4 := cell_row (j := 4) hrK; have q5 := cell_row (j := 5) hrK; simp at q0 q1 q2 q3 q4 q5)
      | (go_at_call 143; refine (numstr_one b off c _ ?_).mono ?_; exact (HVW.out.keeps ((Keeps.refl (fun _ => False) W).drew) (fun _ _ => id)); rintro e wn ⟨rfl, hk3⟩; have hkn := ((Keeps.refl (fun _ => False) W).drew).trans hk3 (fun _ _ => id)))
  · have h3k : Keeps (fun j => j = wn.heap.size) wn (wn.alloc (.cells #[.int .u8 3, .int .u8 1, .int .u8 0, .int .i64 (IntKind.i64.wrap ((no : Int) - 1)), .slice (some ⟨b, off, none⟩) 1 c, .string (mk [49])] 120)) := (Keeps.refl _ wn).alloc _
    have rK := heap_alloc_new wn (.cells #[.int .u8 3, .int .u8 1, .int .u8 0, .int .i64 (IntKind.i64.wrap ((no : Int) - 1)), .slice (some ⟨b, off, none⟩) 1 c, .string (mk [49])] 120)
    have hKKt : K ≠ wn.heap.size := by have h := hkn.size; omega
    have hKt : w.heap.size + 1 ≤ wn.heap.size ∧ D ≠ wn.heap.size := by have h := hkn.size; omega
    obtain ⟨W3, hW3⟩ : ∃ W3, wn.alloc (.cells #[.int .u8 3, .int .u8 1, .int .u8 0, .int .i64 (IntKind.i64.wrap ((no : Int) - 1)), .slice (some ⟨b, off, none⟩) 1 c, .string (mk [49])] 120) = W3 := ⟨_, rfl⟩
    rw [hW3] at h3k rK ⊢
    clear hW3
    obtain ⟨Kt, hKte⟩ : ∃ Kt, wn.heap.size = Kt := ⟨_, rfl⟩
    rw [hKte] at h3k rK hKKt hKt ⊢
    have hkB : Keeps (fun _ => False) w W3 := ((hkw2.trans h2W (fun _ _ => id)).trans hkn (fun _ _ => id)).trans h3k (fun i hi h => by omega)
    have rD := hkB.row HR.out id
    have rR := (((h2W.trans hkn (fun _ _ => id)).row hR2 id) |> fun h => h3k.row h (by omega))
    have m2 := h3k.cell ((cell_row (j := 2) (hkn.row hmK id)).trans rfl) hKKt
    have hfR := fun j => frozen_row (j := j) rR
    have e0 := cell_row (j := 0) rK
    have e1 := cell_row (j := 1) rK
    have e2 := cell_row (j := 2) rK
    have e3 := cell_row (j := 3) rK
    have e4 := cell_row (j := 4) rK
    have e5 := cell_row (j := 5) rK
    have g0 := cell_row (j := 0) rR
    have g1 := cell_row (j := 1) rR
    have g2 := cell_row (j := 2) rR
    have g3 := cell_row (j := 3) rR
    have g4 := cell_row (j := 4) rR
    have g5 := cell_row (j := 5) rR
    simp at e0 e1 e2 e3 e4 e5 g0 g1 g2 g3 g4 g5
    have hdc := dconsume D cur _ [49] 1 (by simp) W3 rD hin (HV.out.keeps hkB (fun _ _ => id)) (by intro r hr; cases hr)
    have RK := Lib.hid rK
    have RR := Lib.hid rR
    have RD := Lib.hid rD
    clear rK rR rD
    have hDKt := hKt.2
    have hDR : D ≠ w.heap.size := by omega
    have hRD : w.heap.size ≠ D := by omega
    have hKtD : Kt ≠ D := fun e => hKt.2 e.symm
    go_simp
    go_wp2_with (go_at_call 113; refine hdc.mono ?_; rintro e w4 ⟨rfl, V, hVb, hVi, rfl⟩; obtain ⟨aV, cV, hVf, _, _⟩ := hVb.form; subst hVf)
    have h4k : Keeps (fun j => j = D) W3 (W3.setCell ⟨D, 10, none⟩ (.slice aV (skip (List.drop 1 [(49 : UInt8)])).length cV)) := Keeps.setCell (S := fun j => j = D) (Keeps.refl _ W3) ⟨D, 10, none⟩ (fun _ => rfl) _
    have rR4 := h4k.row RR.out hRD
    have hbw : b < w.heap.size := World.block_lt_of_cell? w _ hx
    have hbD : b ≠ D := fun e => hvD (by subst e; rfl)
    have nU : ∀ U, Within (.slice (some ⟨b, off, none⟩) 1 c) U → ∀ j, U.ownBlock = some j → j ≠ D ∧ j ≠ w.heap.size := fun U hU j hj => by
      have h := hU j hj
      simp [Value.ownBlock] at h
      omega
    have hVi' : Within (.slice (some ⟨b, off, none⟩) 1 c) (.slice aV (skip (List.drop 1 [(49 : UInt8)])).length cV) := hVi
    refine bodyPost_ret (results_cell_b rfl _ _ w.heap.size rfl (run_loadVar_row _ _ _ _ _ (0, 0) _ (store6_row rR4 _ _ _ _ _ _) Tryz.underlying120 rfl (by kernel_rfl))) rfl ?_
    have h5k := fun a b c d e f => store6_keeps (W3.setCell ⟨D, 10, none⟩ (.slice aV (skip (List.drop 1 [(49 : UInt8)])).length cV)) w.heap.size a b c d e f
    refine ⟨_, _, _, rfl, ((HV.out.keeps hkB (fun _ _ => id)).keeps h4k (fun j hj => (nU _ (Within.refl _) j hj).1)).keeps (h5k _ _ _ _ _ _) (fun j hj => (nU _ (Within.refl _) j hj).2), Within.refl _, (hVb.keeps h4k (fun j hj => (nU _ hVi' j hj).1)).keeps (h5k _ _ _ _ _ _) (fun j hj => (nU _ hVi' j hj).2), hVi, ?_, (h5k _ _ _ _ _ _).row (setCell_row RD.out _) hDR⟩
    exact ((hkB.mono (S1 := fun j => j = D) (fun _ _ => False.elim)).trans h4k (fun _ _ h => h)).trans (h5k _ _ _ _ _ _) (fun i hi h => by omega)
  · have h3k : Keeps (fun j => j = W.heap.size) wn ((((((wn.setCell ⟨W.heap.size, 0, none⟩ (.int .u8 3)).setCell ⟨W.heap.size, 1, none⟩ (.int .u8 1)).setCell ⟨W.heap.size, 2, none⟩ (.int .u8 0)).setCell ⟨W.heap.size, 3, none⟩ (.int .i64 (IntKind.i64.wrap ((no : Int) - 1)))).setCell ⟨W.heap.size, 4, none⟩ (.slice (some ⟨b, off, none⟩) 1 c)).setCell ⟨W.heap.size, 5, none⟩ (.string (mk [49]))) := store6_keeps wn W.heap.size (.int .u8 3) (.int .u8 1) (.int .u8 0) (.int .i64 (IntKind.i64.wrap ((no : Int) - 1))) (.slice (some ⟨b, off, none⟩) 1 c) (.string (mk [49]))
    have rK : ((((((wn.setCell ⟨W.heap.size, 0, none⟩ (.int .u8 3)).setCell ⟨W.heap.size, 1, none⟩ (.int .u8 1)).setCell ⟨W.heap.size, 2, none⟩ (.int .u8 0)).setCell ⟨W.heap.size, 3, none⟩ (.int .i64 (IntKind.i64.wrap ((no : Int) - 1)))).setCell ⟨W.heap.size, 4, none⟩ (.slice (some ⟨b, off, none⟩) 1 c)).setCell ⟨W.heap.size, 5, none⟩ (.string (mk [49]))).heap[W.heap.size]? = some (.cells #[.int .u8 3, .int .u8 1, .int .u8 0, .int .i64 (IntKind.i64.wrap ((no : Int) - 1)), .slice (some ⟨b, off, none⟩) 1 c, .string (mk [49])] 120 (0, 0)) := store6_row hrK (.int .u8 3) (.int .u8 1) (.int .u8 0) (.int .i64 (IntKind.i64.wrap ((no : Int) - 1))) (.slice (some ⟨b, off, none⟩) 1 c) (.string (mk [49]))
    have hKKt : K ≠ W.heap.size := hKW
    have hKt : w.heap.size + 1 ≤ W.heap.size ∧ D ≠ W.heap.size := by have h := h2W.size; omega
    obtain ⟨W3, hW3⟩ : ∃ W3, ((((((wn.setCell ⟨W.heap.size, 0, none⟩ (.int .u8 3)).setCell ⟨W.heap.size, 1, none⟩ (.int .u8 1)).setCell ⟨W.heap.size, 2, none⟩ (.int .u8 0)).setCell ⟨W.heap.size, 3, none⟩ (.int .i64 (IntKind.i64.wrap ((no : Int) - 1)))).setCell ⟨W.heap.size, 4, none⟩ (.slice (some ⟨b, off, none⟩) 1 c)).setCell ⟨W.heap.size, 5, none⟩ (.string (mk [49]))) = W3 := ⟨_, rfl⟩
    rw [hW3] at h3k rK ⊢
    clear hW3
    obtain ⟨Kt, hKte⟩ : ∃ Kt, W.heap.size = Kt := ⟨_, rfl⟩
    rw [hKte] at h3k rK hKKt hKt ⊢
    have hkB : Keeps (fun _ => False) w W3 := ((hkw2.trans h2W (fun _ _ => id)).trans hkn (fun _ _ => id)).trans h3k (fun i hi h => by omega)
    have rD := hkB.row HR.out id
    have rR := (((h2W.trans hkn (fun _ _ => id)).row hR2 id) |> fun h => h3k.row h (by omega))
    have m2 := h3k.cell ((cell_row (j := 2) (hkn.row hmK id)).trans rfl) hKKt
    have hfR := fun j => frozen_row (j := j) rR
    have e0 := cell_row (j := 0) rK
    have e1 := cell_row (j := 1) rK
    have e2 := cell_row (j := 2) rK
    have e3 := cell_row (j := 3) rK
    have e4 := cell_row (j := 4) rK
    have e5 := cell_row (j := 5) rK
    have g0 := cell_row (j := 0) rR
    have g1 := cell_row (j := 1) rR
    have g2 := cell_row (j := 2) rR
    have g3 := cell_row (j := 3) rR
    have g4 := cell_row (j := 4) rR
    have g5 := cell_row (j := 5) rR
    simp at e0 e1 e2 e3 e4 e5 g0 g1 g2 g3 g4 g5
    have hdc := dconsume D cur _ [49] 1 (by simp) W3 rD hin (HV.out.keeps hkB (fun _ _ => id)) (by intro r hr; cases hr)
    have RK := Lib.hid rK
    have RR := Lib.hid rR
    have RD := Lib.hid rD
    clear rK rR rD
    have hDKt := hKt.2
    have hDR : D ≠ w.heap.size := by omega
    have hRD : w.heap.size ≠ D := by omega
    have hKtD : Kt ≠ D := fun e => hKt.2 e.symm
    go_simp
    go_wp2_with (go_at_call 113; refine hdc.mono ?_; rintro e w4 ⟨rfl, V, hVb, hVi, rfl⟩; obtain ⟨aV, cV, hVf, _, _⟩ := hVb.form; subst hVf)
    have h4k : Keeps (fun j => j = D) W3 (W3.setCell ⟨D, 10, none⟩ (.slice aV (skip (List.drop 1 [(49 : UInt8)])).length cV)) := Keeps.setCell (S := fun j => j = D) (Keeps.refl _ W3) ⟨D, 10, none⟩ (fun _ => rfl) _
    have rR4 := h4k.row RR.out hRD
    have hbw : b < w.heap.size := World.block_lt_of_cell? w _ hx
    have hbD : b ≠ D := fun e => hvD (by subst e; rfl)
    have nU : ∀ U, Within (.slice (some ⟨b, off, none⟩) 1 c) U → ∀ j, U.ownBlock = some j → j ≠ D ∧ j ≠ w.heap.size := fun U hU j hj => by
      have h := hU j hj
      simp [Value.ownBlock] at h
      omega
    have hVi' : Within (.slice (some ⟨b, off, none⟩) 1 c) (.slice aV (skip (List.drop 1 [(49 : UInt8)])).length cV) := hVi
    refine bodyPost_ret (results_cell_b rfl _ _ w.heap.size rfl (run_loadVar_row _ _ _ _ _ (0, 0) _ (store6_row rR4 _ _ _ _ _ _) Tryz.underlying120 rfl (by kernel_rfl))) rfl ?_
    have h5k := fun a b c d e f => store6_keeps (W3.setCell ⟨D, 10, none⟩ (.slice aV (skip (List.drop 1 [(49 : UInt8)])).length cV)) w.heap.size a b c d e f
    refine ⟨_, _, _, rfl, ((HV.out.keeps hkB (fun _ _ => id)).keeps h4k (fun j hj => (nU _ (Within.refl _) j hj).1)).keeps (h5k _ _ _ _ _ _) (fun j hj => (nU _ (Within.refl _) j hj).2), Within.refl _, (hVb.keeps h4k (fun j hj => (nU _ hVi' j hj).1)).keeps (h5k _ _ _ _ _ _) (fun j hj => (nU _ hVi' j hj).2), hVi, ?_, (h5k _ _ _ _ _ _).row (setCell_row RD.out _) hDR⟩
    exact ((hkB.mono (S1 := fun j => j = D) (fun _ _ => False.elim)).trans h4k (fun _ _ h => h)).trans (h5k _ _ _ _ _ _) (fun i hi h => by omega)
end Go.Proofs.YtmijjppjodpagaaGreatDoor

namespace Go.Proofs.YtmijjppjodpagaaGreatDoor
open Go.RowKit

set_option maxRecDepth 1000000 in
set_option maxHeartbeats 20000000 in
theorem scalar_one (D : Nat) (cur : Array Value) (vo vi : Value) (orig : List UInt8) (w : World) (hrow : w.heap[D]? = some (.cells cur 129 (0, 0))) (ho : cur[9]? = some vo) (hin : cur[10]? = some vi) (hvo : BytesAt w vo orig) (hv : BytesAt w vi [49]) (hvD : vi.ownBlock ≠ some D) (hoD : vo.ownBlock ≠ some D) :
    Calls Tryz.prog 117 #[.pointer (some ⟨D, 0, none⟩)] w (NextPost D cur vi w 3 1 0 (mk [49]) [49] []) := by
  have hDl := row_lt hrow
  have hvl := bytes_lt hv (by simp)
  obtain ⟨b, off, c, hvf, hcc, hcm⟩ := hv.form' (by simp)
  have hvf' : vi = .slice (some ⟨b, off, none⟩) 1 c := hvf
  have hc10 : w.cell? ⟨D, 10, none⟩ = some (.slice (some ⟨b, off, none⟩) 1 c) := by rw [← hvf']; exact (cell_row hrow).trans hin
  have hx : w.cell? ⟨b, off, none⟩ = some (.int .u8 49) := by
    have h := hv
    rw [hvf] at h
    exact h.cell.2 0 (by simp)
  have hk : ∀ o, Keeps (fun _ => False) w (w.alloc o) := fun o => (Keeps.refl _ w).alloc o
  have hcA := fun o => (hk o).cell hc10 id
  have hxA := fun o => (hk o).cell hx id
  have HR := Lib.hid hrow
  have HV := Lib.hid hv
  have HVO := Lib.hid hvo
  clear hrow hv hvo hvf hvf' hc10 hx hcc
  go_enter Tryz.func117, Tryz.ntmps117
  go_wp2_with (first
    | (go_at_call 147; refine (literal_one D b off c _ (hcA _) (hxA _)).mono ?_; rintro e w2 ⟨⟨_, rfl, rfl⟩, hk2⟩; have hkw2 := fun o => ((hk _).trans hk2 (fun _ _ => id)).alloc o; have hR2 := hk2.row (heap_alloc_new w _) id)
    | (go_at_call 148; refine (numberValue_one D cur vo vi orig _ ((hkw2 _).row HR.out id) ho hin (HVO.out.keeps (hkw2 _) (fun _ _ => id)) (HV.out.keeps (hkw2 _) (fun _ _ => id)) hvD hoD).mono ?_; rintro e w3 ⟨raw, V, pos, rfl, hraw, hri, hV, hVi, hk3, hrD⟩; obtain ⟨ar, cr, hrf, _, _⟩ := hraw.form; subst hrf; have hR3 := fun o => ((Keeps.refl (fun _ => False) w3).alloc o).row (hk3.row (((Keeps.refl (fun _ => False) w2).alloc _).row hR2 id) (by omega)) id; have hfR := fun o j => frozen_row (j := j) (hR3 o); have g0 := fun o => cell_row (j := 0) (hR3 o); have g1 := fun o => cell_row (j := 1) (hR3 o); have g2 := fun o => cell_row (j := 2) (hR3 o); have g3 := fun o => cell_row (j := 3) (hR3 o); have g4 := fun o => cell_row (j := 4) (hR3 o); have g5 := fun o => cell_row (j := 5) (hR3 o); simp at g0 g1 g2 g3 g4 g5))
  refine bodyPost_ret (results_cell_slot (p := 2) (u := 3) rfl _ _ w.heap.size (0, 0) rfl (store6_row (hR3 _) _ _ _ _ _ _)) rfl ?_
  have h3a := fun o => (Keeps.refl (fun _ => False) w3).alloc o
  exact next_end2 D cur vi w w _ w.heap.size (Nat.le_refl _) hDl (Keeps.refl _ w) (((((hkw2 _).mono (S1 := fun j => j = D) (fun _ _ => False.elim)).trans hk3 (fun _ _ h => h))).alloc _) (hraw.keeps (h3a _) (fun _ _ => id)) hri (hV.keeps (h3a _) (fun _ _ => id)) hVi hvD hvl ((h3a _).row hrD id)


set_option maxRecDepth 1000000 in
set_option maxHeartbeats 20000000 in
theorem next_one (D : Nat) (cur : Array Value) (vo vi : Value) (orig : List UInt8) (w : World) (hrow : w.heap[D]? = some (.cells cur 129 (0, 0))) (ho : cur[9]? = some vo) (hin : cur[10]? = some vi) (h8 : cur[8]? = some (.slice none 0 0)) (hsz : cur.size = 11) (hvo : BytesAt w vo orig) (hvD : vi.ownBlock ≠ some D) (hoD : vo.ownBlock ≠ some D)
    (hv : BytesAt w vi [49]) :
    Calls Tryz.prog 85 #[.pointer (some ⟨D, 0, none⟩), .int .u8 2] w (NextPost D cur vi w 3 1 0 (mk [49]) [49] []) := by
  have hDl := row_lt hrow
  have hK1 : ∀ A, Keeps (fun _ => False) w (w.alloc A) := fun A => (Keeps.refl _ w).alloc A
  have HSE : Hid (skip (([49] : List UInt8).drop 0) = [49]) := by show skip [49] = [49]; decide
  have HSK : Hid (∀ r, skip (([49] : List UInt8).drop 0) ≠ 35 :: r) := fun r hr => by
    rw [HSE.out] at hr
    cases hr
  have hvl := bytes_lt hv (by simp)
  have HV := Lib.hid hv
  have HVO := Lib.hid hvo
  have HR := Lib.hid hrow
  clear hv hvo hrow
  go_enter Tryz.func85, Tryz.ntmps85
  go_wp2_with (first
    | (go_at_call 113; refine (dconsume D cur vi [49] 0 (Nat.zero_le _) _ ((hK1 _).row HR.out id) hin (HV.out.keeps (hK1 _) (fun _ _ => id)) HSK.out).mono ?_; rintro e w1 ⟨rfl, V0, hb0, hi0, hw1⟩; obtain ⟨h1D, h1K, h1k, hb1⟩ := next_start D cur vi V0 _ w w1 _ HR.out HV.out hvD hi0 hb0 hw1; clear hw1 hb0; rw [HSE.out] at hb1; obtain ⟨b0, o0, c0, hf0, hcc, hcm⟩ := hb1.form' (by simp); have hf1 : V0 = .slice (some ⟨b0, o0, none⟩) 1 c0 := hf0; clear hf0 hcc; subst hf1; have hx0 : w1.cell? ⟨b0, o0, none⟩ = some (.int .u8 49) := hb1.cell.2 0 (by simp); have hc10 := (cell_row (j := 10) h1D).trans (setIn_same hsz); have hc8 := (cell_row (j := 8) h1D).trans (setIn_other h8); have H1D := Lib.hid h1D; have H1K := Lib.hid h1K; have H1k := Lib.hid h1k; have HB1 := Lib.hid hb1; have HI0 := Lib.hid hi0; clear h1D h1K h1k hb1 hi0)

    | (go_at_call 117; refine (scalar_one D _ vo _ orig _ H1D.out ((setIn_other' (by decide)).trans ho) (setIn_same hsz) (HVO.out.keeps H1k.out (fun j hj e => by subst e; exact hoD hj)) HB1.out (fun e => hvD (HI0.out _ e)) hoD).mono ?_; rintro e w2 ⟨raw, V, pos, rfl, hraw, hri, hV, hVi, hk2, hrD⟩; have hrK := hk2.row H1K.out (by omega); have hfK := fun j => frozen_row (j := j) hrK; have k0 := cell_row (j := 0) hrK; have k1 := cell_row (j := 1) hrK; have k2 := cell_row (j := 2) hrK; have k3 := cell_row (j := 3) hrK; have k4 := cell_row (j := 4) hrK; have k5 := cell_row (j := 5) hrK; simp at k0 k1 k2 k3 k4 k5; obtain ⟨ar, cr, hrf, _, _⟩ := hraw.form; subst hrf))
  refine bodyPost_ret (results_cell_slot (p := 4) (u := 5) rfl _ _ w.heap.size (0, 0) rfl (store6_row hrK _ _ _ _ _ _)) rfl ?_
  exact next_end2 D cur vi w _ w2 w.heap.size (Nat.le_refl _) hDl H1k.out hk2 hraw (HI0.out.trans hri) hV (HI0.out.trans hVi) hvD hvl (by rw [hrD, Array.setIfInBounds_setIfInBounds])

theorem one_ok (D N : Nat) : OneOk D N := fun w h =>
  read_dec D N 2 w 3 1 0 _ _ _ _ h rfl rfl (by simp) fun cur vo vi orig w1 h1 h2 h3 h4 h5 h6 h7 h8 h9 _ _ _ _ => next_one D cur vo vi orig w1 h1 h2 h3 h4 h5 h6 h8 h9 h7
end Go.Proofs.YtmijjppjodpagaaGreatDoor
