/-
  (*Decoder).Read of the JSON form, over whatever parseNext hands it: a bracket, a number, the end.
-/
import Derived.Test.YtmijjppjodpagaaGreatDoorM33
import Derived.Defers
import Derived.Deep.RegionHeld3
import Derived.Deep.AppendLies
import Derived.Deep.QuietTactic
import Derived.BigQuiet
import Derived.Deep.DeepCutAuto
set_option linter.unusedVariables false
set_option linter.unusedSimpArgs false
namespace Go.Proofs.YtmijjppjodpagaaGreatDoor
open Go.RowKit

theorem jinfo126 : (Tryz.prog.info? 131).map (fun i => (i.zero, i.size, i.bytes)) = some (some (.int .u16 0), 1, 2) := by kernel_rfl

set_option maxRecDepth 1000000 in
theorem jread_deferred (D A : Nat) (c0 : Value) (u : FrameMode) (w : World) (hA : w.cell? ⟨A, 0, none⟩ = some (.pointer (some ⟨D, 0, none⟩))) (hD : w.cell? ⟨D, 0, none⟩ = some c0) (hf : w.frozen? ⟨D, 0, none⟩ = false) :
    CallsD Tryz.prog 93 #[.pointer (some ⟨A, 0, none⟩)] u w fun e u' w' => u' = u ∧ (e = .returned (.tuple #[]) ∧ w' = w.setCell ⟨D, 0, none⟩ (.int .u8 0)) := by
  go_enter_d Tryz.func93, Tryz.ntmps93
  go_wp2
  go_end0
  exact ⟨rfl, rfl⟩
theorem setCells5_row {w : World} {K : Nat} {cur : Array Value} {T : TypeId} {fr : Nat × Nat} (h : w.heap[K]? = some (.cells cur T fr)) (j : Nat) (a b c d e : Value) :
    (w.setCells K j [a, b, c, d, e]).heap[K]? = some (.cells (((((cur.setIfInBounds j a).setIfInBounds (j + 1) b).setIfInBounds (j + 1 + 1) c).setIfInBounds (j + 1 + 1 + 1) d).setIfInBounds (j + 1 + 1 + 1 + 1) e) T fr) := by
  simp only [World.setCells]
  exact setCell_row (setCell_row (setCell_row (setCell_row (setCell_row h a) b) c) d) e
theorem setCells_keeps' (K : Nat) : ∀ (vs : List Value) (j : Nat) (w : World), Keeps (fun k => k = K) w (w.setCells K j vs)
  | [], _, w => Keeps.refl _ w
  | v :: r, j, w => (Keeps.setCell (S := fun k => k = K) (Keeps.refl _ w) ⟨K, j, none⟩ (fun _ => rfl) v).trans (setCells_keeps' K r (j + 1) (w.setCell ⟨K, j, none⟩ v)) (fun _ _ h => h)
theorem jrun_sto (a : Option Addr) (n c k : Nat) (hc : k ≤ c) (w : World) : (Instr.slice 141 (.slice a n c) none (some (.int .i64 (k : Int))) none).run Tryz.prog w = .ok (.slice a k c) w := by
  obtain ⟨i0, hi, hz0, hz1, hz2⟩ := info_parts jinfo126
  have h1 := run_sliceBound (P := Tryz.prog) w .i64 (k : Int) c .sliceAcap (by omega) (by omega)
  simp [Instr.slice, Instr.sliceBounds, run_underlying Tryz.underlying141, h1, sizeOf, typeInfo, hi]
  intro _
  cases a <;> simp [Addr.add]
theorem keeps_grown {w w' : World} {r : Option Nat} (h : w.grownBy w' r) : Keeps (fun j => r = some j) w w' := ⟨h.os, h.tape, h.output, h.size, fun k hk hn => h.block k hk (fun e => hn e.symm)⟩
theorem owns_first {w : World} {base : Nat} {e : TypeId} {g cap n : Nat} {x : Value} {xs : List Value} (h : w.ownsRow base e 1 (.slice (some ⟨g, 0, none⟩) n cap) n (x :: xs)) : base ≤ g ∧ w.cell? ⟨g, 0, none⟩ = some x := by
  rcases h.2 with ⟨h2, _⟩ | ⟨g', cap', cur, hv, hb, hr, hn, _, hs, ht⟩
  · cases h2
  · cases hv
    refine ⟨hb, ?_⟩
    rw [cell_row hr]
    have h1 : cur.toList[0]? = some x := by
      have h3 : (cur.toList.take (n * 1))[0]? = some x := by rw [ht]; rfl
      rw [List.getElem?_take] at h3
      split at h3
      · exact h3
      · cases h3
    simpa using h1

set_option maxRecDepth 1000000 in
set_option maxHeartbeats 20000000 in
theorem jread_num (D : Nat) (p0 r0 b0 s0 : Value) (g c : Nat) (vo vi : Value) (rw rest : List UInt8) (w : World) (hrow : w.heap[D]? = some (.cells (jRow (.int .u16 256) p0 r0 b0 s0 (.slice (some ⟨g, 0, none⟩) 1 c) vo vi) 143 (0, 0)))
    (hg : w.cell? ⟨g, 0, none⟩ = some (.int .u16 256)) (hgD : g ≠ D) (hvD : vi.ownBlock ≠ some D) (hvl : ∀ j, vi.ownBlock = some j → j < w.heap.size)
    (hnext : ∀ w1, Keeps (fun _ => False) w w1 → Calls Tryz.prog 94 #[.pointer (some ⟨D, 0, none⟩)] w1 (JNextPost D (jRow (.int .u16 256) p0 r0 b0 s0 (.slice (some ⟨g, 0, none⟩) 1 c) vo vi) vi w1 8 rw rest)) :
    Calls Tryz.prog 66 #[.pointer (some ⟨D, 0, none⟩)] w fun e w' =>
      ∃ raw V pos S', e = .returned (.tuple #[.agg #[.int .u16 8, .int .i64 pos, raw, .bool false, .string ⟨#[]⟩], .nilIface]) ∧ BytesAt w' raw rw ∧ Within vi raw ∧ BytesAt w' V rest ∧ Within vi V ∧
        Keeps (fun k => k = D) w w' ∧ w'.heap[D]? = some (.cells (jRow (.int .u16 8) (.int .i64 pos) raw (.bool false) (.string ⟨#[]⟩) S' vo V) 143 (0, 0)) ∧ S' = .slice (some ⟨g, 0, none⟩) 1 c := by
  have hmf : ∀ (fn : Fn) (first cap : Array Value) (w : World), (Instr.makeFunc fn first cap).run Tryz.prog w = .ok (.func fn first cap) w := fun _ _ _ _ => rfl
  have hDl := row_lt hrow
  have c0 : w.cell? ⟨D, 0, none⟩ = some (.int .u8 0) := (cell_row hrow).trans rfl
  have HR := Lib.hid hrow
  clear hrow
  go_enter_defers Tryz.func66, Tryz.ntmps66
  go_wp2_with (fail)
  obtain ⟨W0, hW0⟩ : ∃ W0, (w.alloc (.cells #[.pointer (some ⟨D, 0, none⟩)] 101)).alloc (.cells #[.int .u16 0, .int .i64 0, .slice none 0 0, .bool false, .string ⟨#[]⟩] 133) = W0 := ⟨_, rfl⟩
  have hk0 : Keeps (fun _ => False) w W0 := by rw [← hW0]; exact ((Keeps.refl _ w).alloc _).alloc _
  have hA0 : W0.cell? ⟨w.heap.size, 0, none⟩ = some (.pointer (some ⟨D, 0, none⟩)) := by rw [← hW0, cell_row (heap_alloc2_old w _ _)]; rfl
  have hR0 : W0.heap[w.heap.size + 1]? = some (.cells #[.int .u16 0, .int .i64 0, .slice none 0 0, .bool false, .string ⟨#[]⟩] 133 (0, 0)) := by rw [← hW0]; exact heap_alloc2_new w _ _
  have hs0 : W0.heap.size = w.heap.size + 2 := by rw [← hW0]; simp
  rw [hW0]
  clear hW0 c0
  have hAD : w.heap.size ≠ D := by omega
  have HS0 := Lib.hid hs0
  clear hs0
  have hnx := hnext W0 hk0
  clear hnext
  go_upto_region 7 with (go_at_call 94; refine hnx.mono ?_; rintro e w2 ⟨raw, V, pos, rfl, hraw, hri, hV, hVi, hk2, hrD⟩; obtain ⟨ar, cr, hrf, _, _⟩ := hraw.form; subst hrf; have cA2 := hk2.cell hA0 hAD)
  have rD : w2.heap[D]? = some (.cells (jRow (.int .u16 256) p0 r0 b0 s0 (.slice (some ⟨g, 0, none⟩) 1 c) vo V) 143 (0, 0)) := by simpa [jRow] using hrD
  have rR := hk2.row hR0 (by omega)
  obtain ⟨W3, hW3⟩ : ∃ W3, w2.alloc (.cells #[.int .u16 8, .int .i64 pos, .slice ar rw.length cr, .bool false, .string ⟨#[]⟩] 133) = W3 := ⟨_, rfl⟩
  have rK : W3.heap[w2.heap.size]? = some (.cells #[.int .u16 8, .int .i64 pos, .slice ar rw.length cr, .bool false, .string ⟨#[]⟩] 133 (0, 0)) := by rw [← hW3]; exact heap_alloc_new w2 _
  have h3k : Keeps (fun _ => False) w2 W3 := by rw [← hW3]; exact (Keeps.refl _ w2).alloc _
  have hKl3 : w2.heap.size < W3.heap.size := row_lt rK
  obtain ⟨K, hK⟩ : ∃ K, w2.heap.size = K := ⟨_, rfl⟩
  have hne : w2.heap.size ≠ D ∧ w2.heap.size ≠ w.heap.size + 1 ∧ w2.heap.size ≠ w.heap.size ∧ w.heap.size + 2 ≤ w2.heap.size := by have h := HS0.out; have h1 := hk2.size; omega
  rw [hW3, hK]
  rw [hK] at rK hne hKl3
  obtain ⟨hKD, hKR, hKA, hKl⟩ := hne
  have hrawW := hraw.keeps h3k (fun _ _ => id)
  have hVW := hV.keeps h3k (fun _ _ => id)
  replace rD := h3k.row rD id
  replace rR := h3k.row rR id
  have cA := h3k.cell cA2 id
  have hkw : Keeps (fun k => k = D) w W3 := ((hk0.mono (S1 := fun k => k = D) (fun _ _ => False.elim)).trans hk2 (fun _ _ h => h)).trans h3k (fun _ _ => False.elim)
  clear hW3 hK hrD hk2 h3k cA2 hR0 hA0 hnx hraw hV
  have hAD' : D ≠ w.heap.size + 1 := by omega
  have e0 := cell_row (j := 0) rK
  have e1 := cell_row (j := 1) rK
  have e2 := cell_row (j := 2) rK
  have e3 := cell_row (j := 3) rK
  have e4 := cell_row (j := 4) rK
  have f1 := cell_row (j := 1) rD
  have f2 := cell_row (j := 2) rD
  have f3 := cell_row (j := 3) rD
  have f4 := cell_row (j := 4) rD
  have f5 := cell_row (j := 5) rD
  have f7 := cell_row (j := 7) rD
  have g0 := cell_row (j := 0) rR
  have g1 := cell_row (j := 1) rR
  have g2 := cell_row (j := 2) rR
  have g3 := cell_row (j := 3) rR
  have g4 := cell_row (j := 4) rR
  simp [jRow] at e0 e1 e2 e3 e4 f1 f2 f3 f4 f5 f7 g0 g1 g2 g3 g4
  have hfD := fun j => frozen_row (j := j) rD
  have hfR := fun j => frozen_row (j := j) rR
  have RK := Lib.hid rK
  have RD := Lib.hid rD
  have RR := Lib.hid rR
  have HKW := Lib.hid hkw
  have HVW := Lib.hid hVW
  have HRAW := Lib.hid hrawW
  clear rK rD rR hkw hVW hrawW
  have hg3 : W3.cell? ⟨g, 0, none⟩ = some (.int .u16 256) := HKW.out.cell hg hgD
  go_upto_region 45 with (go_at_call 95; refine (jvalue_arr D g c _ f7 hg3 f1).mono ?_; rintro e w4 ⟨rfl, n4, rfl⟩)
  obtain ⟨WN, hWN⟩ : ∃ WN, W3.drewN n4 = WN := ⟨_, rfl⟩
  have hkN : Keeps (fun j => j = D) W3 WN := by rw [← hWN]; exact (Keeps.refl _ W3).drewN n4
  have RDX : Hid (WN.heap[D]? = some (.cells (jRow (.int .u16 256) p0 r0 b0 s0 (.slice (some ⟨g, 0, none⟩) 1 c) vo V) 143 (0, 0))) := by rw [← hWN]; exact RD.out
  have RRX := Lib.hid (hkN.row RR.out (by omega))
  have RKX := Lib.hid (hkN.row RK.out hKD)
  have CAX := Lib.hid (hkN.cell cA hAD)
  have HKWX : Hid (Keeps (fun k => k = D) w WN) := HKW.out.trans hkN (fun _ _ h => h)
  have nD0 : ∀ U, Within vi U → ∀ j, U.ownBlock = some j → ¬ j = D := fun U hU j hj h => by subst h; exact hvD (hU _ hj)
  have HVWX := Lib.hid (HVW.out.keeps hkN (nD0 _ hVi))
  have HRAWX := Lib.hid (HRAW.out.keeps hkN (nD0 _ hri))
  rw [hWN]
  clear nD0 HVW HRAW HKW
  have HKN := Lib.hid hkN
  clear hkN
  clear RR RK RD hWN

  clear e0 e1 e2 e3 e4 f1 f2 f3 f4 f5 f7 g0 g1 g2 g3 g4 hfD hfR cA
  have rD := RDX.out
  have rR := RRX.out
  have rK := RKX.out
  have cA := CAX.out
  have e0 := cell_row (j := 0) rK
  have e1 := cell_row (j := 1) rK
  have e2 := cell_row (j := 2) rK
  have e3 := cell_row (j := 3) rK
  have e4 := cell_row (j := 4) rK
  have f1 := cell_row (j := 1) rD
  have f2 := cell_row (j := 2) rD
  have f3 := cell_row (j := 3) rD
  have f4 := cell_row (j := 4) rD
  have f5 := cell_row (j := 5) rD
  have f7 := cell_row (j := 7) rD
  have g0 := cell_row (j := 0) rR
  have g1 := cell_row (j := 1) rR
  have g2 := cell_row (j := 2) rR
  have g3 := cell_row (j := 3) rR
  have g4 := cell_row (j := 4) rR
  simp [jRow] at e0 e1 e2 e3 e4 f1 f2 f3 f4 f5 f7 g0 g1 g2 g3 g4
  have hfD := fun j => frozen_row (j := j) rD
  have hfR := fun j => frozen_row (j := j) rR
  clear rK rD rR
  go_wp2
  have h4k : Keeps (fun j => j = D) WN (((((WN.setCell ⟨D, 1, none⟩ (.int .u16 8)).setCell ⟨D, 2, none⟩ (.int .i64 pos)).setCell ⟨D, 3, none⟩ (.slice ar rw.length cr)).setCell ⟨D, 4, none⟩ (.bool false)).setCell ⟨D, 5, none⟩ (.string ⟨#[]⟩)) := setCells_keeps' D [.int .u16 8, .int .i64 pos, .slice ar rw.length cr, .bool false, .string ⟨#[]⟩] 1 WN
  have h4r : (((((WN.setCell ⟨D, 1, none⟩ (.int .u16 8)).setCell ⟨D, 2, none⟩ (.int .i64 pos)).setCell ⟨D, 3, none⟩ (.slice ar rw.length cr)).setCell ⟨D, 4, none⟩ (.bool false)).setCell ⟨D, 5, none⟩ (.string ⟨#[]⟩)).heap[D]? = some (.cells (jRow (.int .u16 8) (.int .i64 pos) (.slice ar rw.length cr) (.bool false) (.string ⟨#[]⟩) (.slice (some ⟨g, 0, none⟩) 1 c) vo V) 143 (0, 0)) := (setCells5_row RDX.out 1 (.int .u16 8) (.int .i64 pos) (.slice ar rw.length cr) (.bool false) (.string ⟨#[]⟩)).trans (by simp [jRow])
  obtain ⟨W4, hW4⟩ : ∃ W4, (((((WN.setCell ⟨D, 1, none⟩ (.int .u16 8)).setCell ⟨D, 2, none⟩ (.int .i64 pos)).setCell ⟨D, 3, none⟩ (.slice ar rw.length cr)).setCell ⟨D, 4, none⟩ (.bool false)).setCell ⟨D, 5, none⟩ (.string ⟨#[]⟩)) = W4 := ⟨_, rfl⟩
  rw [hW4] at h4k h4r ⊢
  have h5k : Keeps (fun j => j = w.heap.size + 1) W4 (((((W4.setCell ⟨w.heap.size + 1, 0, none⟩ (.int .u16 8)).setCell ⟨w.heap.size + 1, 1, none⟩ (.int .i64 pos)).setCell ⟨w.heap.size + 1, 2, none⟩ (.slice ar rw.length cr)).setCell ⟨w.heap.size + 1, 3, none⟩ (.bool false)).setCell ⟨w.heap.size + 1, 4, none⟩ (.string ⟨#[]⟩)) := store5_keeps _ _ _ _ _ _ _
  have h5r : (((((W4.setCell ⟨w.heap.size + 1, 0, none⟩ (.int .u16 8)).setCell ⟨w.heap.size + 1, 1, none⟩ (.int .i64 pos)).setCell ⟨w.heap.size + 1, 2, none⟩ (.slice ar rw.length cr)).setCell ⟨w.heap.size + 1, 3, none⟩ (.bool false)).setCell ⟨w.heap.size + 1, 4, none⟩ (.string ⟨#[]⟩)).heap[w.heap.size + 1]? = some (.cells #[.int .u16 8, .int .i64 pos, .slice ar rw.length cr, .bool false, .string ⟨#[]⟩] 133 (0, 0)) := store5_row (h4k.row RRX.out hAD'.symm) _ _ _ _ _
  obtain ⟨W5, hW5⟩ : ∃ W5, (((((W4.setCell ⟨w.heap.size + 1, 0, none⟩ (.int .u16 8)).setCell ⟨w.heap.size + 1, 1, none⟩ (.int .i64 pos)).setCell ⟨w.heap.size + 1, 2, none⟩ (.slice ar rw.length cr)).setCell ⟨w.heap.size + 1, 3, none⟩ (.bool false)).setCell ⟨w.heap.size + 1, 4, none⟩ (.string ⟨#[]⟩)) = W5 := ⟨_, rfl⟩
  rw [hW5] at h5k h5r ⊢
  have hAl : w.heap.size < WN.heap.size := World.block_lt_of_cell? WN _ CAX.out
  have hRl : w.heap.size + 1 < WN.heap.size := row_lt RRX.out
  have hs4 := h4k.size
  have hs5 := h5k.size
  have h5A := h5k.cell (h4k.cell CAX.out (fun e => hAD e)) (by simp)
  have h5D := h5k.row h4r (fun e => hAD' e)
  refine leaves_cons (f := 93) (args := #[.pointer (some ⟨w.heap.size, 0, none⟩)]) (by simp) (by simp [go_sem]) ?_
  refine (jread_deferred D w.heap.size (.int .u8 0) .returning W5 h5A ((cell_row h5D).trans rfl) (frozen_row h5D)).mono ?_
  rintro e u' w6 ⟨rfl, rfl, rfl⟩
  have h6k : Keeps (fun j => j = D) W5 (W5.setCell ⟨D, 0, none⟩ (.int .u8 0)) := Keeps.setCell (S := fun j => j = D) (Keeps.refl _ W5) ⟨D, 0, none⟩ (fun _ => rfl) _
  have h6r := setCell_row (j := 0) h5D (.int .u8 0)
  have h6R := h6k.row h5r (fun e => hAD' e.symm)
  have hk3 : Keeps (fun j => j = D ∨ j = w.heap.size + 1) WN (W5.setCell ⟨D, 0, none⟩ (.int .u8 0)) := ((h4k.mono (S1 := fun j => j = D ∨ j = w.heap.size + 1) (fun _ _ h => .inl h)).trans h5k (fun i hi h => .inr h)).trans h6k (fun i hi h => .inl h)
  have nD : ∀ U, Within vi U → ∀ j, U.ownBlock = some j → ¬ (j = D ∨ j = w.heap.size + 1) := fun U hU j hj h => by
    have h1 := hvl j (hU j hj)
    rcases h with rfl | h
    · exact hvD (hU _ hj)
    · omega
  refine ⟨_, jresults (p := 2) (u := 3) rfl _ _ (w.heap.size + 1) (0, 0) rfl h6R, .slice ar rw.length cr, V, pos, .slice (some ⟨g, 0, none⟩) 1 c, rfl, HRAWX.out.keeps hk3 (nD _ hri), hri, HVWX.out.keeps hk3 (nD _ hVi), hVi, ?_, h6r.trans (by simp [jRow]), ?_⟩
  · refine ⟨hk3.os.trans HKWX.out.os, hk3.tape.trans HKWX.out.tape, hk3.output.trans HKWX.out.output, Nat.le_trans HKWX.out.size hk3.size, fun j hj1 hj2 => ?_⟩
    rw [hk3.block j (by have := HKWX.out.size; omega) (by omega), HKWX.out.block j hj1 hj2]
  · rfl

set_option maxRecDepth 1000000 in
set_option maxHeartbeats 20000000 in
theorem jread_open (D : Nat) (p0 r0 b0 s0 : Value)  (vo vi : Value) (rw rest : List UInt8) (w : World) (hrow : w.heap[D]? = some (.cells (jRow (.int .u16 0) p0 r0 b0 s0 (.slice none 0 0) vo vi) 143 (0, 0)))
     (hvD : vi.ownBlock ≠ some D) (hvl : ∀ j, vi.ownBlock = some j → j < w.heap.size)
    (hnext : ∀ w1, Keeps (fun _ => False) w w1 → Calls Tryz.prog 94 #[.pointer (some ⟨D, 0, none⟩)] w1 (JNextPost D (jRow (.int .u16 0) p0 r0 b0 s0 (.slice none 0 0) vo vi) vi w1 256 rw rest)) :
    Calls Tryz.prog 66 #[.pointer (some ⟨D, 0, none⟩)] w fun e w' =>
      ∃ raw V pos S', e = .returned (.tuple #[.agg #[.int .u16 256, .int .i64 pos, raw, .bool false, .string ⟨#[]⟩], .nilIface]) ∧ BytesAt w' raw rw ∧ Within vi raw ∧ BytesAt w' V rest ∧ Within vi V ∧
        Keeps (fun k => k = D) w w' ∧ w'.heap[D]? = some (.cells (jRow (.int .u16 256) (.int .i64 pos) raw (.bool false) (.string ⟨#[]⟩) S' vo V) 143 (0, 0)) ∧ ∃ g cap, S' = .slice (some ⟨g, 0, none⟩) 1 cap ∧ w.heap.size ≤ g ∧ w'.cell? ⟨g, 0, none⟩ = some (.int .u16 256) := by
  have hmf : ∀ (fn : Fn) (first cap : Array Value) (w : World), (Instr.makeFunc fn first cap).run Tryz.prog w = .ok (.func fn first cap) w := fun _ _ _ _ => rfl
  have hDl := row_lt hrow
  have c0 : w.cell? ⟨D, 0, none⟩ = some (.int .u8 0) := (cell_row hrow).trans rfl
  have HR := Lib.hid hrow
  clear hrow
  go_enter_defers Tryz.func66, Tryz.ntmps66
  go_wp2_with (fail)
  obtain ⟨W0, hW0⟩ : ∃ W0, (w.alloc (.cells #[.pointer (some ⟨D, 0, none⟩)] 101)).alloc (.cells #[.int .u16 0, .int .i64 0, .slice none 0 0, .bool false, .string ⟨#[]⟩] 133) = W0 := ⟨_, rfl⟩
  have hk0 : Keeps (fun _ => False) w W0 := by rw [← hW0]; exact ((Keeps.refl _ w).alloc _).alloc _
  have hA0 : W0.cell? ⟨w.heap.size, 0, none⟩ = some (.pointer (some ⟨D, 0, none⟩)) := by rw [← hW0, cell_row (heap_alloc2_old w _ _)]; rfl
  have hR0 : W0.heap[w.heap.size + 1]? = some (.cells #[.int .u16 0, .int .i64 0, .slice none 0 0, .bool false, .string ⟨#[]⟩] 133 (0, 0)) := by rw [← hW0]; exact heap_alloc2_new w _ _
  have hs0 : W0.heap.size = w.heap.size + 2 := by rw [← hW0]; simp
  rw [hW0]
  clear hW0 c0
  have hAD : w.heap.size ≠ D := by omega
  have HS0 := Lib.hid hs0
  clear hs0
  have hnx := hnext W0 hk0
  clear hnext
  go_upto_region 7 with (go_at_call 94; refine hnx.mono ?_; rintro e w2 ⟨raw, V, pos, rfl, hraw, hri, hV, hVi, hk2, hrD⟩; obtain ⟨ar, cr, hrf, _, _⟩ := hraw.form; subst hrf; have cA2 := hk2.cell hA0 hAD)
  have rD : w2.heap[D]? = some (.cells (jRow (.int .u16 0) p0 r0 b0 s0 (.slice none 0 0) vo V) 143 (0, 0)) := by simpa [jRow] using hrD
  have rR := hk2.row hR0 (by omega)
  obtain ⟨W3, hW3⟩ : ∃ W3, w2.alloc (.cells #[.int .u16 256, .int .i64 pos, .slice ar rw.length cr, .bool false, .string ⟨#[]⟩] 133) = W3 := ⟨_, rfl⟩
  have rK : W3.heap[w2.heap.size]? = some (.cells #[.int .u16 256, .int .i64 pos, .slice ar rw.length cr, .bool false, .string ⟨#[]⟩] 133 (0, 0)) := by rw [← hW3]; exact heap_alloc_new w2 _
  have h3k : Keeps (fun _ => False) w2 W3 := by rw [← hW3]; exact (Keeps.refl _ w2).alloc _
  have hKl3 : w2.heap.size < W3.heap.size := row_lt rK
  obtain ⟨K, hK⟩ : ∃ K, w2.heap.size = K := ⟨_, rfl⟩
  have hne : w2.heap.size ≠ D ∧ w2.heap.size ≠ w.heap.size + 1 ∧ w2.heap.size ≠ w.heap.size ∧ w.heap.size + 2 ≤ w2.heap.size := by have h := HS0.out; have h1 := hk2.size; omega
  rw [hW3, hK]
  rw [hK] at rK hne hKl3
  obtain ⟨hKD, hKR, hKA, hKl⟩ := hne
  have hrawW := hraw.keeps h3k (fun _ _ => id)
  have hVW := hV.keeps h3k (fun _ _ => id)
  replace rD := h3k.row rD id
  replace rR := h3k.row rR id
  have cA := h3k.cell cA2 id
  have hkw : Keeps (fun k => k = D) w W3 := ((hk0.mono (S1 := fun k => k = D) (fun _ _ => False.elim)).trans hk2 (fun _ _ h => h)).trans h3k (fun _ _ => False.elim)
  clear hW3 hK hrD hk2 h3k cA2 hR0 hA0 hnx hraw hV
  have hAD' : D ≠ w.heap.size + 1 := by omega
  have e0 := cell_row (j := 0) rK
  have e1 := cell_row (j := 1) rK
  have e2 := cell_row (j := 2) rK
  have e3 := cell_row (j := 3) rK
  have e4 := cell_row (j := 4) rK
  have f1 := cell_row (j := 1) rD
  have f2 := cell_row (j := 2) rD
  have f3 := cell_row (j := 3) rD
  have f4 := cell_row (j := 4) rD
  have f5 := cell_row (j := 5) rD
  have f7 := cell_row (j := 7) rD
  have g0 := cell_row (j := 0) rR
  have g1 := cell_row (j := 1) rR
  have g2 := cell_row (j := 2) rR
  have g3 := cell_row (j := 3) rR
  have g4 := cell_row (j := 4) rR
  simp [jRow] at e0 e1 e2 e3 e4 f1 f2 f3 f4 f5 f7 g0 g1 g2 g3 g4
  have hfD := fun j => frozen_row (j := j) rD
  have hfR := fun j => frozen_row (j := j) rR
  have RK := Lib.hid rK
  have RD := Lib.hid rD
  have RR := Lib.hid rR
  have HKW := Lib.hid hkw
  have HVW := Lib.hid hVW
  have HRAW := Lib.hid hrawW
  clear rK rD rR hkw hVW hrawW
  go_upto_region 33 with (go_at_call 95; refine (jvalue_top D _ f7 f1).mono ?_; rintro e w4 ⟨rfl, rfl⟩)
  have hA3 : ∀ o, (W3.alloc o).cell? ⟨w.heap.size, 0, none⟩ = some (.pointer (some ⟨D, 0, none⟩)) := fun o => ((Keeps.refl (fun _ => False) W3).alloc o).cell cA id
  have hD3 : ∀ o, (W3.alloc o).cell? ⟨D, 7, none⟩ = some (.slice none 0 0) := fun o => ((Keeps.refl (fun _ => False) W3).alloc o).cell f7 id
  have hK3 : ∀ o, (W3.alloc o).cell? ⟨K, 0, none⟩ = some (.int .u16 256) := fun o => ((Keeps.refl (fun _ => False) W3).alloc o).cell e0 id
  have hAl3 : w.heap.size < W3.heap.size := World.block_lt_of_cell? W3 _ cA
  have hDl3 : D < W3.heap.size := World.block_lt_of_cell? W3 _ f7
  have hf7 : W3.frozen? ⟨D, 7, none⟩ = false := hfD 7
  have hF3 : ∀ o, (W3.alloc o).frozen? ⟨D, 7, none⟩ = false := fun o => frozen_row (((Keeps.refl (fun _ => False) W3).alloc o).row RD.out id)
  obtain ⟨i0, hi0, hz0, hz1, hz2⟩ := info_parts jinfo126
  have hq : ¬ (281474976710656 < Builtin.nextslicecap 1 0 * Tryz.t131.bytes) := of_decide_eq_false (by kernel_rfl)
  refine wp_region_noPanic ?_
  go_region
  refine NoPanic.normal ?_
  obtain ⟨cap, hcap⟩ : ∃ cap, (Question.appendCap 1 0 131).cut (W3.tape (W3.drawn + 1) (Question.appendCap 1 0 131)) = cap := ⟨_, rfl⟩
  rw [hcap]
  clear hcap hq
  go_upto_region 45 with (fail)
  obtain ⟨V7, hV7⟩ : ∃ V7, Value.slice (some ⟨W3.heap.size + 1, 0, none⟩) 1 cap = V7 := ⟨_, rfl⟩
  have hws : ∀ U, (W3.setCell ⟨D, 7, none⟩ U).heap.size = W3.heap.size := fun U => by simp
  have hgc : ∀ A B, (((((W3.setCell ⟨D, 7, none⟩ V7).alloc A).alloc (.cells (#[.int .u16 256] ++ B) 131)).drew).drew).cell? ⟨W3.heap.size + 1, 0, none⟩ = some (.int .u16 256) := fun A B => by
    have h := heap_alloc2_new (W3.setCell ⟨D, 7, none⟩ V7) A (.cells (#[.int .u16 256] ++ B) 131)
    rw [hws] at h
    have h2 := cell_row (j := 0) h
    exact h2.trans (by rw [Array.getElem?_append_left (by simp)]; rfl)
  obtain ⟨WN, hWN⟩ : ∃ WN, ((((W3.setCell ⟨D, 7, none⟩ V7).alloc (.cells #[.int .u16 256] 131)).alloc (.cells (#[.int .u16 256] ++ Builtin.zeroCells #[Value.int IntKind.u16 0] (cap - 1)) 131)).drew).drew = WN := ⟨_, rfl⟩
  have hkN : Keeps (fun j => j = D) W3 WN := by rw [← hWN]; exact ((((Keeps.setCell (S := fun j => j = D) (Keeps.refl _ W3) ⟨D, 7, none⟩ (fun _ => rfl) V7).alloc _).alloc _).drew).drew
  have RDX : Hid (WN.heap[D]? = some (.cells (jRow (.int .u16 0) p0 r0 b0 s0 (V7) vo V) 143 (0, 0))) := by rw [← hWN]; exact (((Keeps.refl (fun _ => False) (W3.setCell ⟨D, 7, none⟩ V7)).alloc _).alloc _).row ((setCell_row RD.out V7).trans (by simp [jRow])) id
  have RRX := Lib.hid (hkN.row RR.out (by omega))
  have RKX := Lib.hid (hkN.row RK.out hKD)
  have CAX := Lib.hid (hkN.cell cA hAD)
  have HKWX : Hid (Keeps (fun k => k = D) w WN) := HKW.out.trans hkN (fun _ _ h => h)
  have nD0 : ∀ U, Within vi U → ∀ j, U.ownBlock = some j → ¬ j = D := fun U hU j hj h => by subst h; exact hvD (hU _ hj)
  have HVWX := Lib.hid (HVW.out.keeps hkN (nD0 _ hVi))
  have HRAWX := Lib.hid (HRAW.out.keeps hkN (nD0 _ hri))
  have HGC : Hid (WN.cell? ⟨W3.heap.size + 1, 0, none⟩ = some (.int .u16 256)) := by rw [← hWN]; exact hgc _ _
  rw [hV7, hWN]
  have hW3l := row_lt RR.out
  clear hA3 hD3 hK3 hF3 hgc hws
  clear nD0 HVW HRAW HKW
  have HKN := Lib.hid hkN
  clear hkN
  clear RR RK RD hWN

  obtain ⟨G, hG⟩ : ∃ G, W3.heap.size + 1 = G := ⟨_, rfl⟩
  have hGl : w.heap.size + 2 ≤ G := by omega
  have hGD : D < G := by omega
  rw [hG] at HGC hV7
  subst hV7
  clear hG

  clear e0 e1 e2 e3 e4 f1 f2 f3 f4 f5 f7 g0 g1 g2 g3 g4 hfD hfR cA
  have rD := RDX.out
  have rR := RRX.out
  have rK := RKX.out
  have cA := CAX.out
  have e0 := cell_row (j := 0) rK
  have e1 := cell_row (j := 1) rK
  have e2 := cell_row (j := 2) rK
  have e3 := cell_row (j := 3) rK
  have e4 := cell_row (j := 4) rK
  have f1 := cell_row (j := 1) rD
  have f2 := cell_row (j := 2) rD
  have f3 := cell_row (j := 3) rD
  have f4 := cell_row (j := 4) rD
  have f5 := cell_row (j := 5) rD
  have f7 := cell_row (j := 7) rD
  have g0 := cell_row (j := 0) rR
  have g1 := cell_row (j := 1) rR
  have g2 := cell_row (j := 2) rR
  have g3 := cell_row (j := 3) rR
  have g4 := cell_row (j := 4) rR
  simp [jRow] at e0 e1 e2 e3 e4 f1 f2 f3 f4 f5 f7 g0 g1 g2 g3 g4
  have hfD := fun j => frozen_row (j := j) rD
  have hfR := fun j => frozen_row (j := j) rR
  clear rK rD rR
  go_wp2
  have h4k : Keeps (fun j => j = D) WN (((((WN.setCell ⟨D, 1, none⟩ (.int .u16 256)).setCell ⟨D, 2, none⟩ (.int .i64 pos)).setCell ⟨D, 3, none⟩ (.slice ar rw.length cr)).setCell ⟨D, 4, none⟩ (.bool false)).setCell ⟨D, 5, none⟩ (.string ⟨#[]⟩)) := setCells_keeps' D [.int .u16 256, .int .i64 pos, .slice ar rw.length cr, .bool false, .string ⟨#[]⟩] 1 WN
  have h4r : (((((WN.setCell ⟨D, 1, none⟩ (.int .u16 256)).setCell ⟨D, 2, none⟩ (.int .i64 pos)).setCell ⟨D, 3, none⟩ (.slice ar rw.length cr)).setCell ⟨D, 4, none⟩ (.bool false)).setCell ⟨D, 5, none⟩ (.string ⟨#[]⟩)).heap[D]? = some (.cells (jRow (.int .u16 256) (.int .i64 pos) (.slice ar rw.length cr) (.bool false) (.string ⟨#[]⟩) (.slice (some ⟨G, 0, none⟩) 1 cap) vo V) 143 (0, 0)) := (setCells5_row RDX.out 1 (.int .u16 256) (.int .i64 pos) (.slice ar rw.length cr) (.bool false) (.string ⟨#[]⟩)).trans (by simp [jRow])
  obtain ⟨W4, hW4⟩ : ∃ W4, (((((WN.setCell ⟨D, 1, none⟩ (.int .u16 256)).setCell ⟨D, 2, none⟩ (.int .i64 pos)).setCell ⟨D, 3, none⟩ (.slice ar rw.length cr)).setCell ⟨D, 4, none⟩ (.bool false)).setCell ⟨D, 5, none⟩ (.string ⟨#[]⟩)) = W4 := ⟨_, rfl⟩
  rw [hW4] at h4k h4r ⊢
  have h5k : Keeps (fun j => j = w.heap.size + 1) W4 (((((W4.setCell ⟨w.heap.size + 1, 0, none⟩ (.int .u16 256)).setCell ⟨w.heap.size + 1, 1, none⟩ (.int .i64 pos)).setCell ⟨w.heap.size + 1, 2, none⟩ (.slice ar rw.length cr)).setCell ⟨w.heap.size + 1, 3, none⟩ (.bool false)).setCell ⟨w.heap.size + 1, 4, none⟩ (.string ⟨#[]⟩)) := store5_keeps _ _ _ _ _ _ _
  have h5r : (((((W4.setCell ⟨w.heap.size + 1, 0, none⟩ (.int .u16 256)).setCell ⟨w.heap.size + 1, 1, none⟩ (.int .i64 pos)).setCell ⟨w.heap.size + 1, 2, none⟩ (.slice ar rw.length cr)).setCell ⟨w.heap.size + 1, 3, none⟩ (.bool false)).setCell ⟨w.heap.size + 1, 4, none⟩ (.string ⟨#[]⟩)).heap[w.heap.size + 1]? = some (.cells #[.int .u16 256, .int .i64 pos, .slice ar rw.length cr, .bool false, .string ⟨#[]⟩] 133 (0, 0)) := store5_row (h4k.row RRX.out hAD'.symm) _ _ _ _ _
  obtain ⟨W5, hW5⟩ : ∃ W5, (((((W4.setCell ⟨w.heap.size + 1, 0, none⟩ (.int .u16 256)).setCell ⟨w.heap.size + 1, 1, none⟩ (.int .i64 pos)).setCell ⟨w.heap.size + 1, 2, none⟩ (.slice ar rw.length cr)).setCell ⟨w.heap.size + 1, 3, none⟩ (.bool false)).setCell ⟨w.heap.size + 1, 4, none⟩ (.string ⟨#[]⟩)) = W5 := ⟨_, rfl⟩
  rw [hW5] at h5k h5r ⊢
  have hAl : w.heap.size < WN.heap.size := World.block_lt_of_cell? WN _ CAX.out
  have hRl : w.heap.size + 1 < WN.heap.size := row_lt RRX.out
  have hs4 := h4k.size
  have hs5 := h5k.size
  have h5A := h5k.cell (h4k.cell CAX.out (fun e => hAD e)) (by simp)
  have h5D := h5k.row h4r (fun e => hAD' e)
  refine leaves_cons (f := 93) (args := #[.pointer (some ⟨w.heap.size, 0, none⟩)]) (by simp) (by simp [go_sem]) ?_
  refine (jread_deferred D w.heap.size (.int .u8 0) .returning W5 h5A ((cell_row h5D).trans rfl) (frozen_row h5D)).mono ?_
  rintro e u' w6 ⟨rfl, rfl, rfl⟩
  have h6k : Keeps (fun j => j = D) W5 (W5.setCell ⟨D, 0, none⟩ (.int .u8 0)) := Keeps.setCell (S := fun j => j = D) (Keeps.refl _ W5) ⟨D, 0, none⟩ (fun _ => rfl) _
  have h6r := setCell_row (j := 0) h5D (.int .u8 0)
  have h6R := h6k.row h5r (fun e => hAD' e.symm)
  have hk3 : Keeps (fun j => j = D ∨ j = w.heap.size + 1) WN (W5.setCell ⟨D, 0, none⟩ (.int .u8 0)) := ((h4k.mono (S1 := fun j => j = D ∨ j = w.heap.size + 1) (fun _ _ h => .inl h)).trans h5k (fun i hi h => .inr h)).trans h6k (fun i hi h => .inl h)
  have nD : ∀ U, Within vi U → ∀ j, U.ownBlock = some j → ¬ (j = D ∨ j = w.heap.size + 1) := fun U hU j hj h => by
    have h1 := hvl j (hU j hj)
    rcases h with rfl | h
    · exact hvD (hU _ hj)
    · omega
  refine ⟨_, jresults (p := 2) (u := 3) rfl _ _ (w.heap.size + 1) (0, 0) rfl h6R, .slice ar rw.length cr, V, pos, .slice (some ⟨G, 0, none⟩) 1 cap, rfl, HRAWX.out.keeps hk3 (nD _ hri), hri, HVWX.out.keeps hk3 (nD _ hVi), hVi, ?_, h6r.trans (by simp [jRow]), ?_⟩
  · refine ⟨hk3.os.trans HKWX.out.os, hk3.tape.trans HKWX.out.tape, hk3.output.trans HKWX.out.output, Nat.le_trans HKWX.out.size hk3.size, fun j hj1 hj2 => ?_⟩
    rw [hk3.block j (by have := HKWX.out.size; omega) (by omega), HKWX.out.block j hj1 hj2]
  · exact ⟨G, cap, rfl, by omega, hk3.cell HGC.out (by show ¬ (G = D ∨ G = w.heap.size + 1); omega)⟩

set_option maxRecDepth 1000000 in
set_option maxHeartbeats 20000000 in
theorem jread_close (D : Nat) (p0 r0 b0 s0 : Value) (g c : Nat) (vo vi : Value) (rw rest : List UInt8) (w : World) (hrow : w.heap[D]? = some (.cells (jRow (.int .u16 8) p0 r0 b0 s0 (.slice (some ⟨g, 0, none⟩) 1 c) vo vi) 143 (0, 0)))
    (hg : w.cell? ⟨g, 0, none⟩ = some (.int .u16 256)) (hgD : g ≠ D) (hvD : vi.ownBlock ≠ some D) (hvl : ∀ j, vi.ownBlock = some j → j < w.heap.size)
    (hnext : ∀ w1, Keeps (fun _ => False) w w1 → Calls Tryz.prog 94 #[.pointer (some ⟨D, 0, none⟩)] w1 (JNextPost D (jRow (.int .u16 8) p0 r0 b0 s0 (.slice (some ⟨g, 0, none⟩) 1 c) vo vi) vi w1 512 rw rest)) :
    Calls Tryz.prog 66 #[.pointer (some ⟨D, 0, none⟩)] w fun e w' =>
      ∃ raw V pos S', e = .returned (.tuple #[.agg #[.int .u16 512, .int .i64 pos, raw, .bool false, .string ⟨#[]⟩], .nilIface]) ∧ BytesAt w' raw rw ∧ Within vi raw ∧ BytesAt w' V rest ∧ Within vi V ∧
        Keeps (fun k => k = D) w w' ∧ w'.heap[D]? = some (.cells (jRow (.int .u16 512) (.int .i64 pos) raw (.bool false) (.string ⟨#[]⟩) S' vo V) 143 (0, 0)) ∧ S' = .slice (some ⟨g, 0, none⟩) 0 c := by
  have hmf : ∀ (fn : Fn) (first cap : Array Value) (w : World), (Instr.makeFunc fn first cap).run Tryz.prog w = .ok (.func fn first cap) w := fun _ _ _ _ => rfl
  have hDl := row_lt hrow
  have c0 : w.cell? ⟨D, 0, none⟩ = some (.int .u8 0) := (cell_row hrow).trans rfl
  have HR := Lib.hid hrow
  clear hrow
  go_enter_defers Tryz.func66, Tryz.ntmps66
  go_wp2_with (fail)
  obtain ⟨W0, hW0⟩ : ∃ W0, (w.alloc (.cells #[.pointer (some ⟨D, 0, none⟩)] 101)).alloc (.cells #[.int .u16 0, .int .i64 0, .slice none 0 0, .bool false, .string ⟨#[]⟩] 133) = W0 := ⟨_, rfl⟩
  have hk0 : Keeps (fun _ => False) w W0 := by rw [← hW0]; exact ((Keeps.refl _ w).alloc _).alloc _
  have hA0 : W0.cell? ⟨w.heap.size, 0, none⟩ = some (.pointer (some ⟨D, 0, none⟩)) := by rw [← hW0, cell_row (heap_alloc2_old w _ _)]; rfl
  have hR0 : W0.heap[w.heap.size + 1]? = some (.cells #[.int .u16 0, .int .i64 0, .slice none 0 0, .bool false, .string ⟨#[]⟩] 133 (0, 0)) := by rw [← hW0]; exact heap_alloc2_new w _ _
  have hs0 : W0.heap.size = w.heap.size + 2 := by rw [← hW0]; simp
  rw [hW0]
  clear hW0 c0
  have hAD : w.heap.size ≠ D := by omega
  have HS0 := Lib.hid hs0
  clear hs0
  have hnx := hnext W0 hk0
  clear hnext
  go_upto_region 7 with (go_at_call 94; refine hnx.mono ?_; rintro e w2 ⟨raw, V, pos, rfl, hraw, hri, hV, hVi, hk2, hrD⟩; obtain ⟨ar, cr, hrf, _, _⟩ := hraw.form; subst hrf; have cA2 := hk2.cell hA0 hAD)
  have rD : w2.heap[D]? = some (.cells (jRow (.int .u16 8) p0 r0 b0 s0 (.slice (some ⟨g, 0, none⟩) 1 c) vo V) 143 (0, 0)) := by simpa [jRow] using hrD
  have rR := hk2.row hR0 (by omega)
  obtain ⟨W3, hW3⟩ : ∃ W3, w2.alloc (.cells #[.int .u16 512, .int .i64 pos, .slice ar rw.length cr, .bool false, .string ⟨#[]⟩] 133) = W3 := ⟨_, rfl⟩
  have rK : W3.heap[w2.heap.size]? = some (.cells #[.int .u16 512, .int .i64 pos, .slice ar rw.length cr, .bool false, .string ⟨#[]⟩] 133 (0, 0)) := by rw [← hW3]; exact heap_alloc_new w2 _
  have h3k : Keeps (fun _ => False) w2 W3 := by rw [← hW3]; exact (Keeps.refl _ w2).alloc _
  have hKl3 : w2.heap.size < W3.heap.size := row_lt rK
  obtain ⟨K, hK⟩ : ∃ K, w2.heap.size = K := ⟨_, rfl⟩
  have hne : w2.heap.size ≠ D ∧ w2.heap.size ≠ w.heap.size + 1 ∧ w2.heap.size ≠ w.heap.size ∧ w.heap.size + 2 ≤ w2.heap.size := by have h := HS0.out; have h1 := hk2.size; omega
  rw [hW3, hK]
  rw [hK] at rK hne hKl3
  obtain ⟨hKD, hKR, hKA, hKl⟩ := hne
  have hrawW := hraw.keeps h3k (fun _ _ => id)
  have hVW := hV.keeps h3k (fun _ _ => id)
  replace rD := h3k.row rD id
  replace rR := h3k.row rR id
  have cA := h3k.cell cA2 id
  have hkw : Keeps (fun k => k = D) w W3 := ((hk0.mono (S1 := fun k => k = D) (fun _ _ => False.elim)).trans hk2 (fun _ _ h => h)).trans h3k (fun _ _ => False.elim)
  clear hW3 hK hrD hk2 h3k cA2 hR0 hA0 hnx hraw hV
  have hAD' : D ≠ w.heap.size + 1 := by omega
  have e0 := cell_row (j := 0) rK
  have e1 := cell_row (j := 1) rK
  have e2 := cell_row (j := 2) rK
  have e3 := cell_row (j := 3) rK
  have e4 := cell_row (j := 4) rK
  have f1 := cell_row (j := 1) rD
  have f2 := cell_row (j := 2) rD
  have f3 := cell_row (j := 3) rD
  have f4 := cell_row (j := 4) rD
  have f5 := cell_row (j := 5) rD
  have f7 := cell_row (j := 7) rD
  have g0 := cell_row (j := 0) rR
  have g1 := cell_row (j := 1) rR
  have g2 := cell_row (j := 2) rR
  have g3 := cell_row (j := 3) rR
  have g4 := cell_row (j := 4) rR
  simp [jRow] at e0 e1 e2 e3 e4 f1 f2 f3 f4 f5 f7 g0 g1 g2 g3 g4
  have hfD := fun j => frozen_row (j := j) rD
  have hfR := fun j => frozen_row (j := j) rR
  have RK := Lib.hid rK
  have RD := Lib.hid rD
  have RR := Lib.hid rR
  have HKW := Lib.hid hkw
  have HVW := Lib.hid hVW
  have HRAW := Lib.hid hrawW
  clear rK rD rR hkw hVW hrawW
  have hg3 : W3.cell? ⟨g, 0, none⟩ = some (.int .u16 256) := HKW.out.cell hg hgD
  have hsl := fun w' => jrun_sto (some ⟨g, 0, none⟩) 1 c 0 (by omega) w'
  have hsl0 : ∀ w', (Instr.slice 141 (.slice (some ⟨g, 0, none⟩) 1 c) none (some (.int .i64 0)) none).run Tryz.prog w' = .ok (.slice (some ⟨g, 0, none⟩) 0 c) w' := hsl
  clear hsl
  go_upto_region 39 with (fail)
  go_quiet (fail)
  go_upto_region 41 with (fail)
  refine wp_region_noPanic ?_
  go_region
  refine NoPanic.normal ?_
  go_upto_region 45 with (fail)
  obtain ⟨WN, hWN⟩ : ∃ WN, (W3.drewN (nq + 1)).setCell ⟨D, 7, none⟩ (.slice (some ⟨g, 0, none⟩) 0 c) = WN := ⟨_, rfl⟩
  have hkN : Keeps (fun j => j = D) W3 WN := by rw [← hWN]; exact Keeps.setCell (S := fun j => j = D) ((Keeps.refl _ W3).drewN (nq + 1)) ⟨D, 7, none⟩ (fun _ => rfl) _
  have RDX : Hid (WN.heap[D]? = some (.cells (jRow (.int .u16 8) p0 r0 b0 s0 (.slice (some ⟨g, 0, none⟩) 0 c) vo V) 143 (0, 0))) := by rw [← hWN]; exact (setCell_row (w := W3.drewN (nq + 1)) RD.out _).trans (by simp [jRow])
  have RRX := Lib.hid (hkN.row RR.out (by omega))
  have RKX := Lib.hid (hkN.row RK.out hKD)
  have CAX := Lib.hid (hkN.cell cA hAD)
  have HKWX : Hid (Keeps (fun k => k = D) w WN) := HKW.out.trans hkN (fun _ _ h => h)
  have nD0 : ∀ U, Within vi U → ∀ j, U.ownBlock = some j → ¬ j = D := fun U hU j hj h => by subst h; exact hvD (hU _ hj)
  have HVWX := Lib.hid (HVW.out.keeps hkN (nD0 _ hVi))
  have HRAWX := Lib.hid (HRAW.out.keeps hkN (nD0 _ hri))
  rw [hWN]
  clear nD0 HVW HRAW HKW
  have HKN := Lib.hid hkN
  clear hkN
  clear RR RK RD hWN

  clear e0 e1 e2 e3 e4 f1 f2 f3 f4 f5 f7 g0 g1 g2 g3 g4 hfD hfR cA
  have rD := RDX.out
  have rR := RRX.out
  have rK := RKX.out
  have cA := CAX.out
  have e0 := cell_row (j := 0) rK
  have e1 := cell_row (j := 1) rK
  have e2 := cell_row (j := 2) rK
  have e3 := cell_row (j := 3) rK
  have e4 := cell_row (j := 4) rK
  have f1 := cell_row (j := 1) rD
  have f2 := cell_row (j := 2) rD
  have f3 := cell_row (j := 3) rD
  have f4 := cell_row (j := 4) rD
  have f5 := cell_row (j := 5) rD
  have f7 := cell_row (j := 7) rD
  have g0 := cell_row (j := 0) rR
  have g1 := cell_row (j := 1) rR
  have g2 := cell_row (j := 2) rR
  have g3 := cell_row (j := 3) rR
  have g4 := cell_row (j := 4) rR
  simp [jRow] at e0 e1 e2 e3 e4 f1 f2 f3 f4 f5 f7 g0 g1 g2 g3 g4
  have hfD := fun j => frozen_row (j := j) rD
  have hfR := fun j => frozen_row (j := j) rR
  clear rK rD rR
  go_wp2
  have h4k : Keeps (fun j => j = D) WN (((((WN.setCell ⟨D, 1, none⟩ (.int .u16 512)).setCell ⟨D, 2, none⟩ (.int .i64 pos)).setCell ⟨D, 3, none⟩ (.slice ar rw.length cr)).setCell ⟨D, 4, none⟩ (.bool false)).setCell ⟨D, 5, none⟩ (.string ⟨#[]⟩)) := setCells_keeps' D [.int .u16 512, .int .i64 pos, .slice ar rw.length cr, .bool false, .string ⟨#[]⟩] 1 WN
  have h4r : (((((WN.setCell ⟨D, 1, none⟩ (.int .u16 512)).setCell ⟨D, 2, none⟩ (.int .i64 pos)).setCell ⟨D, 3, none⟩ (.slice ar rw.length cr)).setCell ⟨D, 4, none⟩ (.bool false)).setCell ⟨D, 5, none⟩ (.string ⟨#[]⟩)).heap[D]? = some (.cells (jRow (.int .u16 512) (.int .i64 pos) (.slice ar rw.length cr) (.bool false) (.string ⟨#[]⟩) (.slice (some ⟨g, 0, none⟩) 0 c) vo V) 143 (0, 0)) := (setCells5_row RDX.out 1 (.int .u16 512) (.int .i64 pos) (.slice ar rw.length cr) (.bool false) (.string ⟨#[]⟩)).trans (by simp [jRow])
  obtain ⟨W4, hW4⟩ : ∃ W4, (((((WN.setCell ⟨D, 1, none⟩ (.int .u16 512)).setCell ⟨D, 2, none⟩ (.int .i64 pos)).setCell ⟨D, 3, none⟩ (.slice ar rw.length cr)).setCell ⟨D, 4, none⟩ (.bool false)).setCell ⟨D, 5, none⟩ (.string ⟨#[]⟩)) = W4 := ⟨_, rfl⟩
  rw [hW4] at h4k h4r ⊢
  have h5k : Keeps (fun j => j = w.heap.size + 1) W4 (((((W4.setCell ⟨w.heap.size + 1, 0, none⟩ (.int .u16 512)).setCell ⟨w.heap.size + 1, 1, none⟩ (.int .i64 pos)).setCell ⟨w.heap.size + 1, 2, none⟩ (.slice ar rw.length cr)).setCell ⟨w.heap.size + 1, 3, none⟩ (.bool false)).setCell ⟨w.heap.size + 1, 4, none⟩ (.string ⟨#[]⟩)) := store5_keeps _ _ _ _ _ _ _
  have h5r : (((((W4.setCell ⟨w.heap.size + 1, 0, none⟩ (.int .u16 512)).setCell ⟨w.heap.size + 1, 1, none⟩ (.int .i64 pos)).setCell ⟨w.heap.size + 1, 2, none⟩ (.slice ar rw.length cr)).setCell ⟨w.heap.size + 1, 3, none⟩ (.bool false)).setCell ⟨w.heap.size + 1, 4, none⟩ (.string ⟨#[]⟩)).heap[w.heap.size + 1]? = some (.cells #[.int .u16 512, .int .i64 pos, .slice ar rw.length cr, .bool false, .string ⟨#[]⟩] 133 (0, 0)) := store5_row (h4k.row RRX.out hAD'.symm) _ _ _ _ _
  obtain ⟨W5, hW5⟩ : ∃ W5, (((((W4.setCell ⟨w.heap.size + 1, 0, none⟩ (.int .u16 512)).setCell ⟨w.heap.size + 1, 1, none⟩ (.int .i64 pos)).setCell ⟨w.heap.size + 1, 2, none⟩ (.slice ar rw.length cr)).setCell ⟨w.heap.size + 1, 3, none⟩ (.bool false)).setCell ⟨w.heap.size + 1, 4, none⟩ (.string ⟨#[]⟩)) = W5 := ⟨_, rfl⟩
  rw [hW5] at h5k h5r ⊢
  have hAl : w.heap.size < WN.heap.size := World.block_lt_of_cell? WN _ CAX.out
  have hRl : w.heap.size + 1 < WN.heap.size := row_lt RRX.out
  have hs4 := h4k.size
  have hs5 := h5k.size
  have h5A := h5k.cell (h4k.cell CAX.out (fun e => hAD e)) (by simp)
  have h5D := h5k.row h4r (fun e => hAD' e)
  refine leaves_cons (f := 93) (args := #[.pointer (some ⟨w.heap.size, 0, none⟩)]) (by simp) (by simp [go_sem]) ?_
  refine (jread_deferred D w.heap.size (.int .u8 0) .returning W5 h5A ((cell_row h5D).trans rfl) (frozen_row h5D)).mono ?_
  rintro e u' w6 ⟨rfl, rfl, rfl⟩
  have h6k : Keeps (fun j => j = D) W5 (W5.setCell ⟨D, 0, none⟩ (.int .u8 0)) := Keeps.setCell (S := fun j => j = D) (Keeps.refl _ W5) ⟨D, 0, none⟩ (fun _ => rfl) _
  have h6r := setCell_row (j := 0) h5D (.int .u8 0)
  have h6R := h6k.row h5r (fun e => hAD' e.symm)
  have hk3 : Keeps (fun j => j = D ∨ j = w.heap.size + 1) WN (W5.setCell ⟨D, 0, none⟩ (.int .u8 0)) := ((h4k.mono (S1 := fun j => j = D ∨ j = w.heap.size + 1) (fun _ _ h => .inl h)).trans h5k (fun i hi h => .inr h)).trans h6k (fun i hi h => .inl h)
  have nD : ∀ U, Within vi U → ∀ j, U.ownBlock = some j → ¬ (j = D ∨ j = w.heap.size + 1) := fun U hU j hj h => by
    have h1 := hvl j (hU j hj)
    rcases h with rfl | h
    · exact hvD (hU _ hj)
    · omega
  refine ⟨_, jresults (p := 2) (u := 3) rfl _ _ (w.heap.size + 1) (0, 0) rfl h6R, .slice ar rw.length cr, V, pos, .slice (some ⟨g, 0, none⟩) 0 c, rfl, HRAWX.out.keeps hk3 (nD _ hri), hri, HVWX.out.keeps hk3 (nD _ hVi), hVi, ?_, h6r.trans (by simp [jRow]), ?_⟩
  · refine ⟨hk3.os.trans HKWX.out.os, hk3.tape.trans HKWX.out.tape, hk3.output.trans HKWX.out.output, Nat.le_trans HKWX.out.size hk3.size, fun j hj1 hj2 => ?_⟩
    rw [hk3.block j (by have := HKWX.out.size; omega) (by omega), HKWX.out.block j hj1 hj2]
  · rfl

set_option maxRecDepth 1000000 in
set_option maxHeartbeats 20000000 in
theorem jread_eof (D : Nat) (p0 r0 b0 s0 : Value) (g c : Nat) (vo vi : Value) (rw rest : List UInt8) (w : World) (hrow : w.heap[D]? = some (.cells (jRow (.int .u16 512) p0 r0 b0 s0 (.slice (some ⟨g, 0, none⟩) 0 c) vo vi) 143 (0, 0)))
     (hvD : vi.ownBlock ≠ some D) (hvl : ∀ j, vi.ownBlock = some j → j < w.heap.size)
    (hnext : ∀ w1, Keeps (fun _ => False) w w1 → Calls Tryz.prog 94 #[.pointer (some ⟨D, 0, none⟩)] w1 (JNextPost D (jRow (.int .u16 512) p0 r0 b0 s0 (.slice (some ⟨g, 0, none⟩) 0 c) vo vi) vi w1 1 rw rest)) :
    Calls Tryz.prog 66 #[.pointer (some ⟨D, 0, none⟩)] w fun e w' =>
      ∃ raw V pos S', e = .returned (.tuple #[.agg #[.int .u16 1, .int .i64 pos, raw, .bool false, .string ⟨#[]⟩], .nilIface]) ∧ BytesAt w' raw rw ∧ Within vi raw ∧ BytesAt w' V rest ∧ Within vi V ∧
        Keeps (fun k => k = D) w w' ∧ w'.heap[D]? = some (.cells (jRow (.int .u16 1) (.int .i64 pos) raw (.bool false) (.string ⟨#[]⟩) S' vo V) 143 (0, 0)) ∧ True := by
  have hmf : ∀ (fn : Fn) (first cap : Array Value) (w : World), (Instr.makeFunc fn first cap).run Tryz.prog w = .ok (.func fn first cap) w := fun _ _ _ _ => rfl
  have hDl := row_lt hrow
  have c0 : w.cell? ⟨D, 0, none⟩ = some (.int .u8 0) := (cell_row hrow).trans rfl
  have HR := Lib.hid hrow
  clear hrow
  go_enter_defers Tryz.func66, Tryz.ntmps66
  go_wp2_with (fail)
  obtain ⟨W0, hW0⟩ : ∃ W0, (w.alloc (.cells #[.pointer (some ⟨D, 0, none⟩)] 101)).alloc (.cells #[.int .u16 0, .int .i64 0, .slice none 0 0, .bool false, .string ⟨#[]⟩] 133) = W0 := ⟨_, rfl⟩
  have hk0 : Keeps (fun _ => False) w W0 := by rw [← hW0]; exact ((Keeps.refl _ w).alloc _).alloc _
  have hA0 : W0.cell? ⟨w.heap.size, 0, none⟩ = some (.pointer (some ⟨D, 0, none⟩)) := by rw [← hW0, cell_row (heap_alloc2_old w _ _)]; rfl
  have hR0 : W0.heap[w.heap.size + 1]? = some (.cells #[.int .u16 0, .int .i64 0, .slice none 0 0, .bool false, .string ⟨#[]⟩] 133 (0, 0)) := by rw [← hW0]; exact heap_alloc2_new w _ _
  have hs0 : W0.heap.size = w.heap.size + 2 := by rw [← hW0]; simp
  rw [hW0]
  clear hW0 c0
  have hAD : w.heap.size ≠ D := by omega
  have HS0 := Lib.hid hs0
  clear hs0
  have hnx := hnext W0 hk0
  clear hnext
  go_upto_region 7 with (go_at_call 94; refine hnx.mono ?_; rintro e w2 ⟨raw, V, pos, rfl, hraw, hri, hV, hVi, hk2, hrD⟩; obtain ⟨ar, cr, hrf, _, _⟩ := hraw.form; subst hrf; have cA2 := hk2.cell hA0 hAD)
  have rD : w2.heap[D]? = some (.cells (jRow (.int .u16 512) p0 r0 b0 s0 (.slice (some ⟨g, 0, none⟩) 0 c) vo V) 143 (0, 0)) := by simpa [jRow] using hrD
  have rR := hk2.row hR0 (by omega)
  obtain ⟨W3, hW3⟩ : ∃ W3, w2.alloc (.cells #[.int .u16 1, .int .i64 pos, .slice ar rw.length cr, .bool false, .string ⟨#[]⟩] 133) = W3 := ⟨_, rfl⟩
  have rK : W3.heap[w2.heap.size]? = some (.cells #[.int .u16 1, .int .i64 pos, .slice ar rw.length cr, .bool false, .string ⟨#[]⟩] 133 (0, 0)) := by rw [← hW3]; exact heap_alloc_new w2 _
  have h3k : Keeps (fun _ => False) w2 W3 := by rw [← hW3]; exact (Keeps.refl _ w2).alloc _
  have hKl3 : w2.heap.size < W3.heap.size := row_lt rK
  obtain ⟨K, hK⟩ : ∃ K, w2.heap.size = K := ⟨_, rfl⟩
  have hne : w2.heap.size ≠ D ∧ w2.heap.size ≠ w.heap.size + 1 ∧ w2.heap.size ≠ w.heap.size ∧ w.heap.size + 2 ≤ w2.heap.size := by have h := HS0.out; have h1 := hk2.size; omega
  rw [hW3, hK]
  rw [hK] at rK hne hKl3
  obtain ⟨hKD, hKR, hKA, hKl⟩ := hne
  have hrawW := hraw.keeps h3k (fun _ _ => id)
  have hVW := hV.keeps h3k (fun _ _ => id)
  replace rD := h3k.row rD id
  replace rR := h3k.row rR id
  have cA := h3k.cell cA2 id
  have hkw : Keeps (fun k => k = D) w W3 := ((hk0.mono (S1 := fun k => k = D) (fun _ _ => False.elim)).trans hk2 (fun _ _ h => h)).trans h3k (fun _ _ => False.elim)
  clear hW3 hK hrD hk2 h3k cA2 hR0 hA0 hnx hraw hV
  have hAD' : D ≠ w.heap.size + 1 := by omega
  have e0 := cell_row (j := 0) rK
  have e1 := cell_row (j := 1) rK
  have e2 := cell_row (j := 2) rK
  have e3 := cell_row (j := 3) rK
  have e4 := cell_row (j := 4) rK
  have f1 := cell_row (j := 1) rD
  have f2 := cell_row (j := 2) rD
  have f3 := cell_row (j := 3) rD
  have f4 := cell_row (j := 4) rD
  have f5 := cell_row (j := 5) rD
  have f7 := cell_row (j := 7) rD
  have g0 := cell_row (j := 0) rR
  have g1 := cell_row (j := 1) rR
  have g2 := cell_row (j := 2) rR
  have g3 := cell_row (j := 3) rR
  have g4 := cell_row (j := 4) rR
  simp [jRow] at e0 e1 e2 e3 e4 f1 f2 f3 f4 f5 f7 g0 g1 g2 g3 g4
  have hfD := fun j => frozen_row (j := j) rD
  have hfR := fun j => frozen_row (j := j) rR
  have RK := Lib.hid rK
  have RD := Lib.hid rD
  have RR := Lib.hid rR
  have HKW := Lib.hid hkw
  have HVW := Lib.hid hVW
  have HRAW := Lib.hid hrawW
  clear rK rD rR hkw hVW hrawW
  go_upto_region 45 with (fail)
  obtain ⟨WN, hWN⟩ : ∃ WN, W3 = WN := ⟨_, rfl⟩
  have hkN : Keeps (fun j => j = D) W3 WN := by rw [← hWN]; exact Keeps.refl _ W3
  have RDX : Hid (WN.heap[D]? = some (.cells (jRow (.int .u16 512) p0 r0 b0 s0 (.slice (some ⟨g, 0, none⟩) 0 c) vo V) 143 (0, 0))) := by rw [← hWN]; exact RD.out
  have RRX := Lib.hid (hkN.row RR.out (by omega))
  have RKX := Lib.hid (hkN.row RK.out hKD)
  have CAX := Lib.hid (hkN.cell cA hAD)
  have HKWX : Hid (Keeps (fun k => k = D) w WN) := HKW.out.trans hkN (fun _ _ h => h)
  have nD0 : ∀ U, Within vi U → ∀ j, U.ownBlock = some j → ¬ j = D := fun U hU j hj h => by subst h; exact hvD (hU _ hj)
  have HVWX := Lib.hid (HVW.out.keeps hkN (nD0 _ hVi))
  have HRAWX := Lib.hid (HRAW.out.keeps hkN (nD0 _ hri))
  rw [hWN]
  clear nD0 HVW HRAW HKW
  have HKN := Lib.hid hkN
  clear hkN
  clear RR RK RD hWN

  clear e0 e1 e2 e3 e4 f1 f2 f3 f4 f5 f7 g0 g1 g2 g3 g4 hfD hfR cA
  have rD := RDX.out
  have rR := RRX.out
  have rK := RKX.out
  have cA := CAX.out
  have e0 := cell_row (j := 0) rK
  have e1 := cell_row (j := 1) rK
  have e2 := cell_row (j := 2) rK
  have e3 := cell_row (j := 3) rK
  have e4 := cell_row (j := 4) rK
  have f1 := cell_row (j := 1) rD
  have f2 := cell_row (j := 2) rD
  have f3 := cell_row (j := 3) rD
  have f4 := cell_row (j := 4) rD
  have f5 := cell_row (j := 5) rD
  have f7 := cell_row (j := 7) rD
  have g0 := cell_row (j := 0) rR
  have g1 := cell_row (j := 1) rR
  have g2 := cell_row (j := 2) rR
  have g3 := cell_row (j := 3) rR
  have g4 := cell_row (j := 4) rR
  simp [jRow] at e0 e1 e2 e3 e4 f1 f2 f3 f4 f5 f7 g0 g1 g2 g3 g4
  have hfD := fun j => frozen_row (j := j) rD
  have hfR := fun j => frozen_row (j := j) rR
  clear rK rD rR
  go_wp2
  have h4k : Keeps (fun j => j = D) WN (((((WN.setCell ⟨D, 1, none⟩ (.int .u16 1)).setCell ⟨D, 2, none⟩ (.int .i64 pos)).setCell ⟨D, 3, none⟩ (.slice ar rw.length cr)).setCell ⟨D, 4, none⟩ (.bool false)).setCell ⟨D, 5, none⟩ (.string ⟨#[]⟩)) := setCells_keeps' D [.int .u16 1, .int .i64 pos, .slice ar rw.length cr, .bool false, .string ⟨#[]⟩] 1 WN
  have h4r : (((((WN.setCell ⟨D, 1, none⟩ (.int .u16 1)).setCell ⟨D, 2, none⟩ (.int .i64 pos)).setCell ⟨D, 3, none⟩ (.slice ar rw.length cr)).setCell ⟨D, 4, none⟩ (.bool false)).setCell ⟨D, 5, none⟩ (.string ⟨#[]⟩)).heap[D]? = some (.cells (jRow (.int .u16 1) (.int .i64 pos) (.slice ar rw.length cr) (.bool false) (.string ⟨#[]⟩) (.slice (some ⟨g, 0, none⟩) 0 c) vo V) 143 (0, 0)) := (setCells5_row RDX.out 1 (.int .u16 1) (.int .i64 pos) (.slice ar rw.length cr) (.bool false) (.string ⟨#[]⟩)).trans (by simp [jRow])
  obtain ⟨W4, hW4⟩ : ∃ W4, (((((WN.setCell ⟨D, 1, none⟩ (.int .u16 1)).setCell ⟨D, 2, none⟩ (.int .i64 pos)).setCell ⟨D, 3, none⟩ (.slice ar rw.length cr)).setCell ⟨D, 4, none⟩ (.bool false)).setCell ⟨D, 5, none⟩ (.string ⟨#[]⟩)) = W4 := ⟨_, rfl⟩
  rw [hW4] at h4k h4r ⊢
  have h5k : Keeps (fun j => j = w.heap.size + 1) W4 (((((W4.setCell ⟨w.heap.size + 1, 0, none⟩ (.int .u16 1)).setCell ⟨w.heap.size + 1, 1, none⟩ (.int .i64 pos)).setCell ⟨w.heap.size + 1, 2, none⟩ (.slice ar rw.length cr)).setCell ⟨w.heap.size + 1, 3, none⟩ (.bool false)).setCell ⟨w.heap.size + 1, 4, none⟩ (.string ⟨#[]⟩)) := store5_keeps _ _ _ _ _ _ _
  have h5r : (((((W4.setCell ⟨w.heap.size + 1, 0, none⟩ (.int .u16 1)).setCell ⟨w.heap.size + 1, 1, none⟩ (.int .i64 pos)).setCell ⟨w.heap.size + 1, 2, none⟩ (.slice ar rw.length cr)).setCell ⟨w.heap.size + 1, 3, none⟩ (.bool false)).setCell ⟨w.heap.size + 1, 4, none⟩ (.string ⟨#[]⟩)).heap[w.heap.size + 1]? = some (.cells #[.int .u16 1, .int .i64 pos, .slice ar rw.length cr, .bool false, .string ⟨#[]⟩] 133 (0, 0)) := store5_row (h4k.row RRX.out hAD'.symm) _ _ _ _ _
  obtain ⟨W5, hW5⟩ : ∃ W5, (((((W4.setCell ⟨w.heap.size + 1, 0, none⟩ (.int .u16 1)).setCell ⟨w.heap.size + 1, 1, none⟩ (.int .i64 pos)).setCell ⟨w.heap.size + 1, 2, none⟩ (.slice ar rw.length cr)).setCell ⟨w.heap.size + 1, 3, none⟩ (.bool false)).setCell ⟨w.heap.size + 1, 4, none⟩ (.string ⟨#[]⟩)) = W5 := ⟨_, rfl⟩
  rw [hW5] at h5k h5r ⊢
  have hAl : w.heap.size < WN.heap.size := World.block_lt_of_cell? WN _ CAX.out
  have hRl : w.heap.size + 1 < WN.heap.size := row_lt RRX.out
  have hs4 := h4k.size
  have hs5 := h5k.size
  have h5A := h5k.cell (h4k.cell CAX.out (fun e => hAD e)) (by simp)
  have h5D := h5k.row h4r (fun e => hAD' e)
  refine leaves_cons (f := 93) (args := #[.pointer (some ⟨w.heap.size, 0, none⟩)]) (by simp) (by simp [go_sem]) ?_
  refine (jread_deferred D w.heap.size (.int .u8 0) .returning W5 h5A ((cell_row h5D).trans rfl) (frozen_row h5D)).mono ?_
  rintro e u' w6 ⟨rfl, rfl, rfl⟩
  have h6k : Keeps (fun j => j = D) W5 (W5.setCell ⟨D, 0, none⟩ (.int .u8 0)) := Keeps.setCell (S := fun j => j = D) (Keeps.refl _ W5) ⟨D, 0, none⟩ (fun _ => rfl) _
  have h6r := setCell_row (j := 0) h5D (.int .u8 0)
  have h6R := h6k.row h5r (fun e => hAD' e.symm)
  have hk3 : Keeps (fun j => j = D ∨ j = w.heap.size + 1) WN (W5.setCell ⟨D, 0, none⟩ (.int .u8 0)) := ((h4k.mono (S1 := fun j => j = D ∨ j = w.heap.size + 1) (fun _ _ h => .inl h)).trans h5k (fun i hi h => .inr h)).trans h6k (fun i hi h => .inl h)
  have nD : ∀ U, Within vi U → ∀ j, U.ownBlock = some j → ¬ (j = D ∨ j = w.heap.size + 1) := fun U hU j hj h => by
    have h1 := hvl j (hU j hj)
    rcases h with rfl | h
    · exact hvD (hU _ hj)
    · omega
  refine ⟨_, jresults (p := 2) (u := 3) rfl _ _ (w.heap.size + 1) (0, 0) rfl h6R, .slice ar rw.length cr, V, pos, .slice (some ⟨g, 0, none⟩) 0 c, rfl, HRAWX.out.keeps hk3 (nD _ hri), hri, HVWX.out.keeps hk3 (nD _ hVi), hVi, ?_, h6r.trans (by simp [jRow]), ?_⟩
  · refine ⟨hk3.os.trans HKWX.out.os, hk3.tape.trans HKWX.out.tape, hk3.output.trans HKWX.out.output, Nat.le_trans HKWX.out.size hk3.size, fun j hj1 hj2 => ?_⟩
    rw [hk3.block j (by have := HKWX.out.size; omega) (by omega), HKWX.out.block j hj1 hj2]
  · trivial
end Go.Proofs.YtmijjppjodpagaaGreatDoor
