/-
  (*Decoder).Read of the text form, over whatever parseNext hands it.
  parseNext ahead of the first name.
  parseNext at a name behind a scalar.
-/
import Derived.Test.YtmijjppjodpagaaGreatDoorM31
import Derived.Defers
import Derived.Deep.RegionHeld3
set_option linter.unusedVariables false
set_option linter.unusedSimpArgs false
namespace Go.Proofs.YtmijjppjodpagaaGreatDoor
open Go.RowKit

/-- The cells of a Decoder: its last token's six, its whole input, its rest. -/
def dRow (k a na p r s : Value) (vo vi : Value) : Array Value := #[.int .u8 0, k, a, na, p, r, s, .nilIface, .slice none 0 0, vo, vi]

set_option maxRecDepth 1000000 in
theorem read_deferred (D A : Nat) (c0 : Value) (u : FrameMode) (w : World) (hA : w.cell? ⟨A, 0, none⟩ = some (.pointer (some ⟨D, 0, none⟩))) (hD : w.cell? ⟨D, 0, none⟩ = some c0) (hf : w.frozen? ⟨D, 0, none⟩ = false) :
    CallsD Tryz.prog 84 #[.pointer (some ⟨A, 0, none⟩)] u w fun e u' w' => u' = u ∧ (e = .returned (.tuple #[]) ∧ w' = w.setCell ⟨D, 0, none⟩ (.int .u8 0)) := by
  go_enter_d Tryz.func84, Tryz.ntmps84
  go_wp2
  go_end0
  exact ⟨rfl, rfl⟩

set_option maxRecDepth 1000000 in
set_option maxHeartbeats 20000000 in
theorem read_of (D : Nat) (k0 : Nat) (ta tna tp tr ts : Value) (vo vi : Value) (k a na : Nat) (s : ByteArray) (rw rest : List UInt8) (w : World) (hrow : w.heap[D]? = some (.cells (dRow (.int .u8 k0) ta tna tp tr ts vo vi) 129 (0, 0)))
    (hk8 : ((k : Int) == 8) = false) (hk9 : ((k : Int) == 9) = false) (hvD : vi.ownBlock ≠ some D) (hvl : ∀ j, vi.ownBlock = some j → j < w.heap.size)
    (hnext : ∀ w1, Keeps (fun _ => False) w w1 → Calls Tryz.prog 85 #[.pointer (some ⟨D, 0, none⟩), .int .u8 k0] w1 (NextPost D (dRow (.int .u8 k0) ta tna tp tr ts vo vi) vi w1 k a na s rw rest)) :
    Calls Tryz.prog 62 #[.pointer (some ⟨D, 0, none⟩)] w fun e w' =>
      ∃ raw V pos, e = .returned (.tuple #[.agg #[.int .u8 k, .int .u8 a, .int .u8 na, .int .i64 pos, raw, .string s], .nilIface]) ∧ BytesAt w' raw rw ∧ Within vi raw ∧ BytesAt w' V rest ∧ Within vi V ∧
        Keeps (fun k => k = D) w w' ∧ w'.heap[D]? = some (.cells (dRow (.int .u8 k) (.int .u8 a) (.int .u8 na) (.int .i64 pos) raw (.string s) vo V) 129 (0, 0)) := by
  have hmf : ∀ (fn : Fn) (first cap : Array Value) (w : World), (Instr.makeFunc fn first cap).run Tryz.prog w = .ok (.func fn first cap) w := fun _ _ _ _ => rfl
  have hDl := row_lt hrow
  have c0 : w.cell? ⟨D, 0, none⟩ = some (.int .u8 0) := (cell_row hrow).trans rfl
  have c1 : w.cell? ⟨D, 1, none⟩ = some (.int .u8 k0) := (cell_row hrow).trans rfl
  have HR := Lib.hid hrow
  clear hrow
  go_enter_defers Tryz.func62, Tryz.ntmps62
  go_wp2
  obtain ⟨W0, hW0⟩ : ∃ W0, (w.alloc (.cells #[.pointer (some ⟨D, 0, none⟩)] 98)).alloc (.cells #[.int .u8 0, .int .u8 0, .int .u8 0, .int .i64 0, .slice none 0 0, .string ⟨#[]⟩] 120) = W0 := ⟨_, rfl⟩
  have hk0 : Keeps (fun _ => False) w W0 := by rw [← hW0]; exact ((Keeps.refl _ w).alloc _).alloc _
  have hA0 : W0.cell? ⟨w.heap.size, 0, none⟩ = some (.pointer (some ⟨D, 0, none⟩)) := by rw [← hW0, cell_row (heap_alloc2_old w _ _)]; rfl
  have hR0 : W0.heap[w.heap.size + 1]? = some (.cells #[.int .u8 0, .int .u8 0, .int .u8 0, .int .i64 0, .slice none 0 0, .string ⟨#[]⟩] 120 (0, 0)) := by rw [← hW0]; exact heap_alloc2_new w _ _
  have hs0 : W0.heap.size = w.heap.size + 2 := by rw [← hW0]; simp
  have hc1 := hk0.cell c1 id
  rw [hW0]
  clear hW0 c0 c1
  have hAD : w.heap.size ≠ D := by omega
  have hKs : W0.heap.size ≠ D := by omega
  have hC0 : ∀ o, (W0.alloc o).cell? ⟨w.heap.size, 0, none⟩ = some (.pointer (some ⟨D, 0, none⟩)) := fun o => ((Keeps.refl (fun _ => False) W0).alloc o).cell hA0 id
  have hC1 : ∀ o, (W0.alloc o).cell? ⟨D, 1, none⟩ = some (.int .u8 k0) := fun o => ((Keeps.refl (fun _ => False) W0).alloc o).cell hc1 id
  have hAK : w.heap.size ≠ W0.heap.size := by omega
  have hDK : D ≠ W0.heap.size := by omega
  have hS6 : ∀ (w2 : World) (a b c d e f : Value), w2.cell? ⟨w.heap.size, 0, none⟩ = some (.pointer (some ⟨D, 0, none⟩)) → w2.cell? ⟨D, 1, none⟩ = some (.int .u8 k0) →
      ((((((w2.setCell ⟨W0.heap.size, 0, none⟩ a).setCell ⟨W0.heap.size, 1, none⟩ b).setCell ⟨W0.heap.size, 2, none⟩ c).setCell ⟨W0.heap.size, 3, none⟩ d).setCell ⟨W0.heap.size, 4, none⟩ e).setCell ⟨W0.heap.size, 5, none⟩ f).cell? ⟨w.heap.size, 0, none⟩ = some (.pointer (some ⟨D, 0, none⟩)) ∧ ((((((w2.setCell ⟨W0.heap.size, 0, none⟩ a).setCell ⟨W0.heap.size, 1, none⟩ b).setCell ⟨W0.heap.size, 2, none⟩ c).setCell ⟨W0.heap.size, 3, none⟩ d).setCell ⟨W0.heap.size, 4, none⟩ e).setCell ⟨W0.heap.size, 5, none⟩ f).cell? ⟨D, 1, none⟩ = some (.int .u8 k0) :=
    fun w2 a b c d e f h1 h2 => ⟨(store6_keeps w2 W0.heap.size a b c d e f).cell h1 hAK, (store6_keeps w2 W0.heap.size a b c d e f).cell h2 hDK⟩
  have hSA : ∀ (w2 : World) (o : Obj), w2.cell? ⟨w.heap.size, 0, none⟩ = some (.pointer (some ⟨D, 0, none⟩)) → w2.cell? ⟨D, 1, none⟩ = some (.int .u8 k0) →
      (w2.alloc o).cell? ⟨w.heap.size, 0, none⟩ = some (.pointer (some ⟨D, 0, none⟩)) ∧ (w2.alloc o).cell? ⟨D, 1, none⟩ = some (.int .u8 k0) :=
    fun w2 o h1 h2 => ⟨((Keeps.refl (fun _ => False) w2).alloc o).cell h1 id, ((Keeps.refl (fun _ => False) w2).alloc o).cell h2 id⟩
  have HS0 := Lib.hid hs0
  clear hs0
  go_region_held3 (fun w' => w'.cell? ⟨w.heap.size, 0, none⟩ = some (.pointer (some ⟨D, 0, none⟩)) ∧ w'.cell? ⟨D, 1, none⟩ = some (.int .u8 k0))
    (first | (with_reducible exact ⟨s1, s2⟩) | (with_reducible exact hS6 _ _ _ _ _ _ _ s1 s2) | (with_reducible exact hSA _ _ s1 s2) | (with_reducible exact hSA _ _ hA0 hc1) | go_keep)
    (first
      | (go_at_call 85; refine (hnext _ ?_).mono ?_; exact (hk0.alloc _).drew; rintro e w2 ⟨raw, V, pos, rfl, hraw, hri, hV, hVi, hk2, hrD⟩; obtain ⟨ar, cr, hrf, _, _⟩ := hraw.form; subst hrf; have s1 : w2.cell? ⟨w.heap.size, 0, none⟩ = some (.pointer (some ⟨D, 0, none⟩)) := hk2.cell (hC0 _) hAD; have s2 : w2.cell? ⟨D, 1, none⟩ = some (.int .u8 k0) := (cell_row hrD).trans rfl; have hrK := hk2.row (heap_alloc_new W0 _) hKs; have hfK := fun j => frozen_row (j := j) hrK; have q0 := cell_row (j := 0) hrK; have q1 := cell_row (j := 1) hrK; have q2 := cell_row (j := 2) hrK; have q3 := cell_row (j := 3) hrK; have q4 := cell_row (j := 4) hrK; have q5 := cell_row (j := 5) hrK; simp at q0 q1 q2 q3 q4 q5)
      | (go_at_call 85; refine (hnext _ ?_).mono ?_; exact hk0.drew; rintro e w2 ⟨raw, V, pos, rfl, hraw, hri, hV, hVi, hk2, hrD⟩; obtain ⟨ar, cr, hrf, _, _⟩ := hraw.form; subst hrf; have s1 : w2.cell? ⟨w.heap.size, 0, none⟩ = some (.pointer (some ⟨D, 0, none⟩)) := hk2.cell hA0 hAD; have s2 : w2.cell? ⟨D, 1, none⟩ = some (.int .u8 k0) := (cell_row hrD).trans rfl))
  · -- the variable is made behind the call
    have hrD' : w2.heap[D]? = some (.cells (dRow (.int .u8 k0) ta tna tp tr ts vo V) 129 (0, 0)) := by simpa [dRow] using hrD
    have hk2' : Keeps (fun k => k = D) W0 w2 := ((Keeps.refl _ W0).drew).trans hk2 (fun _ _ h => h)
    have hR2 := hk2'.row hR0 (by omega)
    have hs2 : W0.heap.size ≤ w2.heap.size := hk2.size
    have h3k : Keeps (fun j => j = w2.heap.size) w2 (w2.alloc (.cells #[.int .u8 k, .int .u8 a, .int .u8 na, .int .i64 pos, .slice ar rw.length cr, .string s] 120)) := (Keeps.refl _ w2).alloc _
    have rK := heap_alloc_new w2 (.cells #[.int .u8 k, .int .u8 a, .int .u8 na, .int .i64 pos, .slice ar rw.length cr, .string s] 120)
    have hne : w2.heap.size ≠ D ∧ w2.heap.size ≠ w.heap.size + 1 ∧ w2.heap.size ≠ w.heap.size ∧ w.heap.size ≤ w2.heap.size := by have h := HS0.out; omega
    generalize w2.alloc (.cells #[.int .u8 k, .int .u8 a, .int .u8 na, .int .i64 pos, .slice ar rw.length cr, .string s] 120) = W3 at *
    generalize w2.heap.size = K at *
    obtain ⟨hKD, hKR, hKA, hKl⟩ := hne
    have hrawW : BytesAt W3 (.slice ar rw.length cr) rw := hraw.keeps h3k (fun j hj e => by have h1 := hvl j (hri j hj); omega)
    have hVW : BytesAt W3 V rest := hV.keeps h3k (fun j hj e => by have h1 := hvl j (hVi j hj); omega)
    have rD := h3k.row hrD' (fun e => hKD e.symm)
    have rR := h3k.row hR2 (fun e => hKR e.symm)
    have cA := h3k.cell s1 (fun e => hKA e.symm)
    have hkw : Keeps (fun k => k = D) w W3 := ((hk0.mono (S1 := fun k => k = D) (fun _ _ => False.elim)).trans hk2' (fun _ _ h => h)).trans h3k (fun i hi h => by omega)
    clear hnext hrD hrD' hk2 hk2' hR2 h3k s1 s2 hR0 hA0 hc1 hC0 hC1 hS6 hSA hAK hDK hKs
    have hfD := fun j => frozen_row (j := j) rD
    have hfR := fun j => frozen_row (j := j) rR
    have hAD' : D ≠ w.heap.size + 1 := by omega
    have e0 := cell_row (j := 0) rK
    have e1 := cell_row (j := 1) rK
    have e2 := cell_row (j := 2) rK
    have e3 := cell_row (j := 3) rK
    have e4 := cell_row (j := 4) rK
    have e5 := cell_row (j := 5) rK
    have f1 := cell_row (j := 1) rD
    have f2 := cell_row (j := 2) rD
    have f3 := cell_row (j := 3) rD
    have f4 := cell_row (j := 4) rD
    have f5 := cell_row (j := 5) rD
    have f6 := cell_row (j := 6) rD
    have g0 := cell_row (j := 0) rR
    have g1 := cell_row (j := 1) rR
    have g2 := cell_row (j := 2) rR
    have g3 := cell_row (j := 3) rR
    have g4 := cell_row (j := 4) rR
    have g5 := cell_row (j := 5) rR
    simp [dRow] at e0 e1 e2 e3 e4 e5 f1 f2 f3 f4 f5 f6 g0 g1 g2 g3 g4 g5
    have RK := Lib.hid rK
    have RD := Lib.hid rD
    have RR := Lib.hid rR
    clear rK rD rR
    go_simp
    go_wp2
    have h4k : Keeps (fun j => j = D) W3 ((((((W3.setCell ⟨D, 1, none⟩ (.int .u8 k)).setCell ⟨D, 2, none⟩ (.int .u8 a)).setCell ⟨D, 3, none⟩ (.int .u8 na)).setCell ⟨D, 4, none⟩ (.int .i64 pos)).setCell ⟨D, 5, none⟩ (.slice ar rw.length cr)).setCell ⟨D, 6, none⟩ (.string s)) := setCells_keeps D [.int .u8 k, .int .u8 a, .int .u8 na, .int .i64 pos, .slice ar rw.length cr, .string s] 1 W3
    have h4r : ((((((W3.setCell ⟨D, 1, none⟩ (.int .u8 k)).setCell ⟨D, 2, none⟩ (.int .u8 a)).setCell ⟨D, 3, none⟩ (.int .u8 na)).setCell ⟨D, 4, none⟩ (.int .i64 pos)).setCell ⟨D, 5, none⟩ (.slice ar rw.length cr)).setCell ⟨D, 6, none⟩ (.string s)).heap[D]? = some (.cells (dRow (.int .u8 k) (.int .u8 a) (.int .u8 na) (.int .i64 pos) (.slice ar rw.length cr) (.string s) vo V) 129 (0, 0)) := (setCells6_row RD.out 1 (.int .u8 k) (.int .u8 a) (.int .u8 na) (.int .i64 pos) (.slice ar rw.length cr) (.string s)).trans (by simp [dRow])
    have h5k : Keeps (fun j => j = w.heap.size + 1) ((((((W3.setCell ⟨D, 1, none⟩ (.int .u8 k)).setCell ⟨D, 2, none⟩ (.int .u8 a)).setCell ⟨D, 3, none⟩ (.int .u8 na)).setCell ⟨D, 4, none⟩ (.int .i64 pos)).setCell ⟨D, 5, none⟩ (.slice ar rw.length cr)).setCell ⟨D, 6, none⟩ (.string s)) ((((((((((((W3.setCell ⟨D, 1, none⟩ (.int .u8 k)).setCell ⟨D, 2, none⟩ (.int .u8 a)).setCell ⟨D, 3, none⟩ (.int .u8 na)).setCell ⟨D, 4, none⟩ (.int .i64 pos)).setCell ⟨D, 5, none⟩ (.slice ar rw.length cr)).setCell ⟨D, 6, none⟩ (.string s)).setCell ⟨w.heap.size + 1, 0, none⟩ (.int .u8 k)).setCell ⟨w.heap.size + 1, 1, none⟩ (.int .u8 a)).setCell ⟨w.heap.size + 1, 2, none⟩ (.int .u8 na)).setCell ⟨w.heap.size + 1, 3, none⟩ (.int .i64 pos)).setCell ⟨w.heap.size + 1, 4, none⟩ (.slice ar rw.length cr)).setCell ⟨w.heap.size + 1, 5, none⟩ (.string s)) := store6_keeps _ _ _ _ _ _ _ _
    have h5r : ((((((((((((W3.setCell ⟨D, 1, none⟩ (.int .u8 k)).setCell ⟨D, 2, none⟩ (.int .u8 a)).setCell ⟨D, 3, none⟩ (.int .u8 na)).setCell ⟨D, 4, none⟩ (.int .i64 pos)).setCell ⟨D, 5, none⟩ (.slice ar rw.length cr)).setCell ⟨D, 6, none⟩ (.string s)).setCell ⟨w.heap.size + 1, 0, none⟩ (.int .u8 k)).setCell ⟨w.heap.size + 1, 1, none⟩ (.int .u8 a)).setCell ⟨w.heap.size + 1, 2, none⟩ (.int .u8 na)).setCell ⟨w.heap.size + 1, 3, none⟩ (.int .i64 pos)).setCell ⟨w.heap.size + 1, 4, none⟩ (.slice ar rw.length cr)).setCell ⟨w.heap.size + 1, 5, none⟩ (.string s)).heap[w.heap.size + 1]? = some (.cells #[.int .u8 k, .int .u8 a, .int .u8 na, .int .i64 pos, .slice ar rw.length cr, .string s] 120 (0, 0)) := store6_row (h4k.row RR.out hAD'.symm) _ _ _ _ _ _
    obtain ⟨W4, hW4⟩ : ∃ W4, ((((((W3.setCell ⟨D, 1, none⟩ (.int .u8 k)).setCell ⟨D, 2, none⟩ (.int .u8 a)).setCell ⟨D, 3, none⟩ (.int .u8 na)).setCell ⟨D, 4, none⟩ (.int .i64 pos)).setCell ⟨D, 5, none⟩ (.slice ar rw.length cr)).setCell ⟨D, 6, none⟩ (.string s)) = W4 := ⟨_, rfl⟩
    rw [hW4] at h4k h4r h5k h5r ⊢
    obtain ⟨W5, hW5⟩ : ∃ W5, ((((((W4.setCell ⟨w.heap.size + 1, 0, none⟩ (.int .u8 k)).setCell ⟨w.heap.size + 1, 1, none⟩ (.int .u8 a)).setCell ⟨w.heap.size + 1, 2, none⟩ (.int .u8 na)).setCell ⟨w.heap.size + 1, 3, none⟩ (.int .i64 pos)).setCell ⟨w.heap.size + 1, 4, none⟩ (.slice ar rw.length cr)).setCell ⟨w.heap.size + 1, 5, none⟩ (.string s)) = W5 := ⟨_, rfl⟩
    rw [hW5] at h5k h5r ⊢
    have hAl : w.heap.size < W3.heap.size := World.block_lt_of_cell? W3 _ cA
    have hRl : w.heap.size + 1 < W3.heap.size := row_lt RR.out
    have hs4 := h4k.size
    have hs5 := h5k.size
    have h5A := h5k.cell (h4k.cell cA (fun e => hAD e)) (by simp)
    have h5D := h5k.row h4r (fun e => hAD' e)
    refine leaves_cons (f := 84) (args := #[.pointer (some ⟨w.heap.size, 0, none⟩)]) (by simp) (by simp [go_sem]) ?_
    refine (read_deferred D w.heap.size (.int .u8 0) .returning W5 h5A ((cell_row h5D).trans rfl) (frozen_row h5D)).mono ?_
    rintro e u' w6 ⟨rfl, rfl, rfl⟩
    have h6k : Keeps (fun j => j = D) W5 (W5.setCell ⟨D, 0, none⟩ (.int .u8 0)) := Keeps.setCell (S := fun j => j = D) (Keeps.refl _ W5) ⟨D, 0, none⟩ (fun _ => rfl) _
    have h6r := setCell_row (j := 0) h5D (.int .u8 0)
    have h6R := h6k.row h5r (fun e => hAD' e.symm)
    have hk3 : Keeps (fun j => j = D ∨ w.heap.size ≤ j) W3 (W5.setCell ⟨D, 0, none⟩ (.int .u8 0)) := ((h4k.mono (S1 := fun j => j = D ∨ w.heap.size ≤ j) (fun _ _ h => .inl h)).trans h5k (fun i hi h => .inr (by omega))).trans h6k (fun i hi h => .inl h)
    have nD : ∀ U, Within vi U → ∀ j, U.ownBlock = some j → ¬ (j = D ∨ w.heap.size ≤ j) := fun U hU j hj h => by
      have h1 := hvl j (hU j hj)
      rcases h with rfl | h
      · exact hvD (hU _ hj)
      · omega
    refine ⟨_, results_cell_slot (p := 2) (u := 3) rfl _ _ (w.heap.size + 1) (0, 0) rfl h6R, .slice ar rw.length cr, V, pos, rfl, hrawW.keeps hk3 (nD _ hri), hri, hVW.keeps hk3 (nD _ hVi), hVi, ?_, h6r.trans (by simp [dRow])⟩
    refine ⟨hk3.os.trans hkw.os, hk3.tape.trans hkw.tape, hk3.output.trans hkw.output, Nat.le_trans hkw.size hk3.size, fun j hj1 hj2 => ?_⟩
    rw [hk3.block j (by have := hkw.size; omega) (by omega), hkw.block j hj1 hj2]
  · -- the variable is made ahead of it
    have hrD' : w2.heap[D]? = some (.cells (dRow (.int .u8 k0) ta tna tp tr ts vo V) 129 (0, 0)) := by simpa [dRow] using hrD
    have hk2' : Keeps (fun k => k = D) W0 w2 := (((Keeps.refl _ W0).alloc _).drew).trans hk2 (fun _ _ h => h)
    have hR2 := hk2'.row hR0 (by omega)
    have h3k : Keeps (fun j => j = W0.heap.size) w2 ((((((w2.setCell ⟨W0.heap.size, 0, none⟩ (.int .u8 k)).setCell ⟨W0.heap.size, 1, none⟩ (.int .u8 a)).setCell ⟨W0.heap.size, 2, none⟩ (.int .u8 na)).setCell ⟨W0.heap.size, 3, none⟩ (.int .i64 pos)).setCell ⟨W0.heap.size, 4, none⟩ (.slice ar rw.length cr)).setCell ⟨W0.heap.size, 5, none⟩ (.string s)) := store6_keeps w2 W0.heap.size _ _ _ _ _ _
    have rK : ((((((w2.setCell ⟨W0.heap.size, 0, none⟩ (.int .u8 k)).setCell ⟨W0.heap.size, 1, none⟩ (.int .u8 a)).setCell ⟨W0.heap.size, 2, none⟩ (.int .u8 na)).setCell ⟨W0.heap.size, 3, none⟩ (.int .i64 pos)).setCell ⟨W0.heap.size, 4, none⟩ (.slice ar rw.length cr)).setCell ⟨W0.heap.size, 5, none⟩ (.string s)).heap[W0.heap.size]? = some (.cells #[.int .u8 k, .int .u8 a, .int .u8 na, .int .i64 pos, .slice ar rw.length cr, .string s] 120 (0, 0)) := store6_row hrK _ _ _ _ _ _
    have hne : W0.heap.size ≠ D ∧ W0.heap.size ≠ w.heap.size + 1 ∧ W0.heap.size ≠ w.heap.size ∧ w.heap.size ≤ W0.heap.size := by have h := HS0.out; omega
    generalize ((((((w2.setCell ⟨W0.heap.size, 0, none⟩ (.int .u8 k)).setCell ⟨W0.heap.size, 1, none⟩ (.int .u8 a)).setCell ⟨W0.heap.size, 2, none⟩ (.int .u8 na)).setCell ⟨W0.heap.size, 3, none⟩ (.int .i64 pos)).setCell ⟨W0.heap.size, 4, none⟩ (.slice ar rw.length cr)).setCell ⟨W0.heap.size, 5, none⟩ (.string s)) = W3 at *
    generalize W0.heap.size = K at *
    obtain ⟨hKD, hKR, hKA, hKl⟩ := hne
    have hrawW : BytesAt W3 (.slice ar rw.length cr) rw := hraw.keeps h3k (fun j hj e => by have h1 := hvl j (hri j hj); omega)
    have hVW : BytesAt W3 V rest := hV.keeps h3k (fun j hj e => by have h1 := hvl j (hVi j hj); omega)
    have rD := h3k.row hrD' (fun e => hKD e.symm)
    have rR := h3k.row hR2 (fun e => hKR e.symm)
    have cA := h3k.cell s1 (fun e => hKA e.symm)
    have hkw : Keeps (fun k => k = D) w W3 := ((hk0.mono (S1 := fun k => k = D) (fun _ _ => False.elim)).trans hk2' (fun _ _ h => h)).trans h3k (fun i hi h => by omega)
    clear hnext hrD hrD' hk2 hk2' hR2 h3k s1 s2 hR0 hA0 hc1 hC0 hC1 hS6 hSA hAK hDK hKs
    have hfD := fun j => frozen_row (j := j) rD
    have hfR := fun j => frozen_row (j := j) rR
    have hAD' : D ≠ w.heap.size + 1 := by omega
    have e0 := cell_row (j := 0) rK
    have e1 := cell_row (j := 1) rK
    have e2 := cell_row (j := 2) rK
    have e3 := cell_row (j := 3) rK
    have e4 := cell_row (j := 4) rK
    have e5 := cell_row (j := 5) rK
    have f1 := cell_row (j := 1) rD
    have f2 := cell_row (j := 2) rD
    have f3 := cell_row (j := 3) rD
    have f4 := cell_row (j := 4) rD
    have f5 := cell_row (j := 5) rD
    have f6 := cell_row (j := 6) rD
    have g0 := cell_row (j := 0) rR
    have g1 := cell_row (j := 1) rR
    have g2 := cell_row (j := 2) rR
    have g3 := cell_row (j := 3) rR
    have g4 := cell_row (j := 4) rR
    have g5 := cell_row (j := 5) rR
    simp [dRow] at e0 e1 e2 e3 e4 e5 f1 f2 f3 f4 f5 f6 g0 g1 g2 g3 g4 g5
    have RK := Lib.hid rK
    have RD := Lib.hid rD
    have RR := Lib.hid rR
    clear rK rD rR
    go_simp
    go_wp2
    have h4k : Keeps (fun j => j = D) W3 ((((((W3.setCell ⟨D, 1, none⟩ (.int .u8 k)).setCell ⟨D, 2, none⟩ (.int .u8 a)).setCell ⟨D, 3, none⟩ (.int .u8 na)).setCell ⟨D, 4, none⟩ (.int .i64 pos)).setCell ⟨D, 5, none⟩ (.slice ar rw.length cr)).setCell ⟨D, 6, none⟩ (.string s)) := setCells_keeps D [.int .u8 k, .int .u8 a, .int .u8 na, .int .i64 pos, .slice ar rw.length cr, .string s] 1 W3
    have h4r : ((((((W3.setCell ⟨D, 1, none⟩ (.int .u8 k)).setCell ⟨D, 2, none⟩ (.int .u8 a)).setCell ⟨D, 3, none⟩ (.int .u8 na)).setCell ⟨D, 4, none⟩ (.int .i64 pos)).setCell ⟨D, 5, none⟩ (.slice ar rw.length cr)).setCell ⟨D, 6, none⟩ (.string s)).heap[D]? = some (.cells (dRow (.int .u8 k) (.int .u8 a) (.int .u8 na) (.int .i64 pos) (.slice ar rw.length cr) (.string s) vo V) 129 (0, 0)) := (setCells6_row RD.out 1 (.int .u8 k) (.int .u8 a) (.int .u8 na) (.int .i64 pos) (.slice ar rw.length cr) (.string s)).trans (by simp [dRow])
    have h5k : Keeps (fun j => j = w.heap.size + 1) ((((((W3.setCell ⟨D, 1, none⟩ (.int .u8 k)).setCell ⟨D, 2, none⟩ (.int .u8 a)).setCell ⟨D, 3, none⟩ (.int .u8 na)).setCell ⟨D, 4, none⟩ (.int .i64 pos)).setCell ⟨D, 5, none⟩ (.slice ar rw.length cr)).setCell ⟨D, 6, none⟩ (.string s)) ((((((((((((W3.setCell ⟨D, 1, none⟩ (.int .u8 k)).setCell ⟨D, 2, none⟩ (.int .u8 a)).setCell ⟨D, 3, none⟩ (.int .u8 na)).setCell ⟨D, 4, none⟩ (.int .i64 pos)).setCell ⟨D, 5, none⟩ (.slice ar rw.length cr)).setCell ⟨D, 6, none⟩ (.string s)).setCell ⟨w.heap.size + 1, 0, none⟩ (.int .u8 k)).setCell ⟨w.heap.size + 1, 1, none⟩ (.int .u8 a)).setCell ⟨w.heap.size + 1, 2, none⟩ (.int .u8 na)).setCell ⟨w.heap.size + 1, 3, none⟩ (.int .i64 pos)).setCell ⟨w.heap.size + 1, 4, none⟩ (.slice ar rw.length cr)).setCell ⟨w.heap.size + 1, 5, none⟩ (.string s)) := store6_keeps _ _ _ _ _ _ _ _
    have h5r : ((((((((((((W3.setCell ⟨D, 1, none⟩ (.int .u8 k)).setCell ⟨D, 2, none⟩ (.int .u8 a)).setCell ⟨D, 3, none⟩ (.int .u8 na)).setCell ⟨D, 4, none⟩ (.int .i64 pos)).setCell ⟨D, 5, none⟩ (.slice ar rw.length cr)).setCell ⟨D, 6, none⟩ (.string s)).setCell ⟨w.heap.size + 1, 0, none⟩ (.int .u8 k)).setCell ⟨w.heap.size + 1, 1, none⟩ (.int .u8 a)).setCell ⟨w.heap.size + 1, 2, none⟩ (.int .u8 na)).setCell ⟨w.heap.size + 1, 3, none⟩ (.int .i64 pos)).setCell ⟨w.heap.size + 1, 4, none⟩ (.slice ar rw.length cr)).setCell ⟨w.heap.size + 1, 5, none⟩ (.string s)).heap[w.heap.size + 1]? = some (.cells #[.int .u8 k, .int .u8 a, .int .u8 na, .int .i64 pos, .slice ar rw.length cr, .string s] 120 (0, 0)) := store6_row (h4k.row RR.out hAD'.symm) _ _ _ _ _ _
    obtain ⟨W4, hW4⟩ : ∃ W4, ((((((W3.setCell ⟨D, 1, none⟩ (.int .u8 k)).setCell ⟨D, 2, none⟩ (.int .u8 a)).setCell ⟨D, 3, none⟩ (.int .u8 na)).setCell ⟨D, 4, none⟩ (.int .i64 pos)).setCell ⟨D, 5, none⟩ (.slice ar rw.length cr)).setCell ⟨D, 6, none⟩ (.string s)) = W4 := ⟨_, rfl⟩
    rw [hW4] at h4k h4r h5k h5r ⊢
    obtain ⟨W5, hW5⟩ : ∃ W5, ((((((W4.setCell ⟨w.heap.size + 1, 0, none⟩ (.int .u8 k)).setCell ⟨w.heap.size + 1, 1, none⟩ (.int .u8 a)).setCell ⟨w.heap.size + 1, 2, none⟩ (.int .u8 na)).setCell ⟨w.heap.size + 1, 3, none⟩ (.int .i64 pos)).setCell ⟨w.heap.size + 1, 4, none⟩ (.slice ar rw.length cr)).setCell ⟨w.heap.size + 1, 5, none⟩ (.string s)) = W5 := ⟨_, rfl⟩
    rw [hW5] at h5k h5r ⊢
    have hAl : w.heap.size < W3.heap.size := World.block_lt_of_cell? W3 _ cA
    have hRl : w.heap.size + 1 < W3.heap.size := row_lt RR.out
    have hs4 := h4k.size
    have hs5 := h5k.size
    have h5A := h5k.cell (h4k.cell cA (fun e => hAD e)) (by simp)
    have h5D := h5k.row h4r (fun e => hAD' e)
    refine leaves_cons (f := 84) (args := #[.pointer (some ⟨w.heap.size, 0, none⟩)]) (by simp) (by simp [go_sem]) ?_
    refine (read_deferred D w.heap.size (.int .u8 0) .returning W5 h5A ((cell_row h5D).trans rfl) (frozen_row h5D)).mono ?_
    rintro e u' w6 ⟨rfl, rfl, rfl⟩
    have h6k : Keeps (fun j => j = D) W5 (W5.setCell ⟨D, 0, none⟩ (.int .u8 0)) := Keeps.setCell (S := fun j => j = D) (Keeps.refl _ W5) ⟨D, 0, none⟩ (fun _ => rfl) _
    have h6r := setCell_row (j := 0) h5D (.int .u8 0)
    have h6R := h6k.row h5r (fun e => hAD' e.symm)
    have hk3 : Keeps (fun j => j = D ∨ w.heap.size ≤ j) W3 (W5.setCell ⟨D, 0, none⟩ (.int .u8 0)) := ((h4k.mono (S1 := fun j => j = D ∨ w.heap.size ≤ j) (fun _ _ h => .inl h)).trans h5k (fun i hi h => .inr (by omega))).trans h6k (fun i hi h => .inl h)
    have nD : ∀ U, Within vi U → ∀ j, U.ownBlock = some j → ¬ (j = D ∨ w.heap.size ≤ j) := fun U hU j hj h => by
      have h1 := hvl j (hU j hj)
      rcases h with rfl | h
      · exact hvD (hU _ hj)
      · omega
    refine ⟨_, results_cell_slot (p := 2) (u := 3) rfl _ _ (w.heap.size + 1) (0, 0) rfl h6R, .slice ar rw.length cr, V, pos, rfl, hrawW.keeps hk3 (nD _ hri), hri, hVW.keeps hk3 (nD _ hVi), hVi, ?_, h6r.trans (by simp [dRow])⟩
    refine ⟨hk3.os.trans hkw.os, hk3.tape.trans hkw.tape, hk3.output.trans hkw.output, Nat.le_trans hkw.size hk3.size, fun j hj1 hj2 => ?_⟩
    rw [hk3.block j (by have := hkw.size; omega) (by omega), hkw.block j hj1 hj2]
end Go.Proofs.YtmijjppjodpagaaGreatDoor

namespace Go.Proofs.YtmijjppjodpagaaGreatDoor
open Go.RowKit

set_option maxRecDepth 1000000 in
set_option maxHeartbeats 20000000 in
theorem next_name0 (D : Nat) (cur : Array Value) (vo vi : Value) (orig : List UInt8) (w : World) (hrow : w.heap[D]? = some (.cells cur 129 (0, 0))) (ho : cur[9]? = some vo) (hin : cur[10]? = some vi) (h8 : cur[8]? = some (.slice none 0 0)) (hsz : cur.size = 11) (hvo : BytesAt w vo orig) (hvD : vi.ownBlock ≠ some D) (hoD : vo.ownBlock ≠ some D)
    (nm T : List UInt8) (hv : BytesAt w vi (nm ++ 58 :: T)) (hn0 : nm ≠ []) (hnl : ∀ c ∈ nm, Letter c) (hnm : nm.length ≤ 1000000) (hs : ∀ r, skip T ≠ 35 :: r) :
    Calls Tryz.prog 85 #[.pointer (some ⟨D, 0, none⟩), .int .u8 0] w (NextPost D cur vi w 2 129 0 ⟨#[]⟩ nm (skip T)) := by
  have hDl := row_lt hrow
  have hK1 : ∀ A, Keeps (fun _ => False) w (w.alloc A) := fun A => (Keeps.refl _ w).alloc A
  obtain ⟨x, t, rfl⟩ : ∃ x t, nm = x :: t := by cases nm with
    | nil => exact absurd rfl hn0
    | cons x t => exact ⟨x, t, rfl⟩
  have hx := hnl x (by simp)
  have HSE : Hid (skip ((x :: t ++ 58 :: T).drop 0) = x :: t ++ 58 :: T) := letter_skip hx _
  have HSK : Hid (∀ r, skip ((x :: t ++ 58 :: T).drop 0) ≠ 35 :: r) := fun r hr => by
    rw [HSE.out] at hr
    cases hr
    exact letter_ne35 hx rfl
  have hvl := bytes_lt hv (by simp)
  obtain ⟨n, hn⟩ : ∃ n, (t ++ 58 :: T).length = n := ⟨_, rfl⟩
  have hxl : (x :: t ++ 58 :: T).length = n + 1 := by rw [← hn]; rfl
  obtain ⟨d, hd⟩ : ∃ d, x.toNat = d := ⟨_, rfl⟩
  have y44 : ((d : Int) == 44) = false := by rcases hx with h | h | h <;> simp <;> omega
  have y59 : ((d : Int) == 59) = false := by rcases hx with h | h | h <;> simp <;> omega
  have HD := Lib.hid hd
  have HXL := Lib.hid hxl
  clear hx hn hd hxl
  have HV := Lib.hid hv
  have HVO := Lib.hid hvo
  have HR := Lib.hid hrow
  clear hv hvo hrow
  go_enter Tryz.func85, Tryz.ntmps85
  go_wp2_with (first
    | (go_at_call 113; refine (dconsume D cur vi (x :: t ++ 58 :: T) 0 (Nat.zero_le _) _ ((hK1 _).row HR.out id) hin (HV.out.keeps (hK1 _) (fun _ _ => id)) HSK.out).mono ?_; rintro e w1 ⟨rfl, V0, hb0, hi0, hw1⟩; obtain ⟨h1D, h1K, h1k, hb1⟩ := next_start D cur vi V0 _ w w1 _ HR.out HV.out hvD hi0 hb0 hw1; clear hw1 hb0; rw [HSE.out] at hb1; obtain ⟨b0, o0, c0, hf0, hcc, hcm⟩ := hb1.form' (by simp); rw [HXL.out] at hf0 hcc; subst hf0; have hx0 := hb1.cell.2 0 (by simp); simp only [List.cons_append, List.getElem_cons_zero, Nat.add_zero, HD.out] at hx0; have hc10 := (cell_row (j := 10) h1D).trans (setIn_same hsz); have hc8 := (cell_row (j := 8) h1D).trans (setIn_other h8); have H1D := Lib.hid h1D; have H1K := Lib.hid h1K; have H1k := Lib.hid h1k; have HB1 := Lib.hid hb1; have HI0 := Lib.hid hi0; clear h1D h1K h1k hb1 hi0)

    | (go_at_call 115; refine (parseFieldName_any D _ vo _ orig (x :: t) T _ H1D.out ((setIn_other' (by decide)).trans ho) (setIn_same hsz) (by simp [hsz]) (HVO.out.keeps H1k.out (fun j hj e => by subst e; exact hoD hj)) HB1.out hn0 hnl hnm hs (fun e => hvD (HI0.out _ e))).mono ?_; rintro e w2 ⟨raw, V, pos, rfl, hraw, hri, hV, hVi, hk2, hrD⟩; have hrK := hk2.row H1K.out (by omega); have hfK := fun j => frozen_row (j := j) hrK; have k0 := cell_row (j := 0) hrK; have k1 := cell_row (j := 1) hrK; have k2 := cell_row (j := 2) hrK; have k3 := cell_row (j := 3) hrK; have k4 := cell_row (j := 4) hrK; have k5 := cell_row (j := 5) hrK; simp at k0 k1 k2 k3 k4 k5; obtain ⟨ar, cr, hrf, _, _⟩ := hraw.form; subst hrf))
  refine bodyPost_ret (results_cell_slot (p := 4) (u := 5) rfl _ _ w.heap.size (0, 0) rfl (store6_row hrK _ _ _ _ _ _)) rfl ?_
  exact next_end D cur vi w _ w2 w.heap.size (Nat.le_refl _) hDl H1k.out hk2 hraw (HI0.out.trans hri) hV (HI0.out.trans hVi) hvD hvl (by rw [hrD, Array.setIfInBounds_setIfInBounds])
end Go.Proofs.YtmijjppjodpagaaGreatDoor

namespace Go.Proofs.YtmijjppjodpagaaGreatDoor
open Go.RowKit

set_option maxRecDepth 1000000 in
set_option maxHeartbeats 20000000 in
theorem next_name3 (D : Nat) (cur : Array Value) (vo vi : Value) (orig : List UInt8) (w : World) (hrow : w.heap[D]? = some (.cells cur 129 (0, 0))) (ho : cur[9]? = some vo) (hin : cur[10]? = some vi) (h8 : cur[8]? = some (.slice none 0 0)) (hsz : cur.size = 11) (hvo : BytesAt w vo orig) (hvD : vi.ownBlock ≠ some D) (hoD : vo.ownBlock ≠ some D)
    (nm T : List UInt8) (hv : BytesAt w vi (nm ++ 58 :: T)) (hn0 : nm ≠ []) (hnl : ∀ c ∈ nm, Letter c) (hnm : nm.length ≤ 1000000) (hs : ∀ r, skip T ≠ 35 :: r) :
    Calls Tryz.prog 85 #[.pointer (some ⟨D, 0, none⟩), .int .u8 3] w (NextPost D cur vi w 2 129 0 ⟨#[]⟩ nm (skip T)) := by
  have hDl := row_lt hrow
  have hK1 : ∀ A, Keeps (fun _ => False) w (w.alloc A) := fun A => (Keeps.refl _ w).alloc A
  obtain ⟨x, t, rfl⟩ : ∃ x t, nm = x :: t := by cases nm with
    | nil => exact absurd rfl hn0
    | cons x t => exact ⟨x, t, rfl⟩
  have hx := hnl x (by simp)
  have HSE : Hid (skip ((x :: t ++ 58 :: T).drop 0) = x :: t ++ 58 :: T) := letter_skip hx _
  have HSK : Hid (∀ r, skip ((x :: t ++ 58 :: T).drop 0) ≠ 35 :: r) := fun r hr => by
    rw [HSE.out] at hr
    cases hr
    exact letter_ne35 hx rfl
  have hvl := bytes_lt hv (by simp)
  obtain ⟨n, hn⟩ : ∃ n, (t ++ 58 :: T).length = n := ⟨_, rfl⟩
  have hxl : (x :: t ++ 58 :: T).length = n + 1 := by rw [← hn]; rfl
  obtain ⟨d, hd⟩ : ∃ d, x.toNat = d := ⟨_, rfl⟩
  have y44 : ((d : Int) == 44) = false := by rcases hx with h | h | h <;> simp <;> omega
  have y59 : ((d : Int) == 59) = false := by rcases hx with h | h | h <;> simp <;> omega
  have HD := Lib.hid hd
  have HXL := Lib.hid hxl
  clear hx hn hd hxl
  have HV := Lib.hid hv
  have HVO := Lib.hid hvo
  have HR := Lib.hid hrow
  clear hv hvo hrow
  go_enter Tryz.func85, Tryz.ntmps85
  go_wp2_with (first
    | (go_at_call 113; refine (dconsume D cur vi (x :: t ++ 58 :: T) 0 (Nat.zero_le _) _ ((hK1 _).row HR.out id) hin (HV.out.keeps (hK1 _) (fun _ _ => id)) HSK.out).mono ?_; rintro e w1 ⟨rfl, V0, hb0, hi0, hw1⟩; obtain ⟨h1D, h1K, h1k, hb1⟩ := next_start D cur vi V0 _ w w1 _ HR.out HV.out hvD hi0 hb0 hw1; clear hw1 hb0; rw [HSE.out] at hb1; obtain ⟨b0, o0, c0, hf0, hcc, hcm⟩ := hb1.form' (by simp); rw [HXL.out] at hf0 hcc; subst hf0; have hx0 := hb1.cell.2 0 (by simp); simp only [List.cons_append, List.getElem_cons_zero, Nat.add_zero, HD.out] at hx0; have hc10 := (cell_row (j := 10) h1D).trans (setIn_same hsz); have hc8 := (cell_row (j := 8) h1D).trans (setIn_other h8); have H1D := Lib.hid h1D; have H1K := Lib.hid h1K; have H1k := Lib.hid h1k; have HB1 := Lib.hid hb1; have HI0 := Lib.hid hi0; clear h1D h1K h1k hb1 hi0)
    | (go_at_call 118; refine (openKind_top D _ hc8).mono ?_; rintro e w3 ⟨rfl, rfl⟩)
    | (go_at_call 115; refine (parseFieldName_any D _ vo _ orig (x :: t) T _ H1D.out ((setIn_other' (by decide)).trans ho) (setIn_same hsz) (by simp [hsz]) (HVO.out.keeps H1k.out (fun j hj e => by subst e; exact hoD hj)) HB1.out hn0 hnl hnm hs (fun e => hvD (HI0.out _ e))).mono ?_; rintro e w2 ⟨raw, V, pos, rfl, hraw, hri, hV, hVi, hk2, hrD⟩; have hrK := hk2.row H1K.out (by omega); have hfK := fun j => frozen_row (j := j) hrK; have k0 := cell_row (j := 0) hrK; have k1 := cell_row (j := 1) hrK; have k2 := cell_row (j := 2) hrK; have k3 := cell_row (j := 3) hrK; have k4 := cell_row (j := 4) hrK; have k5 := cell_row (j := 5) hrK; simp at k0 k1 k2 k3 k4 k5; obtain ⟨ar, cr, hrf, _, _⟩ := hraw.form; subst hrf))
  refine bodyPost_ret (results_cell_slot (p := 4) (u := 5) rfl _ _ w.heap.size (0, 0) rfl (store6_row hrK _ _ _ _ _ _)) rfl ?_
  exact next_end D cur vi w _ w2 w.heap.size (Nat.le_refl _) hDl H1k.out hk2 hraw (HI0.out.trans hri) hV (HI0.out.trans hVi) hvD hvl (by rw [hrD, Array.setIfInBounds_setIfInBounds])
end Go.Proofs.YtmijjppjodpagaaGreatDoor
