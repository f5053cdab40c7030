/-
  (*Decoder).Read of the text form, over whatever parseNext hands it.
-/
import Derived.Test.YtdckklmhnhbpiaaGreatDoorANext
import Derived.Defers
import Derived.Deep.RegionHeld3
namespace Go.Proofs.YtdckklmhnhbpiaaGreatDoor
open Go.RowKit

/-- The cells of a Decoder: its last token's six, its whole input, its rest. -/
def dRow (k a na p r s : Value) (vo vi : Value) : Array Value := #[.int .u8 0, k, a, na, p, r, s, .nilIface, .slice none 0 0, vo, vi]

set_option maxRecDepth 1000000 in
theorem read_deferred (D A : Nat) (c0 : Value) (u : FrameMode) (w : World) (hA : w.cell? ⟨A, 0, none⟩ = some (.pointer (some ⟨D, 0, none⟩))) (hD : w.cell? ⟨D, 0, none⟩ = some c0) (hf : w.frozen? ⟨D, 0, none⟩ = false) :
    CallsD Tryz.prog 25 #[.pointer (some ⟨A, 0, none⟩)] u w fun e u' w' => u' = u ∧ (e = .returned (.tuple #[]) ∧ w' = w.setCell ⟨D, 0, none⟩ (.int .u8 0)) := by
  go_enter_d Tryz.func25, Tryz.ntmps25
  go_wp2
  go_end0
  exact ⟨rfl, rfl⟩

set_option maxRecDepth 1000000 in
set_option maxHeartbeats 20000000 in
theorem read_of (D : Nat) (k0 : Nat) (ta tna tp tr ts : Value) (vo vi : Value) (k a na : Nat) (s : ByteArray) (rw rest : List UInt8) (w : World) (hrow : w.heap[D]? = some (.cells (dRow (.int .u8 k0) ta tna tp tr ts vo vi) 68 (0, 0)))
    (hk8 : ((k : Int) == 8) = false) (hk9 : ((k : Int) == 9) = false) (hvD : vi.ownBlock ≠ some D) (hvl : ∀ j, vi.ownBlock = some j → j < w.heap.size)
    (hnext : ∀ w1, Keeps (fun _ => False) w w1 → Calls Tryz.prog 26 #[.pointer (some ⟨D, 0, none⟩), .int .u8 k0] w1 (NextPost D (dRow (.int .u8 k0) ta tna tp tr ts vo vi) vi w1 k a na s rw rest)) :
    Calls Tryz.prog 16 #[.pointer (some ⟨D, 0, none⟩)] w fun e w' =>
      ∃ raw V pos, e = .returned (.tuple #[.agg #[.int .u8 k, .int .u8 a, .int .u8 na, .int .i64 pos, raw, .string s], .nilIface]) ∧ BytesAt w' raw rw ∧ Within vi raw ∧ BytesAt w' V rest ∧ Within vi V ∧
        Keeps (fun k => k = D) w w' ∧ w'.heap[D]? = some (.cells (dRow (.int .u8 k) (.int .u8 a) (.int .u8 na) (.int .i64 pos) raw (.string s) vo V) 68 (0, 0)) := by
  have hmf : ∀ (fn : Fn) (first cap : Array Value) (w : World), (Instr.makeFunc fn first cap).run Tryz.prog w = .ok (.func fn first cap) w := fun _ _ _ _ => rfl
  have hDl := row_lt hrow
  have c0 : w.cell? ⟨D, 0, none⟩ = some (.int .u8 0) := (cell_row hrow).trans rfl
  have c1 : w.cell? ⟨D, 1, none⟩ = some (.int .u8 k0) := (cell_row hrow).trans rfl
  have HR := Lib.hid hrow
  clear hrow
  go_enter_defers Tryz.func16, Tryz.ntmps16
  go_wp2
  obtain ⟨W0, hW0⟩ : ∃ W0, (w.alloc (.cells #[.pointer (some ⟨D, 0, none⟩)] 48)).alloc (.cells #[.int .u8 0, .int .u8 0, .int .u8 0, .int .i64 0, .slice none 0 0, .string ⟨#[]⟩] 53) = W0 := ⟨_, rfl⟩
  have hk0 : Keeps (fun _ => False) w W0 := by rw [← hW0]; exact ((Keeps.refl _ w).alloc _).alloc _
  have hA0 : W0.cell? ⟨w.heap.size, 0, none⟩ = some (.pointer (some ⟨D, 0, none⟩)) := by rw [← hW0, cell_row (heap_alloc2_old w _ _)]; rfl
  have hR0 : W0.heap[w.heap.size + 1]? = some (.cells #[.int .u8 0, .int .u8 0, .int .u8 0, .int .i64 0, .slice none 0 0, .string ⟨#[]⟩] 53 (0, 0)) := by rw [← hW0]; exact heap_alloc2_new w _ _
  have hs0 : W0.heap.size = w.heap.size + 2 := by rw [← hW0]; simp
  have hc1 := hk0.cell c1 id
  rw [hW0]
  clear hW0 c0 c1
  have hAD : w.heap.size ≠ D := by omega
  have hKs : W0.heap.size ≠ D := by omega
  have hC0 : ∀ o, (W0.alloc o).cell? ⟨w.heap.size, 0, none⟩ = some (.pointer (some ⟨D, 0, none⟩)) := fun o => ((Keeps.refl (fun _ => False) W0).alloc o).cell hA0 id
  have hC1 : ∀ o, (W0.alloc o).cell? ⟨D, 1, none⟩ = some (.int .u8 k0) := fun o => ((Keeps.refl (fun _ => False) W0).alloc o).cell hc1 id
  have hAK : w.heap.size ≠ W0.heap.size := by omega
  have hDK : D ≠ W0.heap.size := by omega
  have hS6 : ∀ (w2 : World) (a b c d e f : Value), w2.cell? ⟨w.heap.size, 0, none⟩ = some (.pointer (some ⟨D, 0, none⟩)) → w2.cell? ⟨D, 1, none⟩ = some (.int .u8 k0) →
      ((((((w2.setCell ⟨W0.heap.size, 0, none⟩ a).setCell ⟨W0.heap.size, 1, none⟩ b).setCell ⟨W0.heap.size, 2, none⟩ c).setCell ⟨W0.heap.size, 3, none⟩ d).setCell ⟨W0.heap.size, 4, none⟩ e).setCell ⟨W0.heap.size, 5, none⟩ f).cell? ⟨w.heap.size, 0, none⟩ = some (.pointer (some ⟨D, 0, none⟩)) ∧ ((((((w2.setCell ⟨W0.heap.size, 0, none⟩ a).setCell ⟨W0.heap.size, 1, none⟩ b).setCell ⟨W0.heap.size, 2, none⟩ c).setCell ⟨W0.heap.size, 3, none⟩ d).setCell ⟨W0.heap.size, 4, none⟩ e).setCell ⟨W0.heap.size, 5, none⟩ f).cell? ⟨D, 1, none⟩ = some (.int .u8 k0) :=
    fun w2 a b c d e f h1 h2 => ⟨(store6_keeps w2 W0.heap.size a b c d e f).cell h1 hAK, (store6_keeps w2 W0.heap.size a b c d e f).cell h2 hDK⟩
  have hSA : ∀ (w2 : World) (o : Obj), w2.cell? ⟨w.heap.size, 0, none⟩ = some (.pointer (some ⟨D, 0, none⟩)) → w2.cell? ⟨D, 1, none⟩ = some (.int .u8 k0) →
      (w2.alloc o).cell? ⟨w.heap.size, 0, none⟩ = some (.pointer (some ⟨D, 0, none⟩)) ∧ (w2.alloc o).cell? ⟨D, 1, none⟩ = some (.int .u8 k0) :=
    fun w2 o h1 h2 => ⟨((Keeps.refl (fun _ => False) w2).alloc o).cell h1 id, ((Keeps.refl (fun _ => False) w2).alloc o).cell h2 id⟩
  have HS0 := Lib.hid hs0
  clear hs0
  go_region_held3 (fun w' => w'.cell? ⟨w.heap.size, 0, none⟩ = some (.pointer (some ⟨D, 0, none⟩)) ∧ w'.cell? ⟨D, 1, none⟩ = some (.int .u8 k0))
    (first | (with_reducible exact ⟨s1, s2⟩) | (with_reducible exact hS6 _ _ _ _ _ _ _ s1 s2) | (with_reducible exact hSA _ _ s1 s2) | (with_reducible exact hSA _ _ hA0 hc1) | go_keep)
    (first
      | (go_at_call 26; refine (hnext _ ?_).mono ?_; exact (hk0.alloc _).drew; rintro e w2 ⟨raw, V, pos, rfl, hraw, hri, hV, hVi, hk2, hrD⟩; obtain ⟨ar, cr, hrf, _, _⟩ := hraw.form; subst hrf; have s1 : w2.cell? ⟨w.heap.size, 0, none⟩ = some (.pointer (some ⟨D, 0, none⟩)) := hk2.cell (hC0 _) hAD; have s2 : w2.cell? ⟨D, 1, none⟩ = some (.int .u8 k0) := (cell_row hrD).trans rfl; have hrK := hk2.row (heap_alloc_new W0 _) hKs; have hfK := fun j => frozen_row (j := j) hrK; have q0 := cell_row (j := 0) hrK; have q1 := cell_row (j := 1) hrK; have q2 := cell_row (j := 2) hrK; have q3 := cell_row (j := 3) hrK; have q4 := cell_row (j := 4) hrK; have q5 := cell_row (j := 5) hrK; simp at q0 q1 q2 q3 q4 q5)
      | (go_at_call 26; refine (hnext _ ?_).mono ?_; exact hk0.drew; rintro e w2 ⟨raw, V, pos, rfl, hraw, hri, hV, hVi, hk2, hrD⟩; obtain ⟨ar, cr, hrf, _, _⟩ := hraw.form; subst hrf; have s1 : w2.cell? ⟨w.heap.size, 0, none⟩ = some (.pointer (some ⟨D, 0, none⟩)) := hk2.cell hA0 hAD; have s2 : w2.cell? ⟨D, 1, none⟩ = some (.int .u8 k0) := (cell_row hrD).trans rfl))
  · -- the variable is made behind the call
    have hrD' : w2.heap[D]? = some (.cells (dRow (.int .u8 k0) ta tna tp tr ts vo V) 68 (0, 0)) := by simpa [dRow] using hrD
    have hk2' : Keeps (fun k => k = D) W0 w2 := ((Keeps.refl _ W0).drew).trans hk2 (fun _ _ h => h)
    have hR2 := hk2'.row hR0 (by omega)
    have hs2 : W0.heap.size ≤ w2.heap.size := hk2.size
    have h3k : Keeps (fun j => j = w2.heap.size) w2 (w2.alloc (.cells #[.int .u8 k, .int .u8 a, .int .u8 na, .int .i64 pos, .slice ar rw.length cr, .string s] 53)) := (Keeps.refl _ w2).alloc _
    have rK := heap_alloc_new w2 (.cells #[.int .u8 k, .int .u8 a, .int .u8 na, .int .i64 pos, .slice ar rw.length cr, .string s] 53)
    have hne : w2.heap.size ≠ D ∧ w2.heap.size ≠ w.heap.size + 1 ∧ w2.heap.size ≠ w.heap.size ∧ w.heap.size ≤ w2.heap.size := by have h := HS0.out; omega
    generalize w2.alloc (.cells #[.int .u8 k, .int .u8 a, .int .u8 na, .int .i64 pos, .slice ar rw.length cr, .string s] 53) = W3 at *
    generalize w2.heap.size = K at *
    obtain ⟨hKD, hKR, hKA, hKl⟩ := hne
    have hrawW : BytesAt W3 (.slice ar rw.length cr) rw := hraw.keeps h3k (fun j hj e => by have h1 := hvl j (hri j hj); omega)
    have hVW : BytesAt W3 V rest := hV.keeps h3k (fun j hj e => by have h1 := hvl j (hVi j hj); omega)
    have rD := h3k.row hrD' (fun e => hKD e.symm)
    have rR := h3k.row hR2 (fun e => hKR e.symm)
    have cA := h3k.cell s1 (fun e => hKA e.symm)
    have hkw : Keeps (fun k => k = D) w W3 := ((hk0.mono (S1 := fun k => k = D) (fun _ _ => False.elim)).trans hk2' (fun _ _ h => h)).trans h3k (fun i hi h => by omega)
    clear hnext hrD hrD' hk2 hk2' hR2 h3k s1 s2 hR0 hA0 hc1 hC0 hC1 hS6 hSA hAK hDK hKs
    have hfD := fun j => frozen_row (j := j) rD
    have hfR := fun j => frozen_row (j := j) rR
    have hAD' : D ≠ w.heap.size + 1 := by omega
    have e0 := cell_row (j := 0) rK
    have e1 := cell_row (j := 1) rK
    have e2 := cell_row (j := 2) rK
    have e3 := cell_row (j := 3) rK
    have e4 := cell_row (j := 4) rK
    have e5 := cell_row (j := 5) rK
    have f1 := cell_row (j := 1) rD
    have f2 := cell_row (j := 2) rD
    have f3 := cell_row (j := 3) rD
    have f4 := cell_row (j := 4) rD
    have f5 := cell_row (j := 5) rD
    have f6 := cell_row (j := 6) rD
    have g0 := cell_row (j := 0) rR
    have g1 := cell_row (j := 1) rR
    have g2 := cell_row (j := 2) rR
    have g3 := cell_row (j := 3) rR
    have g4 := cell_row (j := 4) rR
    have g5 := cell_row (j := 5) rR
    simp [dRow] at e0 e1 e2 e3 e4 e5 f1 f2 f3 f4 f5 f6 g0 g1 g2 g3 g4 g5
    have RK := Lib.hid rK
    have RD := Lib.hid rD
    have RR := Lib.hid rR
    clear rK rD rR
    go_simp
    go_wp2
    have h4k : Keeps (fun j => j = D) W3 ((((((W3.setCell ⟨D, 1, none⟩ (.int .u8 k)).setCell ⟨D, 2, none⟩ (.int .u8 a)).setCell ⟨D, 3, none⟩ (.int .u8 na)).setCell ⟨D, 4, none⟩ (.int .i64 pos)).setCell ⟨D, 5, none⟩ (.slice ar rw.length cr)).setCell ⟨D, 6, none⟩ (.string s)) := setCells_keeps D [.int .u8 k, .int .u8 a, .int .u8 na, .int .i64 pos, .slice ar rw.length cr, .string s] 1 W3
    have h4r : ((((((W3.setCell ⟨D, 1, none⟩ (.int .u8 k)).setCell ⟨D, 2, none⟩ (.int .u8 a)).setCell ⟨D, 3, none⟩ (.int .u8 na)).setCell ⟨D, 4, none⟩ (.int .i64 pos)).setCell ⟨D, 5, none⟩ (.slice ar rw.length cr)).setCell ⟨D, 6, none⟩ (.string s)).heap[D]? = some (.cells (dRow (.int .u8 k) (.int .u8 a) (.int .u8 na) (.int .i64 pos) (.slice ar rw.length cr) (.string s) vo V) 68 (0, 0)) := (setCells6_row RD.out 1 (.int .u8 k) (.int .u8 a) (.int .u8 na) (.int .i64 pos) (.slice ar rw.length cr) (.string s)).trans (by simp [dRow])
    have h5k : Keeps (fun j => j = w.heap.size + 1) ((((((W3.setCell ⟨D, 1, none⟩ (.int .u8 k)).setCell ⟨D, 2, none⟩ (.int .u8 a)).setCell ⟨D, 3, none⟩ (.int .u8 na)).setCell ⟨D, 4, none⟩ (.int .i64 pos)).setCell ⟨D, 5, none⟩ (.slice ar rw.length cr)).setCell ⟨D, 6, none⟩ (.string s)) ((((((((((((W3.setCell ⟨D, 1, none⟩ (.int .u8 k)).setCell ⟨D, 2, none⟩ (.int .u8 a)).setCell ⟨D, 3, none⟩ (.int .u8 na)).setCell ⟨D, 4, none⟩ (.int .i64 pos)).setCell ⟨D, 5, none⟩ (.slice ar rw.length cr)).setCell ⟨D, 6, none⟩ (.string s)).setCell ⟨w.heap.size + 1, 0, none⟩ (.int .u8 k)).setCell ⟨w.heap.size + 1, 1, none⟩ (.int .u8 a)).setCell ⟨w.heap.size + 1, 2, none⟩ (.int .u8 na)).setCell ⟨w.heap.size + 1, 3, none⟩ (.int .i64 pos)).setCell ⟨w.heap.size + 1, 4, none⟩ (.slice ar rw.length cr)).setCell ⟨w.heap.size + 1, 5, none⟩ (.string s)) := store6_keeps _ _ _ _ _ _ _ _
    have h5r : ((((((((((((W3.setCell ⟨D, 1, none⟩ (.int .u8 k)).setCell ⟨D, 2, none⟩ (.int .u8 a)).setCell ⟨D, 3, none⟩ (.int .u8 na)).setCell ⟨D, 4, none⟩ (.int .i64 pos)).setCell ⟨D, 5, none⟩ (.slice ar rw.length cr)).setCell ⟨D, 6, none⟩ (.string s)).setCell ⟨w.heap.size + 1, 0, none⟩ (.int .u8 k)).setCell ⟨w.heap.size + 1, 1, none⟩ (.int .u8 a)).setCell ⟨w.heap.size + 1, 2, none⟩ (.int .u8 na)).setCell ⟨w.heap.size + 1, 3, none⟩ (.int .i64 pos)).setCell ⟨w.heap.size + 1, 4, none⟩ (.slice ar rw.length cr)).setCell ⟨w.heap.size + 1, 5, none⟩ (.string s)).heap[w.heap.size + 1]? = some (.cells #[.int .u8 k, .int .u8 a, .int .u8 na, .int .i64 pos, .slice ar rw.length cr, .string s] 53 (0, 0)) := store6_row (h4k.row RR.out hAD'.symm) _ _ _ _ _ _
    obtain ⟨W4, hW4⟩ : ∃ W4, ((((((W3.setCell ⟨D, 1, none⟩ (.int .u8 k)).setCell ⟨D, 2, none⟩ (.int .u8 a)).setCell ⟨D, 3, none⟩ (.int .u8 na)).setCell ⟨D, 4, none⟩ (.int .i64 pos)).setCell ⟨D, 5, none⟩ (.slice ar rw.length cr)).setCell ⟨D, 6, none⟩ (.string s)) = W4 := ⟨_, rfl⟩
    rw [hW4] at h4k h4r h5k h5r ⊢
    obtain ⟨W5, hW5⟩ : ∃ W5, ((((((W4.setCell ⟨w.heap.size + 1, 0, none⟩ (.int .u8 k)).setCell ⟨w.heap.size + 1, 1, none⟩ (.int .u8 a)).setCell ⟨w.heap.size + 1, 2, none⟩ (.int .u8 na)).setCell ⟨w.heap.size + 1, 3, none⟩ (.int .i64 pos)).setCell ⟨w.heap.size + 1, 4, none⟩ (.slice ar rw.length cr)).setCell ⟨w.heap.size + 1, 5, none⟩ (.string s)) = W5 := ⟨_, rfl⟩
    rw [hW5] at h5k h5r ⊢
    have hAl : w.heap.size < W3.heap.size := World.block_lt_of_cell? W3 _ cA
    have hRl : w.heap.size + 1 < W3.heap.size := row_lt RR.out
    have hs4 := h4k.size
    have hs5 := h5k.size
    have h5A := h5k.cell (h4k.cell cA (fun e => hAD e)) (by simp)
    have h5D := h5k.row h4r (fun e => hAD' e)
    refine leaves_cons (f := 25) (args := #[.pointer (some ⟨w.heap.size, 0, none⟩)]) (by simp) (by simp [go_sem]) ?_
    refine (read_deferred D w.heap.size (.int .u8 0) .returning W5 h5A ((cell_row h5D).trans rfl) (frozen_row h5D)).mono ?_
    rintro e u' w6 ⟨rfl, rfl, rfl⟩
    have h6k : Keeps (fun j => j = D) W5 (W5.setCell ⟨D, 0, none⟩ (.int .u8 0)) := Keeps.setCell (S := fun j => j = D) (Keeps.refl _ W5) ⟨D, 0, none⟩ (fun _ => rfl) _
    have h6r := setCell_row (j := 0) h5D (.int .u8 0)
    have h6R := h6k.row h5r (fun e => hAD' e.symm)
    have hk3 : Keeps (fun j => j = D ∨ w.heap.size ≤ j) W3 (W5.setCell ⟨D, 0, none⟩ (.int .u8 0)) := ((h4k.mono (S1 := fun j => j = D ∨ w.heap.size ≤ j) (fun _ _ h => .inl h)).trans h5k (fun i hi h => .inr (by omega))).trans h6k (fun i hi h => .inl h)
    have nD : ∀ U, Within vi U → ∀ j, U.ownBlock = some j → ¬ (j = D ∨ w.heap.size ≤ j) := fun U hU j hj h => by
      have h1 := hvl j (hU j hj)
      rcases h with rfl | h
      · exact hvD (hU _ hj)
      · omega
    refine ⟨_, results_cell_slot (p := 2) (u := 3) rfl _ _ (w.heap.size + 1) (0, 0) rfl h6R, .slice ar rw.length cr, V, pos, rfl, hrawW.keeps hk3 (nD _ hri), hri, hVW.keeps hk3 (nD _ hVi), hVi, ?_, h6r.trans (by simp [dRow])⟩
    refine ⟨hk3.os.trans hkw.os, hk3.tape.trans hkw.tape, hk3.output.trans hkw.output, Nat.le_trans hkw.size hk3.size, fun j hj1 hj2 => ?_⟩
    rw [hk3.block j (by have := hkw.size; omega) (by omega), hkw.block j hj1 hj2]
  · -- the variable is made ahead of it
    have hrD' : w2.heap[D]? = some (.cells (dRow (.int .u8 k0) ta tna tp tr ts vo V) 68 (0, 0)) := by simpa [dRow] using hrD
    have hk2' : Keeps (fun k => k = D) W0 w2 := (((Keeps.refl _ W0).alloc _).drew).trans hk2 (fun _ _ h => h)
    have hR2 := hk2'.row hR0 (by omega)
    have h3k : Keeps (fun j => j = W0.heap.size) w2 ((((((w2.setCell ⟨W0.heap.size, 0, none⟩ (.int .u8 k)).setCell ⟨W0.heap.size, 1, none⟩ (.int .u8 a)).setCell ⟨W0.heap.size, 2, none⟩ (.int .u8 na)).setCell ⟨W0.heap.size, 3, none⟩ (.int .i64 pos)).setCell ⟨W0.heap.size, 4, none⟩ (.slice ar rw.length cr)).setCell ⟨W0.heap.size, 5, none⟩ (.string s)) := store6_keeps w2 W0.heap.size _ _ _ _ _ _
    have rK : ((((((w2.setCell ⟨W0.heap.size, 0, none⟩ (.int .u8 k)).setCell ⟨W0.heap.size, 1, none⟩ (.int .u8 a)).setCell ⟨W0.heap.size, 2, none⟩ (.int .u8 na)).setCell ⟨W0.heap.size, 3, none⟩ (.int .i64 pos)).setCell ⟨W0.heap.size, 4, none⟩ (.slice ar rw.length cr)).setCell ⟨W0.heap.size, 5, none⟩ (.string s)).heap[W0.heap.size]? = some (.cells #[.int .u8 k, .int .u8 a, .int .u8 na, .int .i64 pos, .slice ar rw.length cr, .string s] 53 (0, 0)) := store6_row hrK _ _ _ _ _ _
    have hne : W0.heap.size ≠ D ∧ W0.heap.size ≠ w.heap.size + 1 ∧ W0.heap.size ≠ w.heap.size ∧ w.heap.size ≤ W0.heap.size := by have h := HS0.out; omega
    generalize ((((((w2.setCell ⟨W0.heap.size, 0, none⟩ (.int .u8 k)).setCell ⟨W0.heap.size, 1, none⟩ (.int .u8 a)).setCell ⟨W0.heap.size, 2, none⟩ (.int .u8 na)).setCell ⟨W0.heap.size, 3, none⟩ (.int .i64 pos)).setCell ⟨W0.heap.size, 4, none⟩ (.slice ar rw.length cr)).setCell ⟨W0.heap.size, 5, none⟩ (.string s)) = W3 at *
    generalize W0.heap.size = K at *
    obtain ⟨hKD, hKR, hKA, hKl⟩ := hne
    have hrawW : BytesAt W3 (.slice ar rw.length cr) rw := hraw.keeps h3k (fun j hj e => by have h1 := hvl j (hri j hj); omega)
    have hVW : BytesAt W3 V rest := hV.keeps h3k (fun j hj e => by have h1 := hvl j (hVi j hj); omega)
    have rD := h3k.row hrD' (fun e => hKD e.symm)
    have rR := h3k.row hR2 (fun e => hKR e.symm)
    have cA := h3k.cell s1 (fun e => hKA e.symm)
    have hkw : Keeps (fun k => k = D) w W3 := ((hk0.mono (S1 := fun k => k = D) (fun _ _ => False.elim)).trans hk2' (fun _ _ h => h)).trans h3k (fun i hi h => by omega)
    clear hnext hrD hrD' hk2 hk2' hR2 h3k s1 s2 hR0 hA0 hc1 hC0 hC1 hS6 hSA hAK hDK hKs
    have hfD := fun j => frozen_row (j := j) rD
    have hfR := fun j => frozen_row (j := j) rR
    have hAD' : D ≠ w.heap.size + 1 := by omega
    have e0 := cell_row (j := 0) rK
    have e1 := cell_row (j := 1) rK
    have e2 := cell_row (j := 2) rK
    have e3 := cell_row (j := 3) rK
    have e4 := cell_row (j := 4) rK
    have e5 := cell_row (j := 5) rK
    have f1 := cell_row (j := 1) rD
    have f2 := cell_row (j := 2) rD
    have f3 := cell_row (j := 3) rD
    have f4 := cell_row (j := 4) rD
    have f5 := cell_row (j := 5) rD
    have f6 := cell_row (j := 6) rD
    have g0 := cell_row (j := 0) rR
    have g1 := cell_row (j := 1) rR
    have g2 := cell_row (j := 2) rR
    have g3 := cell_row (j := 3) rR
    have g4 := cell_row (j := 4) rR
    have g5 := cell_row (j := 5) rR
    simp [dRow] at e0 e1 e2 e3 e4 e5 f1 f2 f3 f4 f5 f6 g0 g1 g2 g3 g4 g5
    have RK := Lib.hid rK
    have RD := Lib.hid rD
    have RR := Lib.hid rR
    clear rK rD rR
    go_simp
    go_wp2
    have h4k : Keeps (fun j => j = D) W3 ((((((W3.setCell ⟨D, 1, none⟩ (.int .u8 k)).setCell ⟨D, 2, none⟩ (.int .u8 a)).setCell ⟨D, 3, none⟩ (.int .u8 na)).setCell ⟨D, 4, none⟩ (.int .i64 pos)).setCell ⟨D, 5, none⟩ (.slice ar rw.length cr)).setCell ⟨D, 6, none⟩ (.string s)) := setCells_keeps D [.int .u8 k, .int .u8 a, .int .u8 na, .int .i64 pos, .slice ar rw.length cr, .string s] 1 W3
    have h4r : ((((((W3.setCell ⟨D, 1, none⟩ (.int .u8 k)).setCell ⟨D, 2, none⟩ (.int .u8 a)).setCell ⟨D, 3, none⟩ (.int .u8 na)).setCell ⟨D, 4, none⟩ (.int .i64 pos)).setCell ⟨D, 5, none⟩ (.slice ar rw.length cr)).setCell ⟨D, 6, none⟩ (.string s)).heap[D]? = some (.cells (dRow (.int .u8 k) (.int .u8 a) (.int .u8 na) (.int .i64 pos) (.slice ar rw.length cr) (.string s) vo V) 68 (0, 0)) := (setCells6_row RD.out 1 (.int .u8 k) (.int .u8 a) (.int .u8 na) (.int .i64 pos) (.slice ar rw.length cr) (.string s)).trans (by simp [dRow])
    have h5k : Keeps (fun j => j = w.heap.size + 1) ((((((W3.setCell ⟨D, 1, none⟩ (.int .u8 k)).setCell ⟨D, 2, none⟩ (.int .u8 a)).setCell ⟨D, 3, none⟩ (.int .u8 na)).setCell ⟨D, 4, none⟩ (.int .i64 pos)).setCell ⟨D, 5, none⟩ (.slice ar rw.length cr)).setCell ⟨D, 6, none⟩ (.string s)) ((((((((((((W3.setCell ⟨D, 1, none⟩ (.int .u8 k)).setCell ⟨D, 2, none⟩ (.int .u8 a)).setCell ⟨D, 3, none⟩ (.int .u8 na)).setCell ⟨D, 4, none⟩ (.int .i64 pos)).setCell ⟨D, 5, none⟩ (.slice ar rw.length cr)).setCell ⟨D, 6, none⟩ (.string s)).setCell ⟨w.heap.size + 1, 0, none⟩ (.int .u8 k)).setCell ⟨w.heap.size + 1, 1, none⟩ (.int .u8 a)).setCell ⟨w.heap.size + 1, 2, none⟩ (.int .u8 na)).setCell ⟨w.heap.size + 1, 3, none⟩ (.int .i64 pos)).setCell ⟨w.heap.size + 1, 4, none⟩ (.slice ar rw.length cr)).setCell ⟨w.heap.size + 1, 5, none⟩ (.string s)) := store6_keeps _ _ _ _ _ _ _ _
    have h5r : ((((((((((((W3.setCell ⟨D, 1, none⟩ (.int .u8 k)).setCell ⟨D, 2, none⟩ (.int .u8 a)).setCell ⟨D, 3, none⟩ (.int .u8 na)).setCell ⟨D, 4, none⟩ (.int .i64 pos)).setCell ⟨D, 5, none⟩ (.slice ar rw.length cr)).setCell ⟨D, 6, none⟩ (.string s)).setCell ⟨w.heap.size + 1, 0, none⟩ (.int .u8 k)).setCell ⟨w.heap.size + 1, 1, none⟩ (.int .u8 a)).setCell ⟨w.heap.size + 1, 2, none⟩ (.int .u8 na)).setCell ⟨w.heap.size + 1, 3, none⟩ (.int .i64 pos)).setCell ⟨w.heap.size + 1, 4, none⟩ (.slice ar rw.length cr)).setCell ⟨w.heap.size + 1, 5, none⟩ (.string s)).heap[w.heap.size + 1]? = some (.cells #[.int .u8 k, .int .u8 a, .int .u8 na, .int .i64 pos, .slice ar rw.length cr, .string s] 53 (0, 0)) := store6_row (h4k.row RR.out hAD'.symm) _ _ _ _ _ _
    obtain ⟨W4, hW4⟩ : ∃ W4, ((((((W3.setCell ⟨D, 1, none⟩ (.int .u8 k)).setCell ⟨D, 2, none⟩ (.int .u8 a)).setCell ⟨D, 3, none⟩ (.int .u8 na)).setCell ⟨D, 4, none⟩ (.int .i64 pos)).setCell ⟨D, 5, none⟩ (.slice ar rw.length cr)).setCell ⟨D, 6, none⟩ (.string s)) = W4 := ⟨_, rfl⟩
    rw [hW4] at h4k h4r h5k h5r ⊢
    obtain ⟨W5, hW5⟩ : ∃ W5, ((((((W4.setCell ⟨w.heap.size + 1, 0, none⟩ (.int .u8 k)).setCell ⟨w.heap.size + 1, 1, none⟩ (.int .u8 a)).setCell ⟨w.heap.size + 1, 2, none⟩ (.int .u8 na)).setCell ⟨w.heap.size + 1, 3, none⟩ (.int .i64 pos)).setCell ⟨w.heap.size + 1, 4, none⟩ (.slice ar rw.length cr)).setCell ⟨w.heap.size + 1, 5, none⟩ (.string s)) = W5 := ⟨_, rfl⟩
    rw [hW5] at h5k h5r ⊢
    have hAl : w.heap.size < W3.heap.size := World.block_lt_of_cell? W3 _ cA
    have hRl : w.heap.size + 1 < W3.heap.size := row_lt RR.out
    have hs4 := h4k.size
    have hs5 := h5k.size
    have h5A := h5k.cell (h4k.cell cA (fun e => hAD e)) (by simp)
    have h5D := h5k.row h4r (fun e => hAD' e)
    refine leaves_cons (f := 25) (args := #[.pointer (some ⟨w.heap.size, 0, none⟩)]) (by simp) (by simp [go_sem]) ?_
    refine (read_deferred D w.heap.size (.int .u8 0) .returning W5 h5A ((cell_row h5D).trans rfl) (frozen_row h5D)).mono ?_
    rintro e u' w6 ⟨rfl, rfl, rfl⟩
    have h6k : Keeps (fun j => j = D) W5 (W5.setCell ⟨D, 0, none⟩ (.int .u8 0)) := Keeps.setCell (S := fun j => j = D) (Keeps.refl _ W5) ⟨D, 0, none⟩ (fun _ => rfl) _
    have h6r := setCell_row (j := 0) h5D (.int .u8 0)
    have h6R := h6k.row h5r (fun e => hAD' e.symm)
    have hk3 : Keeps (fun j => j = D ∨ w.heap.size ≤ j) W3 (W5.setCell ⟨D, 0, none⟩ (.int .u8 0)) := ((h4k.mono (S1 := fun j => j = D ∨ w.heap.size ≤ j) (fun _ _ h => .inl h)).trans h5k (fun i hi h => .inr (by omega))).trans h6k (fun i hi h => .inl h)
    have nD : ∀ U, Within vi U → ∀ j, U.ownBlock = some j → ¬ (j = D ∨ w.heap.size ≤ j) := fun U hU j hj h => by
      have h1 := hvl j (hU j hj)
      rcases h with rfl | h
      · exact hvD (hU _ hj)
      · omega
    refine ⟨_, results_cell_slot (p := 2) (u := 3) rfl _ _ (w.heap.size + 1) (0, 0) rfl h6R, .slice ar rw.length cr, V, pos, rfl, hrawW.keeps hk3 (nD _ hri), hri, hVW.keeps hk3 (nD _ hVi), hVi, ?_, h6r.trans (by simp [dRow])⟩
    refine ⟨hk3.os.trans hkw.os, hk3.tape.trans hkw.tape, hk3.output.trans hkw.output, Nat.le_trans hkw.size hk3.size, fun j hj1 hj2 => ?_⟩
    rw [hk3.block j (by have := hkw.size; omega) (by omega), hkw.block j hj1 hj2]
end Go.Proofs.YtdckklmhnhbpiaaGreatDoor
