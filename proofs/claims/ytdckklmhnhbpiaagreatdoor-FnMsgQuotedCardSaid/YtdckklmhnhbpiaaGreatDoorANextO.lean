/-
  parseScalar and parseNext at the number '1', and Read there.
  parseNext and Read at the number '1'.
-/
import Derived.Test.YtdckklmhnhbpiaaGreatDoorAOne
import Derived.Test.YtdckklmhnhbpiaaGreatDoorATRead
import Derived.Test.YtdckklmhnhbpiaaGreatDoorANext
import Derived.Test.YtdckklmhnhbpiaaGreatDoorAField
import Derived.Test.YtdckklmhnhbpiaaGreatDoorADec
namespace Go.Proofs.YtdckklmhnhbpiaaGreatDoor
open Go.RowKit

set_option maxRecDepth 1000000 in
set_option maxHeartbeats 20000000 in
theorem scalar_one (D : Nat) (cur : Array Value) (vo vi : Value) (orig : List UInt8) (w : World) (hrow : w.heap[D]? = some (.cells cur 68 (0, 0))) (ho : cur[9]? = some vo) (hin : cur[10]? = some vi) (hvo : BytesAt w vo orig) (hv : BytesAt w vi [49]) (hvD : vi.ownBlock ≠ some D) (hoD : vo.ownBlock ≠ some D) :
    Calls Tryz.prog 60 #[.pointer (some ⟨D, 0, none⟩)] w (NextPost D cur vi w 3 1 0 (mk [49]) [49] []) := by
  have hDl := row_lt hrow
  have hvl := bytes_lt hv (by simp)
  obtain ⟨b, off, c, hvf, hcc, hcm⟩ := hv.form' (by simp)
  have hvf' : vi = .slice (some ⟨b, off, none⟩) 1 c := hvf
  have hc10 : w.cell? ⟨D, 10, none⟩ = some (.slice (some ⟨b, off, none⟩) 1 c) := by rw [← hvf']; exact (cell_row hrow).trans hin
  have hx : w.cell? ⟨b, off, none⟩ = some (.int .u8 49) := by
    have h := hv
    rw [hvf] at h
    exact h.cell.2 0 (by simp)
  have hk : ∀ o, Keeps (fun _ => False) w (w.alloc o) := fun o => (Keeps.refl _ w).alloc o
  have hcA := fun o => (hk o).cell hc10 id
  have hxA := fun o => (hk o).cell hx id
  have HR := Lib.hid hrow
  have HV := Lib.hid hv
  have HVO := Lib.hid hvo
  clear hrow hv hvo hvf hvf' hc10 hx hcc
  go_enter Tryz.func60, Tryz.ntmps60
  go_wp2_with (first
    | (go_at_call 93; refine (literal_one D b off c _ (hcA _) (hxA _)).mono ?_; rintro e w2 ⟨⟨_, rfl, rfl⟩, hk2⟩; have hkw2 := fun o => ((hk _).trans hk2 (fun _ _ => id)).alloc o; have hR2 := hk2.row (heap_alloc_new w _) id)
    | (go_at_call 94; refine (numberValue_one D cur vo vi orig _ ((hkw2 _).row HR.out id) ho hin (HVO.out.keeps (hkw2 _) (fun _ _ => id)) (HV.out.keeps (hkw2 _) (fun _ _ => id)) hvD hoD).mono ?_; rintro e w3 ⟨raw, V, pos, rfl, hraw, hri, hV, hVi, hk3, hrD⟩; obtain ⟨ar, cr, hrf, _, _⟩ := hraw.form; subst hrf; have hR3 := fun o => ((Keeps.refl (fun _ => False) w3).alloc o).row (hk3.row (((Keeps.refl (fun _ => False) w2).alloc _).row hR2 id) (by omega)) id; have hfR := fun o j => frozen_row (j := j) (hR3 o); have g0 := fun o => cell_row (j := 0) (hR3 o); have g1 := fun o => cell_row (j := 1) (hR3 o); have g2 := fun o => cell_row (j := 2) (hR3 o); have g3 := fun o => cell_row (j := 3) (hR3 o); have g4 := fun o => cell_row (j := 4) (hR3 o); have g5 := fun o => cell_row (j := 5) (hR3 o); simp at g0 g1 g2 g3 g4 g5))
  refine bodyPost_ret (results_cell_slot (p := 2) (u := 3) rfl _ _ w.heap.size (0, 0) rfl (store6_row (hR3 _) _ _ _ _ _ _)) rfl ?_
  have h3a := fun o => (Keeps.refl (fun _ => False) w3).alloc o
  exact next_end2 D cur vi w w _ w.heap.size (Nat.le_refl _) hDl (Keeps.refl _ w) (((((hkw2 _).mono (S1 := fun j => j = D) (fun _ _ => False.elim)).trans hk3 (fun _ _ h => h))).alloc _) (hraw.keeps (h3a _) (fun _ _ => id)) hri (hV.keeps (h3a _) (fun _ _ => id)) hVi hvD hvl ((h3a _).row hrD id)


set_option maxRecDepth 1000000 in
set_option maxHeartbeats 20000000 in
theorem next_one (D : Nat) (cur : Array Value) (vo vi : Value) (orig : List UInt8) (w : World) (hrow : w.heap[D]? = some (.cells cur 68 (0, 0))) (ho : cur[9]? = some vo) (hin : cur[10]? = some vi) (h8 : cur[8]? = some (.slice none 0 0)) (hsz : cur.size = 11) (hvo : BytesAt w vo orig) (hvD : vi.ownBlock ≠ some D) (hoD : vo.ownBlock ≠ some D)
    (hv : BytesAt w vi [49]) :
    Calls Tryz.prog 26 #[.pointer (some ⟨D, 0, none⟩), .int .u8 2] w (NextPost D cur vi w 3 1 0 (mk [49]) [49] []) := by
  have hDl := row_lt hrow
  have hK1 : ∀ A, Keeps (fun _ => False) w (w.alloc A) := fun A => (Keeps.refl _ w).alloc A
  have HSE : Hid (skip (([49] : List UInt8).drop 0) = [49]) := by show skip [49] = [49]; decide
  have HSK : Hid (∀ r, skip (([49] : List UInt8).drop 0) ≠ 35 :: r) := fun r hr => by
    rw [HSE.out] at hr
    cases hr
  have hvl := bytes_lt hv (by simp)
  have HV := Lib.hid hv
  have HVO := Lib.hid hvo
  have HR := Lib.hid hrow
  clear hv hvo hrow
  go_enter Tryz.func26, Tryz.ntmps26
  go_wp2_with (first
    | (go_at_call 46; refine (dconsume D cur vi [49] 0 (Nat.zero_le _) _ ((hK1 _).row HR.out id) hin (HV.out.keeps (hK1 _) (fun _ _ => id)) HSK.out).mono ?_; rintro e w1 ⟨rfl, V0, hb0, hi0, hw1⟩; obtain ⟨h1D, h1K, h1k, hb1⟩ := next_start D cur vi V0 _ w w1 _ HR.out HV.out hvD hi0 hb0 hw1; clear hw1 hb0; rw [HSE.out] at hb1; obtain ⟨b0, o0, c0, hf0, hcc, hcm⟩ := hb1.form' (by simp); have hf1 : V0 = .slice (some ⟨b0, o0, none⟩) 1 c0 := hf0; clear hf0 hcc; subst hf1; have hx0 : w1.cell? ⟨b0, o0, none⟩ = some (.int .u8 49) := hb1.cell.2 0 (by simp); have hc10 := (cell_row (j := 10) h1D).trans (setIn_same hsz); have hc8 := (cell_row (j := 8) h1D).trans (setIn_other h8); have H1D := Lib.hid h1D; have H1K := Lib.hid h1K; have H1k := Lib.hid h1k; have HB1 := Lib.hid hb1; have HI0 := Lib.hid hi0; clear h1D h1K h1k hb1 hi0)

    | (go_at_call 60; refine (scalar_one D _ vo _ orig _ H1D.out ((setIn_other' (by decide)).trans ho) (setIn_same hsz) (HVO.out.keeps H1k.out (fun j hj e => by subst e; exact hoD hj)) HB1.out (fun e => hvD (HI0.out _ e)) hoD).mono ?_; rintro e w2 ⟨raw, V, pos, rfl, hraw, hri, hV, hVi, hk2, hrD⟩; have hrK := hk2.row H1K.out (by omega); have hfK := fun j => frozen_row (j := j) hrK; have k0 := cell_row (j := 0) hrK; have k1 := cell_row (j := 1) hrK; have k2 := cell_row (j := 2) hrK; have k3 := cell_row (j := 3) hrK; have k4 := cell_row (j := 4) hrK; have k5 := cell_row (j := 5) hrK; simp at k0 k1 k2 k3 k4 k5; obtain ⟨ar, cr, hrf, _, _⟩ := hraw.form; subst hrf))
  refine bodyPost_ret (results_cell_slot (p := 4) (u := 5) rfl _ _ w.heap.size (0, 0) rfl (store6_row hrK _ _ _ _ _ _)) rfl ?_
  exact next_end2 D cur vi w _ w2 w.heap.size (Nat.le_refl _) hDl H1k.out hk2 hraw (HI0.out.trans hri) hV (HI0.out.trans hVi) hvD hvl (by rw [hrD, Array.setIfInBounds_setIfInBounds])

theorem one_ok (D N : Nat) : OneOk D N := fun w h =>
  read_dec D N 2 w 3 1 0 _ _ _ _ h rfl rfl (by simp) fun cur vo vi orig w1 h1 h2 h3 h4 h5 h6 h7 h8 h9 _ _ _ _ => next_one D cur vo vi orig w1 h1 h2 h3 h4 h5 h6 h8 h9 h7
end Go.Proofs.YtdckklmhnhbpiaaGreatDoor
