/-
  parseNext ahead of the first name.
-/
import Derived.Test.YtdckklmhnhbpiaaGreatDoorANext
import Derived.Test.YtdckklmhnhbpiaaGreatDoorAField
import Derived.Test.YtdckklmhnhbpiaaGreatDoorADec
namespace Go.Proofs.YtdckklmhnhbpiaaGreatDoor
open Go.RowKit

set_option maxRecDepth 1000000 in
set_option maxHeartbeats 20000000 in
theorem next_name0 (D : Nat) (cur : Array Value) (vo vi : Value) (orig : List UInt8) (w : World) (hrow : w.heap[D]? = some (.cells cur 68 (0, 0))) (ho : cur[9]? = some vo) (hin : cur[10]? = some vi) (h8 : cur[8]? = some (.slice none 0 0)) (hsz : cur.size = 11) (hvo : BytesAt w vo orig) (hvD : vi.ownBlock ≠ some D) (hoD : vo.ownBlock ≠ some D)
    (nm T : List UInt8) (hv : BytesAt w vi (nm ++ 58 :: T)) (hn0 : nm ≠ []) (hnl : ∀ c ∈ nm, Letter c) (hnm : nm.length ≤ 1000000) (hs : ∀ r, skip T ≠ 35 :: r) :
    Calls Tryz.prog 26 #[.pointer (some ⟨D, 0, none⟩), .int .u8 0] w (NextPost D cur vi w 2 129 0 ⟨#[]⟩ nm (skip T)) := by
  have hDl := row_lt hrow
  have hK1 : ∀ A, Keeps (fun _ => False) w (w.alloc A) := fun A => (Keeps.refl _ w).alloc A
  obtain ⟨x, t, rfl⟩ : ∃ x t, nm = x :: t := by cases nm with
    | nil => exact absurd rfl hn0
    | cons x t => exact ⟨x, t, rfl⟩
  have hx := hnl x (by simp)
  have HSE : Hid (skip ((x :: t ++ 58 :: T).drop 0) = x :: t ++ 58 :: T) := letter_skip hx _
  have HSK : Hid (∀ r, skip ((x :: t ++ 58 :: T).drop 0) ≠ 35 :: r) := fun r hr => by
    rw [HSE.out] at hr
    cases hr
    exact letter_ne35 hx rfl
  have hvl := bytes_lt hv (by simp)
  obtain ⟨n, hn⟩ : ∃ n, (t ++ 58 :: T).length = n := ⟨_, rfl⟩
  have hxl : (x :: t ++ 58 :: T).length = n + 1 := by rw [← hn]; rfl
  obtain ⟨d, hd⟩ : ∃ d, x.toNat = d := ⟨_, rfl⟩
  have y44 : ((d : Int) == 44) = false := by rcases hx with h | h | h <;> simp <;> omega
  have y59 : ((d : Int) == 59) = false := by rcases hx with h | h | h <;> simp <;> omega
  have HD := Lib.hid hd
  have HXL := Lib.hid hxl
  clear hx hn hd hxl
  have HV := Lib.hid hv
  have HVO := Lib.hid hvo
  have HR := Lib.hid hrow
  clear hv hvo hrow
  go_enter Tryz.func26, Tryz.ntmps26
  go_wp2_with (first
    | (go_at_call 46; refine (dconsume D cur vi (x :: t ++ 58 :: T) 0 (Nat.zero_le _) _ ((hK1 _).row HR.out id) hin (HV.out.keeps (hK1 _) (fun _ _ => id)) HSK.out).mono ?_; rintro e w1 ⟨rfl, V0, hb0, hi0, hw1⟩; obtain ⟨h1D, h1K, h1k, hb1⟩ := next_start D cur vi V0 _ w w1 _ HR.out HV.out hvD hi0 hb0 hw1; clear hw1 hb0; rw [HSE.out] at hb1; obtain ⟨b0, o0, c0, hf0, hcc, hcm⟩ := hb1.form' (by simp); rw [HXL.out] at hf0 hcc; subst hf0; have hx0 := hb1.cell.2 0 (by simp); simp only [List.cons_append, List.getElem_cons_zero, Nat.add_zero, HD.out] at hx0; have hc10 := (cell_row (j := 10) h1D).trans (setIn_same hsz); have hc8 := (cell_row (j := 8) h1D).trans (setIn_other h8); have H1D := Lib.hid h1D; have H1K := Lib.hid h1K; have H1k := Lib.hid h1k; have HB1 := Lib.hid hb1; have HI0 := Lib.hid hi0; clear h1D h1K h1k hb1 hi0)

    | (go_at_call 58; refine (parseFieldName_any D _ vo _ orig (x :: t) T _ H1D.out ((setIn_other' (by decide)).trans ho) (setIn_same hsz) (by simp [hsz]) (HVO.out.keeps H1k.out (fun j hj e => by subst e; exact hoD hj)) HB1.out hn0 hnl hnm hs (fun e => hvD (HI0.out _ e))).mono ?_; rintro e w2 ⟨raw, V, pos, rfl, hraw, hri, hV, hVi, hk2, hrD⟩; have hrK := hk2.row H1K.out (by omega); have hfK := fun j => frozen_row (j := j) hrK; have k0 := cell_row (j := 0) hrK; have k1 := cell_row (j := 1) hrK; have k2 := cell_row (j := 2) hrK; have k3 := cell_row (j := 3) hrK; have k4 := cell_row (j := 4) hrK; have k5 := cell_row (j := 5) hrK; simp at k0 k1 k2 k3 k4 k5; obtain ⟨ar, cr, hrf, _, _⟩ := hraw.form; subst hrf))
  refine bodyPost_ret (results_cell_slot (p := 4) (u := 5) rfl _ _ w.heap.size (0, 0) rfl (store6_row hrK _ _ _ _ _ _)) rfl ?_
  exact next_end D cur vi w _ w2 w.heap.size (Nat.le_refl _) hDl H1k.out hk2 hraw (HI0.out.trans hri) hV (HI0.out.trans hVi) hvD hvl (by rw [hrD, Array.setIfInBounds_setIfInBounds])
end Go.Proofs.YtdckklmhnhbpiaaGreatDoor
