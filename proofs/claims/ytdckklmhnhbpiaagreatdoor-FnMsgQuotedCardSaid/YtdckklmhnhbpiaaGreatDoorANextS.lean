/-
  parseScalar at a quoted string.
  parseNext at a quoted string.
-/
import Derived.Test.YtdckklmhnhbpiaaGreatDoorANext
import Derived.Test.YtdckklmhnhbpiaaGreatDoorAStrVal
import Derived.Test.YtdckklmhnhbpiaaGreatDoorAField
import Derived.Test.YtdckklmhnhbpiaaGreatDoorADec
namespace Go.Proofs.YtdckklmhnhbpiaaGreatDoor
open Go.RowKit

set_option maxRecDepth 1000000 in
set_option maxHeartbeats 8000000 in
theorem scalar_str (D : Nat) (cur : Array Value) (vo v : Value) (orig l T : List UInt8) (w : World) (hrow : w.heap[D]? = some (.cells cur 68 (0, 0))) (ho : cur[9]? = some vo) (hin : cur[10]? = some v) (hsz : cur.size = 11)
    (hvo : BytesAt w vo orig) (hv : BytesAt w v (quote false l ++ T)) (hlen : (quote false l ++ T).length ≤ 140737488200000) (hl : l.length ≤ 140737488200000) (hT : Tabs w) (hs : ∀ r, skip T ≠ 35 :: r) (hq : ∀ c r, skip T = c :: r → c.toNat ≠ 34 ∧ c.toNat ≠ 39) (hD : v.ownBlock ≠ some D) :
    Calls Tryz.prog 60 #[.pointer (some ⟨D, 0, none⟩)] w (NextPost D cur v w 3 2 0 (mk l) ((quote false l ++ T).take ((quote false l ++ T).length - (skip T).length)) (skip T)) := by
  have hDl := row_lt hrow
  have hK1 : ∀ A, Keeps (fun _ => False) w (w.alloc A) := fun A => (Keeps.refl _ w).alloc A
  have csv := fun A => parseStringValue_any D cur vo v orig l T (w.alloc A) ((hK1 A).row hrow id) ho hin hsz (hvo.keeps (hK1 A) (fun _ _ => id)) (hv.keeps (hK1 A) (fun _ _ => id)) hlen hl (hT.keeps (hK1 A) (fun _ _ => id)) hs hq hD
  have hvl := bytes_lt hv (by simp [quote])
  obtain ⟨RW, hRW⟩ : ∃ RW, (quote false l ++ T).take ((quote false l ++ T).length - (skip T).length) = RW := ⟨_, rfl⟩
  simp only [hRW] at csv
  rw [hRW]
  clear hRW
  have hvx := hv
  have hX0 : quote false l ++ T = 34 :: (enc false l ++ 34 :: T) := by unfold quote; simp
  rw [hX0] at hvx
  obtain ⟨b, off, c, hvf, hcc, hcm, hx⟩ := hvx.cons
  obtain ⟨n, hn⟩ : ∃ n, (enc false l ++ 34 :: T).length = n := ⟨_, rfl⟩
  rw [hn] at hvf hcc
  have hc10 : w.cell? ⟨D, 10, none⟩ = some v := (cell_row hrow).trans hin
  have hx' : w.cell? ⟨b, off, none⟩ = some (.int .u8 34) := hx
  have hcA := fun A => (hK1 A).cell hc10 id
  have hxA := fun A => (hK1 A).cell hx' id
  rw [hvf] at hcA
  have HV := Lib.hid hv
  have HVF := Lib.hid hvf
  clear hv hvx hvo hX0 hn hx hvf hc10 hx'
  go_enter Tryz.func60, Tryz.ntmps60
  go_wp2_with (go_at_call 92; refine (csv _).mono ?_; rintro e w2 ⟨raw, V, pos, rfl, hraw, hri, hV, hVi, hk2, hrD⟩; have hrK := hk2.row (heap_alloc_new w _) (by omega); have hfK := fun j => frozen_row (j := j) hrK; have k0 := cell_row (j := 0) hrK; have k1 := cell_row (j := 1) hrK; have k2 := cell_row (j := 2) hrK; have k3 := cell_row (j := 3) hrK; have k4 := cell_row (j := 4) hrK; have k5 := cell_row (j := 5) hrK; simp at k0 k1 k2 k3 k4 k5; obtain ⟨ar, cr, hrf, _, _⟩ := hraw.form; subst hrf)
  refine bodyPost_ret (results_cell_slot (p := 2) (u := 3) rfl _ _ w.heap.size (0, 0) rfl (store6_row hrK _ _ _ _ _ _)) rfl ?_
  exact next_end D cur v w _ w2 w.heap.size (Nat.le_refl _) hDl ((hK1 _).mono (fun _ _ => False.elim)) hk2 hraw hri hV hVi hD hvl hrD


set_option maxRecDepth 1000000 in
set_option maxHeartbeats 20000000 in
theorem next_str (D : Nat) (cur : Array Value) (vo vi : Value) (orig : List UInt8) (w : World) (hrow : w.heap[D]? = some (.cells cur 68 (0, 0))) (ho : cur[9]? = some vo) (hin : cur[10]? = some vi) (h8 : cur[8]? = some (.slice none 0 0)) (hsz : cur.size = 11) (hvo : BytesAt w vo orig) (hvD : vi.ownBlock ≠ some D) (hoD : vo.ownBlock ≠ some D)
    (l T : List UInt8) (hv : BytesAt w vi (quote false l ++ T)) (hlen : (quote false l ++ T).length ≤ 140737488200000) (hl : l.length ≤ 140737488200000) (hT : Tabs w) (hD19 : 19 ≤ D) (hs : ∀ r, skip T ≠ 35 :: r) (hq : ∀ c r, skip T = c :: r → c.toNat ≠ 34 ∧ c.toNat ≠ 39) :
    Calls Tryz.prog 26 #[.pointer (some ⟨D, 0, none⟩), .int .u8 2] w (NextPost D cur vi w 3 2 0 (mk l) ((quote false l ++ T).take ((quote false l ++ T).length - (skip T).length)) (skip T)) := by
  have hDl := row_lt hrow
  have hK1 : ∀ A, Keeps (fun _ => False) w (w.alloc A) := fun A => (Keeps.refl _ w).alloc A
  have hX0 : quote false l ++ T = 34 :: (enc false l ++ 34 :: T) := by unfold quote; simp
  have HSE : Hid (skip ((quote false l ++ T).drop 0) = quote false l ++ T) := by
    show skip (34 :: _) = 34 :: _
    rw [skip_cons]
    have : isSp 34 = false := by decide
    rw [this]; rfl
  have HSK : Hid (∀ r, skip ((quote false l ++ T).drop 0) ≠ 35 :: r) := fun r hr => by
    rw [HSE.out, hX0] at hr
    cases hr
  have hvl := bytes_lt hv (by simp [quote])
  obtain ⟨n, hn⟩ : ∃ n, (enc false l ++ 34 :: T).length = n := ⟨_, rfl⟩
  have hxl : (quote false l ++ T).length = n + 1 := by rw [hX0, ← hn]; rfl
  have HX0 := Lib.hid hX0
  have HXL := Lib.hid hxl
  obtain ⟨RW, hRW⟩ : ∃ RW, (quote false l ++ T).take ((quote false l ++ T).length - (skip T).length) = RW := ⟨_, rfl⟩
  rw [hRW]
  have HRW := Lib.hid hRW
  clear hX0 hn hxl hRW
  have HV := Lib.hid hv
  have HVO := Lib.hid hvo
  have HR := Lib.hid hrow
  clear hv hvo hrow
  go_enter Tryz.func26, Tryz.ntmps26
  go_wp2_with (first
    | (go_at_call 46; refine (dconsume D cur vi (quote false l ++ T) 0 (Nat.zero_le _) _ ((hK1 _).row HR.out id) hin (HV.out.keeps (hK1 _) (fun _ _ => id)) HSK.out).mono ?_; rintro e w1 ⟨rfl, V0, hb0, hi0, hw1⟩; obtain ⟨h1D, h1K, h1k, hb1⟩ := next_start D cur vi V0 _ w w1 _ HR.out HV.out hvD hi0 hb0 hw1; clear hw1 hb0; rw [HSE.out] at hb1; obtain ⟨b0, o0, c0, hf0, hcc, hcm⟩ := hb1.form' (by simp [quote]); rw [HXL.out] at hf0 hcc; subst hf0; have hx0 : w1.cell? ⟨b0, o0, none⟩ = some (.int .u8 34) := hb1.cell.2 0 (by simp [quote]); have hc10 := (cell_row (j := 10) h1D).trans (setIn_same hsz); have hc8 := (cell_row (j := 8) h1D).trans (setIn_other h8); have H1D := Lib.hid h1D; have H1K := Lib.hid h1K; have H1k := Lib.hid h1k; have HB1 := Lib.hid hb1; have HI0 := Lib.hid hi0; clear h1D h1K h1k hb1 hi0)

    | (go_at_call 60; refine (scalar_str D _ vo _ orig l T _ H1D.out ((setIn_other' (by decide)).trans ho) (setIn_same hsz) (by simp [hsz]) (HVO.out.keeps H1k.out (fun j hj e => by subst e; exact hoD hj)) HB1.out hlen hl (hT.keeps H1k.out (fun j hj e => by omega)) hs hq (fun e => hvD (HI0.out _ e))).mono ?_; rintro e w2 ⟨raw, V, pos, rfl, hraw, hri, hV, hVi, hk2, hrD⟩; rw [HRW.out] at hraw; have hrK := hk2.row H1K.out (by omega); have hfK := fun j => frozen_row (j := j) hrK; have k0 := cell_row (j := 0) hrK; have k1 := cell_row (j := 1) hrK; have k2 := cell_row (j := 2) hrK; have k3 := cell_row (j := 3) hrK; have k4 := cell_row (j := 4) hrK; have k5 := cell_row (j := 5) hrK; simp at k0 k1 k2 k3 k4 k5; obtain ⟨ar, cr, hrf, _, _⟩ := hraw.form; subst hrf))
  refine bodyPost_ret (results_cell_slot (p := 4) (u := 5) rfl _ _ w.heap.size (0, 0) rfl (store6_row hrK _ _ _ _ _ _)) rfl ?_
  exact next_end2 D cur vi w _ w2 w.heap.size (Nat.le_refl _) hDl H1k.out hk2 hraw (HI0.out.trans hri) hV (HI0.out.trans hVi) hvD hvl (by rw [hrD, Array.setIfInBounds_setIfInBounds])
end Go.Proofs.YtdckklmhnhbpiaaGreatDoor
