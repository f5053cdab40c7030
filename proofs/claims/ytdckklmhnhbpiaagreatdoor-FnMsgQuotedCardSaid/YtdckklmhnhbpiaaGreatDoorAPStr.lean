/-
  (*Decoder).parseString, a round: parseString itself.
-/
import Derived.Test.YtdckklmhnhbpiaaGreatDoorAPEnd
import Derived.Test.YtdckklmhnhbpiaaGreatDoorAPEsc
import Derived.Test.YtdckklmhnhbpiaaGreatDoorAPHexA
import Derived.Test.YtdckklmhnhbpiaaGreatDoorAPHexB
import Derived.Test.YtdckklmhnhbpiaaGreatDoorAPUni
import Derived.Test.YtdckklmhnhbpiaaGreatDoorAPLit
import Derived.Test.YtdckklmhnhbpiaaGreatDoorAPBad
namespace Go.Proofs.YtdckklmhnhbpiaaGreatDoor
open Go.RowKit

set_option maxRecDepth 1000000 in
theorem ps_round (D : Nat) (cur : Array Value) (w wr : World) (v1 : Value) (l T X0 : List UInt8) (a : Act) (Qr : Act → World → Prop) (hrow : w.heap[D]? = some (.cells cur 68 (0, 0))) (hin : cur[10]? = some v1)
    (hv : BytesAt w v1 X0) (hlen : X0.length ≤ 140737488200000) (hXT : ∃ A, X0 = A ++ T) (hs : ∀ r, skip T ≠ 35 :: r) (hX1 : T.length + 1 ≤ X0.length) (hT : Tabs w) (hl : l.length ≤ 140737488200000)
    (hexit : ∀ a w' v, (results Tryz.f22 a.tmps).run Tryz.prog w' = .ok v w' → a.defers = [] → Parsed D v1 l T w (.returned v) w' → Qr a w') (hI : PSI D w l T a wr) :
    Code.wp Tryz.prog psBody (Exit.then (fun a' w'' => PSI D w l T a' w'' ∧ PSmu a' w'' < PSmu a wr) (retPost Qr)) a wr := by
  obtain ⟨hd, hsz, h0, h5, r, o, hbi, hbo, hor⟩ := hI
  have hm := meets r T
  obtain ⟨f, hf, ha⟩ := frame_n a hsz hd
  have e0 := (hf 0).trans h0
  have e5 := (hf 5).trans h5
  have hmu : PSmu a wr = lenOf (f 4) := by rw [hf 4]; rfl
  rw [hmu, ha, e0, e5]
  rw [← hf 4] at hbi
  rw [← hf 7] at hbo
  clear hmu ha e0 e5 h0 h5 hsz hd hf
  generalize encL false r ++ 34 :: T = Y at hbi hm
  cases hm with
  | close => exact ps_close D cur w wr v1 (f 4) (f 7) l T o _ X0 f Qr hrow hin hv hlen hXT hs hX1 hT hl rfl (by simp) hbi hbo (by simpa using hor) hexit
  | esc c d r' h =>
    simp only [List.mem_cons, Prod.mk.injEq, List.not_mem_nil, or_false] at h
    rcases h with ⟨rfl, rfl⟩ | ⟨rfl, rfl⟩ | ⟨rfl, rfl⟩ | ⟨rfl, rfl⟩ | ⟨rfl, rfl⟩
    · exact ps_esc34 D w wr (f 4) (f 7) l T r' o _ f Qr hT hl rfl (by simp) hbi hbo hor
    · exact ps_esc92 D w wr (f 4) (f 7) l T r' o _ f Qr hT hl rfl (by simp) hbi hbo hor
    · exact ps_esc110 D w wr (f 4) (f 7) l T r' o _ f Qr hT hl rfl (by simp) hbi hbo hor
    · exact ps_esc114 D w wr (f 4) (f 7) l T r' o _ f Qr hT hl rfl (by simp) hbi hbo hor
    · exact ps_esc116 D w wr (f 4) (f 7) l T r' o _ f Qr hT hl rfl (by simp) hbi hbo hor
  | hex k hk r' =>
    by_cases hc : ((hexB [k / 16, k % 16] ++ (encL false r' ++ 34 :: T)).dropWhile (hexSet.contains ·)).length = (encL false r' ++ 34 :: T).length
    · exact ps_hexA D w wr (f 4) (f 7) l T r' o _ f Qr k hk hT hl rfl (by simp) hbi hbo hor hc
    · exact ps_hexB D w wr (f 4) (f 7) l T r' o _ f Qr k hk hT hl rfl (by simp) hbi hbo hor hc
  | uni k h1 h2 r' => exact ps_uni D w wr (f 4) (f 7) l T r' o _ f Qr k h1 h2 hT hl rfl (by simp) hbi hbo hor
  | plain _ R n1 h0 hR hR2 hn1 hd hN hp =>
    have hne : r.take (n1 + pre (r.drop n1)) ++ (encL false (r.drop (n1 + pre (r.drop n1))) ++ 34 :: T) ≠ [] := by simp
    by_cases h65 : R = 65533
    · exact ps_bad D w wr (f 4) (f 7) l T r o _ f Qr R n1 hT hl rfl hne hbi hbo hor h0 hR hR2 hn1 hd hN hp h65
    · exact ps_lit D w wr (f 4) (f 7) l T r o _ f Qr R n1 hT hl rfl hne hbi hbo hor h0 hR hR2 hn1 hd hN hp h65

theorem ps_loop (D : Nat) (cur : Array Value) (w wr : World) (v1 : Value) (l T X0 : List UInt8) (a : Act) (Qr : Act → World → Prop) (hrow : w.heap[D]? = some (.cells cur 68 (0, 0))) (hin : cur[10]? = some v1)
    (hv : BytesAt w v1 X0) (hlen : X0.length ≤ 140737488200000) (hXT : ∃ A, X0 = A ++ T) (hs : ∀ r, skip T ≠ 35 :: r) (hX1 : T.length + 1 ≤ X0.length) (hT : Tabs w) (hl : l.length ≤ 140737488200000)
    (hexit : ∀ a w' v, (results Tryz.f22 a.tmps).run Tryz.prog w' = .ok v w' → a.defers = [] → Parsed D v1 l T w (.returned v) w' → Qr a w') (hI : PSI D w l T a wr) :
    Code.wp Tryz.prog (Code.loop psBody) (retPost Qr) a wr :=
  wp_loop (PSI D w l T) PSmu hI fun a w'' hI => ps_round D cur w w'' v1 l T X0 a Qr hrow hin hv hlen hXT hs hX1 hT hl hexit hI

set_option maxRecDepth 1000000 in
set_option maxHeartbeats 40000000 in
theorem parseString_any (D : Nat) (cur : Array Value) (v : Value) (l T : List UInt8) (w : World) (hrow : w.heap[D]? = some (.cells cur 68 (0, 0))) (hin : cur[10]? = some v)
    (hv : BytesAt w v (quote false l ++ T)) (hlen : (quote false l ++ T).length ≤ 140737488200000) (hl : l.length ≤ 140737488200000) (hT : Tabs w) (hs : ∀ r, skip T ≠ 35 :: r) (hD : v.ownBlock ≠ some D) :
    Calls Tryz.prog 22 #[.pointer (some ⟨D, 0, none⟩)] w (Parsed D v l T w) := by
  have hc10 : w.cell? ⟨D, 10, none⟩ = some v := (cell_row hrow).trans hin
  have hX0 : quote false l ++ T = 34 :: (l.take (pre l) ++ (encL false (l.drop (pre l)) ++ 34 :: T)) := by
    unfold quote; rw [enc_eq]; simp
  rw [hX0] at hv hlen
  obtain ⟨p, hp⟩ : ∃ p, pre l = p := ⟨_, rfl⟩
  have hpl : p ≤ l.length := by rw [← hp]; exact pre_le l
  have hpX : pre (l.take p ++ (encL false (l.drop p) ++ 34 :: T)) = p := by
    rw [← hp, pre_app _ _ (pre_all l) (encL_head _ T (fun c X h => pre_next l c X h)), List.length_take]
    have := pre_le l
    omega
  rw [hp] at hv hlen
  have HX0 := Lib.hid hX0
  have HP := Lib.hid hp
  clear hX0 hp
  obtain ⟨X, hX⟩ : ∃ X, l.take p ++ (encL false (l.drop p) ++ 34 :: T) = X := ⟨_, rfl⟩
  rw [hX] at hv hlen hpX
  have hpLX : p ≤ X.length := by rw [← hpX]; exact pre_le X
  have hXd : X.drop p = encL false (l.drop p) ++ 34 :: T := by
    rw [← hX, List.drop_append_of_le_length (by rw [List.length_take]; omega), List.drop_take, Nat.sub_self, List.take_zero, List.nil_append]
  have hXt : X.take p = l.take p := by
    rw [← hX, List.take_append_of_le_length (by rw [List.length_take]; omega), List.take_take, Nat.min_self]
  have hXl : T.length + 1 ≤ X.length := by
    rw [← hX]; simp; omega
  have HXd := Lib.hid hXd
  have HXt := Lib.hid hXt
  have HXe := Lib.hid hX
  clear hX hXd hXt
  obtain ⟨V1, hV1, hb1, hi1⟩ := hv.from 1 (by simp)
  rw [List.drop_one, List.tail_cons] at hb1
  obtain ⟨b, off, c, hvf, hcc, hcm, hx0⟩ := hv.cons
  have HVF := Lib.hid hvf
  have HV := Lib.hid hv
  subst hvf
  obtain ⟨b1, off1, c1, rfl, hcc1, hcm1⟩ := hb1.spot (by intro h; rw [h] at hXl; simp at hXl)
  obtain ⟨V2, hV2, hb2, hi2⟩ := hb1.from p hpLX
  have hb3 := hb1.take p p hpLX (Nat.le_refl _) (by omega)
  have h3 := fun w' => run_sto3 (some ⟨b1, off1, none⟩) X.length c1 p (by omega) w'
  have hix := indexNeed_bytes _ X w hb1
  rw [hpX] at hix
  rw [HXd.out] at hb2
  rw [HXt.out] at hb3
  have hV1' : ∀ w', (Instr.slice 24 (.slice (some ⟨b, off, none⟩) (X.length + 1) c) (some (.int .i64 1)) none none).run Tryz.prog w' = .ok (.slice (some ⟨b1, off1, none⟩) X.length c1) w' := hV1
  have hb1D : b1 ≠ D := by
    have h := hi1 b1 rfl
    intro e; subst e; exact hD h
  have HBD := Lib.hid hb1D
  have HDD := Lib.hid hD
  have H2 := Lib.hid hb2
  have H3 := Lib.hid hb3
  have HCM := Lib.hid hcm
  have HCM1 := Lib.hid hcm1
  have HXL := Lib.hid hXl
  clear hV1 hb1 hb2 hb3 hv hcm hcm1 hi1 hi2 hpX hXl hb1D hD
  go_enter Tryz.func22, Tryz.ntmps22
  go_wp2_with (go_at_call 43; refine hix.mono ?_; rintro e w' ⟨rfl, rfl⟩)
  go_region
  go_simp
  go_wp2
  refine wp_mono (ps_loop D cur w w.drew (.slice (some ⟨b, off, none⟩) (X.length + 1) c) l T (34 :: X) _ (fun a w' => a.defers = [] ∧ ∃ v', (results Tryz.f22 a.tmps).run Tryz.prog w' = .ok v' w' ∧ Parsed D (.slice (some ⟨b, off, none⟩) (X.length + 1) c) l T w (.returned v') w') hrow hin HV.out hlen ?_ hs (by simp only [List.length_cons]; have := HXL.out; omega) hT hl ?_ ?_) ?_
  rotate_right
  · intro e a w' h
    cases e with
    | ret => obtain ⟨h1, v', h2, h3⟩ := h; simp only [Exit.inBlock, Exit.then]; exact bodyPost_ret h2 h1 h3
    | _ => exact h.elim
  · exact ⟨34 :: (l.take p ++ (encL false (l.drop p) ++ [34])), by rw [← HXe.out]; simp⟩
  · intro a w' v h1 h2 h3
    exact ⟨h2, v, h1, h3⟩
  · have hlp : (l.take p).length = p := by rw [List.length_take]; omega
    exact ⟨rfl, rfl, rfl, rfl, l.drop p, l.take p, H2.out, ⟨(Keeps.refl _ w).drew, .inl ⟨_, by rw [hlp]; rfl, HBD.out, by have := H3.out; exact this⟩⟩, List.take_append_drop p l⟩
end Go.Proofs.YtdckklmhnhbpiaaGreatDoor
