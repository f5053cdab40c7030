/-
  (*Decoder).parseString, a round: the closing quote.
-/
import Derived.Test.YtonegoemmologaaGreatDoorM11
set_option linter.unusedVariables false
set_option linter.unusedSimpArgs false
namespace Go.Proofs.YtonegoemmologaaGreatDoor
open Go.RowKit
set_option maxRecDepth 1000000 in
set_option maxHeartbeats 40000000 in
theorem ps_close (D : Nat) (cur : Array Value) (w wr : World) (v1 iv ov : Value) (l T o Y X0 : List UInt8) (f : Nat → Value) (Qr : Act → World → Prop) (hrow : w.heap[D]? = some (.cells cur 198 (0, 0))) (hin : cur[10]? = some v1)
 (hv : BytesAt w v1 X0) (hlen : X0.length ≤ 140737488200000) (hXT : ∃ A, X0 = A ++ T) (hs : ∀ r, skip T ≠ 35 :: r) (hX1 : T.length + 1 ≤ X0.length)
 (hT : Tabs w) (hl : l.length ≤ 140737488200000) (hY : Y = 34 :: T) (hne : Y ≠ []) (hbi : BytesAt w iv Y) (hbo : Buf D w wr ov o) (hor : o = l)
 (hexit : ∀ a w' v, (results Tryz.f99 a.tmps).run Tryz.prog w' = .ok v w' → a.defers = [] → Parsed D v1 l T w (.returned v) w' → Qr a w') :
 Code.wp Tryz.prog psBody (Exit.then (fun a' w'' => PSI D w l T a' w'' ∧ PSmu a' w'' < lenOf iv) (retPost Qr)) ⟨#[.pointer (some ⟨D, 0, none⟩), f 1, f 2, f 3, iv, .int .u8 34, f 6, ov, f 8, f 9, f 10, f 11, f 12, f 13, f 14, f 15, f 16, f 17, f 18, f 19, f 20, f 21, f 22, f 23, f 24, f 25, f 26, f 27, f 28, f 29, f 30, f 31, f 32, f 33, f 34, f 35, f 36, f 37, f 38, f 39, f 40, f 41, f 42, f 43, f 44, f 45, f 46, f 47, f 48, f 49, f 50, f 51, f 52, f 53, f 54, f 55, f 56, f 57, f 58, f 59, f 60, f 61, f 62, f 63, f 64, f 65, f 66, f 67, f 68, f 69, f 70, f 71, f 72, f 73, f 74, f 75, f 76, f 77, f 78, f 79, f 80, f 81, f 82, f 83, f 84, f 85, f 86, f 87, f 88, f 89, f 90, f 91, f 92, f 93, f 94, f 95, f 96, f 97, f 98, f 99, f 100, f 101, f 102, f 103, f 104, f 105, f 106, f 107, f 108, f 109, f 110, f 111, f 112, f 113, f 114, f 115, f 116, f 117, f 118, f 119, f 120, f 121, f 122, f 123, f 124, f 125, f 126, f 127, f 128, f 129, f 130, f 131, f 132, f 133, f 134, f 135, f 136, f 137, f 138, f 139, f 140, f 141, f 142, f 143, f 144, f 145, f 146, f 147, f 148, f 149, f 150, f 151, f 152, f 153, f 154, f 155, f 156, f 157, f 158, f 159, f 160, f 161, f 162, f 163, f 164, f 165, f 166, f 167, f 168, f 169, f 170, f 171, f 172, f 173, f 174, f 175, f 176, f 177, f 178, f 179, f 180, f 181, f 182, f 183, f 184, f 185, f 186, f 187, f 188, f 189, f 190, f 191, f 192, f 193, f 194, f 195, f 196, f 197, f 198, f 199, f 200, f 201, f 202, f 203, f 204, f 205, f 206, f 207, f 208, f 209, f 210, f 211, f 212, f 213, f 214, f 215, f 216, f 217, f 218, f 219, f 220, f 221, f 222, f 223, f 224, f 225, f 226, f 227, f 228, f 229, f 230, f 231, f 232, f 233, f 234, f 235, f 236, f 237, f 238, f 239, f 240, f 241, f 242, f 243, f 244, f 245, f 246, f 247, f 248, f 249, f 250, f 251, f 252, f 253, f 254, f 255, f 256, f 257, f 258, f 259, f 260, f 261, f 262, f 263, f 264, f 265, f 266, f 267, f 268, f 269, f 270, f 271, f 272, f 273, f 274, f 275, f 276, f 277, f 278, f 279, f 280, f 281, f 282, f 283, f 284, f 285, f 286, f 287, f 288, f 289, f 290, f 291, f 292, f 293, f 294, f 295, f 296, f 297, f 298, f 299, f 300, f 301, f 302, f 303, f 304, f 305, f 306, f 307, f 308, f 309, f 310, f 311, f 312, f 313, f 314, f 315, f 316, f 317, f 318, f 319, f 320, f 321, f 322, f 323, f 324, f 325, f 326, f 327, f 328, f 329, f 330, f 331, f 332, f 333, f 334, f 335, f 336, f 337, f 338, f 339, f 340, f 341, f 342, f 343, f 344, f 345, f 346, f 347, f 348, f 349, f 350, f 351, f 352, f 353, f 354, f 355, f 356, f 357], []⟩ wr := by
 have HEX := Lib.hid hexit
 have hc10 : w.cell? ⟨D, 10, none⟩ = some v1 := (cell_row hrow).trans hin
 obtain ⟨m, hm⟩ : ∃ m, T.length = m := ⟨_, rfl⟩
 obtain ⟨bi, oi, ci, hif, hci, hmi⟩ := hbi.spot hne
 obtain ⟨b, c, hvf, hcc, hcm⟩ := hv.form
 obtain ⟨L, hL⟩ : ∃ L, X0.length = L := ⟨_, rfl⟩
 rw [hL] at hvf hcc hlen hX1
 rw [hm] at hX1
 subst hY
 rw [List.length_cons, hm] at hif hci
 subst hif
 subst hvf
 have HI := Lib.hid hbi
 have HO := Lib.hid hbo
 have HOR := Lib.hid hor
 have HMI := Lib.hid hmi
 have HV := Lib.hid hv
 have hTr : Tabs wr := hT.keeps hbo.keeps (fun _ _ => id)
 have cd := dec_bytes _ (34 :: T) wr hTr (hbi.keeps hbo.keeps (fun _ _ => id)) hne
 rw [dec_head 34 _ (by decide)] at cd
 obtain ⟨V2, hV2, hb2, _⟩ := HI.out.from 1 (by simp)
 have hb2' : BytesAt w V2 T := hb2
 obtain ⟨a2, c2, hf2, _, _⟩ := hb2'.form
 rw [hm] at hf2
 subst hf2
 have hV2' : ∀ w', (Instr.slice 72 (.slice (some ⟨bi, oi, none⟩) (m + 1) ci) (some (.int .i64 1)) none none).run Tryz.prog w' = .ok (.slice a2 m c2) w' := hV2
 clear hb2 hb2' hV2 hbi hbo hor hTr hne hmi
 obtain ⟨M, hM⟩ : ∃ M, L - m = M := ⟨_, rfl⟩
 have hMe : (L : Int) - (m : Int) = (M : Int) := by omega
 have hdrop : X0.drop M = T := by
  obtain ⟨A, hA⟩ := hXT
  have h1 : A.length = M := by
   have h2 := congrArg List.length hA
   rw [List.length_append, hm, hL] at h2
   omega
  rw [hA, ← h1, List.drop_left]
 have hMb : M ≤ 140737488200000 := by omega
 have HDR := Lib.hid hdrop
 have hMl : M ≤ X0.length := by omega
 clear hdrop hM hXT
 have fin : ∀ w1, Buf D w w1 ov o → Calls Tryz.prog 127 #[.pointer (some ⟨D, 0, none⟩), .int .i64 M] w1 fun e w' =>
  e = .returned (.tuple #[]) ∧ (∃ V, BytesAt w1 V (skip T) ∧ Within (.slice b L c) V ∧ w' = w1.setCell ⟨D, 10, none⟩ V) ∧ Buf D w w1 ov o ∧
   (convert 72 9 ov).run Tryz.prog w' = .ok (.string (mk o)) w' := fun w1 hbuf => by
  have h1 := dconsume D cur _ X0 M hMl w1 (hbuf.keeps.row hrow id) hin (HV.out.keeps hbuf.keeps (fun _ _ => id)) (by rw [HDR.out]; exact hs)
  rw [HDR.out] at h1
  refine h1.mono ?_
  rintro e w2 ⟨rfl, V, hV, hi, rfl⟩
  refine ⟨rfl, ⟨V, hV, hi, rfl⟩, hbuf, run_to_str ?_⟩
  exact hbuf.bytes.keeps (S := fun k => k = D) (Keeps.setCell (S := fun k => k = D) (Keeps.refl _ w1) ⟨D, 10, none⟩ (fun _ => rfl) V) (fun k hk => hbuf.ne (row_lt hrow) k hk)
 have HR := Lib.hid hrow
 clear hrow hin hMl hv hL hexit
 conv => arg 2; whnf
 go_wp2_with (first
  | (go_at_call 125; refine cd.mono ?_; rintro e w1 ⟨rfl, k1⟩; have H1 := Lib.hid (HO.out.below k1); have g1 : w1.cell? ⟨D, 10, none⟩ = some (.slice b L c) := H1.out.keeps.cell hc10 id; clear k1)
  | (go_at_call 127; refine (fin _ H1.out).mono ?_; rintro e w2 ⟨rfl, hV, hbuf, hcv⟩; have HVV := Lib.hid hV; have HBU := Lib.hid hbuf; clear hV hbuf))
 try simp only [Exit.then]
 show Qr _ _
 refine HEX.out _ _ _ (results_tmp2 rfl _ _ _) rfl ?_
 obtain ⟨V, hV, hi, he⟩ := HVV.out
 exact ⟨by have h := HOR.out; rw [← h]; rfl, V, _, he, HBU.out.keeps, hV, hi⟩
end Go.Proofs.YtonegoemmologaaGreatDoor
