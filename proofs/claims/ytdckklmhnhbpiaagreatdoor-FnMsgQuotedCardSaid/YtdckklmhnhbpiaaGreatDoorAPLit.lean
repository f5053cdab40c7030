/-
  (*Decoder).parseString, a round: characters as they are.
-/
import Derived.Test.YtdckklmhnhbpiaaGreatDoorAPDef
set_option linter.unusedSimpArgs false
set_option linter.unusedVariables false
namespace Go.Proofs.YtdckklmhnhbpiaaGreatDoor
open Go.RowKit

set_option maxRecDepth 1000000 in
set_option maxHeartbeats 40000000 in
theorem ps_lit (D : Nat) (w wr : World) (iv ov : Value) (l T r' o Y : List UInt8) (f : Nat → Value) (Qr : Act → World → Prop) (R n1 : Nat)
    (hT : Tabs w) (hl : l.length ≤ 140737488200000) (hY : Y = r'.take (n1 + pre (r'.drop n1)) ++ (encL false (r'.drop (n1 + pre (r'.drop n1))) ++ 34 :: T)) (hne : Y ≠ []) (hbi : BytesAt w iv Y) (hbo : Buf D w wr ov o) (hor : o ++ r' = l) (h0 : r' ≠ []) (hR : R ≠ 0 ∧ R ≠ 10 ∧ R ≠ 34 ∧ R ≠ 92 ∧ ¬ (R = 65533 ∧ n1 = 1)) (hR2 : R ≤ 1114111) (hn1 : 1 ≤ n1 ∧ n1 ≤ 4)
    (hd : dec (r'.take (n1 + pre (r'.drop n1)) ++ (encL false (r'.drop (n1 + pre (r'.drop n1))) ++ 34 :: T)) = (R, n1)) (hN : n1 + pre (r'.drop n1) ≤ r'.length)
    (hp : pre ((r'.take (n1 + pre (r'.drop n1)) ++ (encL false (r'.drop (n1 + pre (r'.drop n1))) ++ 34 :: T)).drop n1) = pre (r'.drop n1)) (h65 : ¬ R = 65533) :
    Code.wp Tryz.prog psBody (Exit.then (fun a' w'' => PSI D w l T a' w'' ∧ PSmu a' w'' < lenOf iv) (retPost Qr)) ⟨#[.pointer (some ⟨D, 0, none⟩), f 1, f 2, f 3, iv, .int .u8 34, f 6, ov, f 8, f 9, f 10, f 11, f 12, f 13, f 14, f 15, f 16, f 17, f 18, f 19, f 20, f 21, f 22, f 23, f 24, f 25, f 26, f 27, f 28, f 29, f 30, f 31, f 32, f 33, f 34, f 35, f 36, f 37, f 38, f 39, f 40, f 41, f 42, f 43, f 44, f 45, f 46, f 47, f 48, f 49, f 50, f 51, f 52, f 53, f 54, f 55, f 56, f 57, f 58, f 59, f 60, f 61, f 62, f 63, f 64, f 65, f 66, f 67, f 68, f 69, f 70, f 71, f 72, f 73, f 74, f 75, f 76, f 77, f 78, f 79, f 80, f 81, f 82, f 83, f 84, f 85, f 86, f 87, f 88, f 89, f 90, f 91, f 92, f 93, f 94, f 95, f 96, f 97, f 98, f 99, f 100, f 101, f 102, f 103, f 104, f 105, f 106, f 107, f 108, f 109, f 110, f 111, f 112, f 113, f 114, f 115, f 116, f 117, f 118, f 119, f 120, f 121, f 122, f 123, f 124, f 125, f 126, f 127, f 128, f 129, f 130, f 131, f 132, f 133, f 134, f 135, f 136, f 137, f 138, f 139, f 140, f 141, f 142, f 143, f 144, f 145, f 146, f 147, f 148, f 149, f 150, f 151, f 152, f 153, f 154, f 155, f 156, f 157, f 158, f 159, f 160, f 161, f 162, f 163, f 164, f 165, f 166, f 167, f 168, f 169, f 170, f 171, f 172, f 173, f 174, f 175, f 176, f 177, f 178, f 179, f 180, f 181, f 182, f 183, f 184, f 185, f 186, f 187, f 188, f 189, f 190, f 191, f 192, f 193, f 194, f 195, f 196, f 197, f 198, f 199, f 200, f 201, f 202, f 203, f 204, f 205, f 206, f 207, f 208, f 209, f 210, f 211, f 212, f 213, f 214, f 215, f 216, f 217, f 218, f 219, f 220, f 221, f 222, f 223, f 224, f 225, f 226, f 227, f 228, f 229, f 230, f 231, f 232, f 233, f 234, f 235, f 236, f 237, f 238, f 239, f 240, f 241, f 242, f 243, f 244, f 245, f 246, f 247, f 248, f 249, f 250, f 251, f 252, f 253, f 254, f 255, f 256, f 257, f 258, f 259, f 260, f 261, f 262, f 263, f 264, f 265, f 266, f 267, f 268, f 269, f 270, f 271, f 272, f 273, f 274, f 275, f 276, f 277, f 278, f 279, f 280, f 281, f 282, f 283, f 284, f 285, f 286, f 287, f 288, f 289, f 290, f 291, f 292, f 293, f 294, f 295, f 296, f 297, f 298, f 299, f 300, f 301, f 302, f 303, f 304, f 305, f 306, f 307, f 308, f 309, f 310, f 311, f 312, f 313, f 314, f 315, f 316, f 317, f 318, f 319, f 320, f 321, f 322, f 323, f 324, f 325, f 326, f 327, f 328, f 329, f 330, f 331, f 332, f 333, f 334, f 335, f 336, f 337, f 338, f 339, f 340, f 341, f 342, f 343, f 344, f 345, f 346, f 347, f 348, f 349, f 350, f 351, f 352, f 353, f 354, f 355, f 356, f 357], []⟩ wr := by
  obtain ⟨n, hn⟩ : ∃ n, Y.length = n := ⟨_, rfl⟩
  obtain ⟨bi, oi, ci, hif, hci, hmi⟩ := hbi.spot hne
  rw [hn] at hif hci
  subst hif
  have HI := Lib.hid hbi
  have HO := Lib.hid hbo
  have HOR := Lib.hid hor
  have HN := Lib.hid hn
  have HMI := Lib.hid hmi
  have hTr : Tabs wr := hT.keeps hbo.keeps (fun _ _ => id)
  have cd := dec_bytes _ Y wr hTr (hbi.keeps hbo.keeps (fun _ _ => id)) hne
  have hob : o.length ≤ 140737488200000 := by have := congrArg List.length hor; rw [List.length_append] at this; omega
  clear hbi hbo hor hTr hne hn hmi
  subst hY
  conv => arg 2; whnf
  obtain ⟨q, hq⟩ : ∃ q, pre (r'.drop n1) = q := ⟨_, rfl⟩
  rw [hq] at cd HI HN hd hN hp
  rw [hd] at cd
  obtain ⟨N, hNe⟩ : ∃ N, n1 + q = N := ⟨_, rfl⟩
  rw [hNe] at HI HN hp hN
  clear hd
  have hlt : (r'.take N).length = N := by rw [List.length_take]; omega
  obtain ⟨Y2, hY2⟩ : ∃ Y2, r'.take N ++ (encL false (r'.drop N) ++ 34 :: T) = Y2 := ⟨_, rfl⟩
  have hYN : N ≤ Y2.length := by rw [← hY2, List.length_append, hlt]; omega
  have hYd : Y2.drop N = encL false (r'.drop N) ++ 34 :: T := by
    rw [← hY2, List.drop_left' hlt]
  have hYt : Y2.take N = r'.take N := by rw [← hY2, List.take_left' hlt]
  rw [hY2] at HI HN hp
  obtain ⟨V3, hV3, hb3, _⟩ := HI.out.from n1 (by omega)
  have hix := fun w1 (h : BytesAt w1 V3 (Y2.drop n1)) => indexNeed_bytes V3 _ w1 h
  rw [hp] at hix
  obtain ⟨V4, hV4, hb4, _⟩ := HI.out.from N hYN
  have hb5 := HI.out.take N ci hYN (by rw [HN.out] at hYN; omega) (Nat.le_refl _)
  rw [hYt] at hb5
  rw [hYd] at hb4
  obtain ⟨a4, c4, hf4, _, _⟩ := hb4.form
  have hf4l : (encL false (r'.drop N) ++ 34 :: T).length = n - N := by rw [← hYd, List.length_drop, HN.out]
  rw [hf4l] at hf4
  have h5 := fun w' => run_sto (some ⟨bi, oi, none⟩) n ci N (by rw [HN.out] at hYN; omega) w'
  have hwr : IntKind.i64.wrap ((n1 : Int) + (q : Int)) = (N : Int) := by
    have : N ≤ 140737488200000 := by have h1 := congrArg List.length HOR.out; rw [List.length_append] at h1; omega
    rw [IntWalk.i64_in _ (by omega)]; omega
  have hnn : N ≤ n := by rw [HN.out] at hYN; exact hYN
  have hne5 : r'.take N ≠ [] := by intro h; rw [h] at hlt; simp at hlt; omega
  have hol : o.length + (r'.take N).length ≤ 140737488355328 := by
    have h1 := congrArg List.length HOR.out; rw [List.length_append] at h1; rw [List.length_take]; omega
  have hN1 : 1 ≤ N := by omega
  have hnp : (0 : Int) < (n : Int) := by omega
  have H3 := Lib.hid hb3
  have H4 := Lib.hid hb4
  have H5 := Lib.hid hb5
  have HF4 := Lib.hid hf4
  have HNE := Lib.hid hne5
  have HOL := Lib.hid hol
  have HNN := Lib.hid hnn
  have HN1 := Lib.hid hN1
  have e2 : ((R : Int) == 0) = false := by simp; omega
  have e3 : ((R : Int) == 10) = false := by simp; omega
  have e4 : ((R : Int) == 34) = false := by simp; omega
  have e5 : ((R : Int) == 92) = false := by simp; omega
  have hnb := hR.2.2.2.2
  clear hb3 hb4 hb5 hf4 hY2 hYN hYd hYt hf4l hq hNe hp hN hlt hne5 hol hnn hN1 hR hR2
  have e1 : ((R : Int) == 65533) = false := by simp; omega
  clear hnb h65
  go_wp2_with (first
    | (go_at_call 44; refine cd.mono ?_; rintro e w1 ⟨rfl, k1⟩; have H1 := Lib.hid (HO.out.below k1); clear k1)
    | (go_at_call 43; refine (hix _ (H3.out.keeps H1.out.keeps (fun _ _ => id))).mono ?_; rintro e w2 ⟨rfl, rfl⟩))
  have HD := Lib.hid H1.out.drew
  clear cd hix
  go_region_law (refine step_buf_app HD.out (.tmp 63) (.tmp 68) (r := r'.take N) (H5.out.keeps HD.out.keeps (fun _ _ => id)) HNE.out HOL.out rfl rfl (by simp [Act.eval, Act.put]) (by simp [Act.eval, Act.put]) ?_; intro v7 w7 o7)
  have H7 := Lib.hid o7
  clear o7
  go_simp
  go_wp2
  refine ⟨⟨rfl, rfl, rfl, rfl, ?rel⟩, ?measure⟩
  case rel => exact ⟨r'.drop N, _, H4.out, H7.out, by rw [List.append_assoc, List.take_append_drop]; exact HOR.out⟩
  case measure => show lenOf V4 < _; rw [HF4.out]; have h1 := HNN.out; have h2 := HN1.out; simp [lenOf]; omega
end Go.Proofs.YtdckklmhnhbpiaaGreatDoor
