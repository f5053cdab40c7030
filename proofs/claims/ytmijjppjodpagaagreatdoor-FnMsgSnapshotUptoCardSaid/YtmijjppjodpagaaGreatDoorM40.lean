/-
  (*Decoder).parseString, a round: backslash u.
-/
import Derived.Test.YtmijjppjodpagaaGreatDoorM37
set_option linter.unusedVariables false
set_option linter.unusedSimpArgs false
namespace Go.Proofs.YtmijjppjodpagaaGreatDoor
open Go.RowKit

set_option maxRecDepth 1000000 in
set_option maxHeartbeats 40000000 in
theorem ps_uni (D : Nat) (w wr : World) (iv ov : Value) (l T r' o Y : List UInt8) (f : Nat → Value) (Qr : Act → World → Prop) (k : Nat) (h1 : 128 ≤ k) (h2 : k ≤ 159)
    (hT : Tabs w) (hl : l.length ≤ 140737488200000) (hY : Y = 92 :: 117 :: (hexB [0, 0, k / 16, k % 16] ++ (encL false r' ++ 34 :: T))) (hne : Y ≠ []) (hbi : BytesAt w iv Y) (hbo : Buf D w wr ov o) (hor : o ++ (UInt8.ofNat 194 :: UInt8.ofNat k :: r') = l) :
    Code.wp Tryz.prog psBody (Exit.then (fun a' w'' => PSI D w l T a' w'' ∧ PSmu a' w'' < lenOf iv) (retPost Qr)) ⟨#[.pointer (some ⟨D, 0, none⟩), f 1, f 2, f 3, iv, .int .u8 34, f 6, ov, f 8, f 9, f 10, f 11, f 12, f 13, f 14, f 15, f 16, f 17, f 18, f 19, f 20, f 21, f 22, f 23, f 24, f 25, f 26, f 27, f 28, f 29, f 30, f 31, f 32, f 33, f 34, f 35, f 36, f 37, f 38, f 39, f 40, f 41, f 42, f 43, f 44, f 45, f 46, f 47, f 48, f 49, f 50, f 51, f 52, f 53, f 54, f 55, f 56, f 57, f 58, f 59, f 60, f 61, f 62, f 63, f 64, f 65, f 66, f 67, f 68, f 69, f 70, f 71, f 72, f 73, f 74, f 75, f 76, f 77, f 78, f 79, f 80, f 81, f 82, f 83, f 84, f 85, f 86, f 87, f 88, f 89, f 90, f 91, f 92, f 93, f 94, f 95, f 96, f 97, f 98, f 99, f 100, f 101, f 102, f 103, f 104, f 105, f 106, f 107, f 108, f 109, f 110, f 111, f 112, f 113, f 114, f 115, f 116, f 117, f 118, f 119, f 120, f 121, f 122, f 123, f 124, f 125, f 126, f 127, f 128, f 129, f 130, f 131, f 132, f 133, f 134, f 135, f 136, f 137, f 138, f 139, f 140, f 141, f 142, f 143, f 144, f 145, f 146, f 147, f 148, f 149, f 150, f 151, f 152, f 153, f 154, f 155, f 156, f 157, f 158, f 159, f 160, f 161, f 162, f 163, f 164, f 165, f 166, f 167, f 168, f 169, f 170, f 171, f 172, f 173, f 174, f 175, f 176, f 177, f 178, f 179, f 180, f 181, f 182, f 183, f 184, f 185, f 186, f 187, f 188, f 189, f 190, f 191, f 192, f 193, f 194, f 195, f 196, f 197, f 198, f 199, f 200, f 201, f 202, f 203, f 204, f 205, f 206, f 207, f 208, f 209, f 210, f 211, f 212, f 213, f 214, f 215, f 216, f 217, f 218, f 219, f 220, f 221, f 222, f 223, f 224, f 225, f 226, f 227, f 228, f 229, f 230, f 231, f 232, f 233, f 234, f 235, f 236, f 237, f 238, f 239, f 240, f 241, f 242, f 243, f 244, f 245, f 246, f 247, f 248, f 249, f 250, f 251, f 252, f 253, f 254, f 255, f 256, f 257, f 258, f 259, f 260, f 261, f 262, f 263, f 264, f 265, f 266, f 267, f 268, f 269, f 270, f 271, f 272, f 273, f 274, f 275, f 276, f 277, f 278, f 279, f 280, f 281, f 282, f 283, f 284, f 285, f 286, f 287, f 288, f 289, f 290, f 291, f 292, f 293, f 294, f 295, f 296, f 297, f 298, f 299, f 300, f 301, f 302, f 303, f 304, f 305, f 306, f 307, f 308, f 309, f 310, f 311, f 312, f 313, f 314, f 315, f 316, f 317, f 318, f 319, f 320, f 321, f 322, f 323, f 324, f 325, f 326, f 327, f 328, f 329, f 330, f 331, f 332, f 333, f 334, f 335, f 336, f 337, f 338, f 339, f 340, f 341, f 342, f 343, f 344, f 345, f 346, f 347, f 348, f 349, f 350, f 351, f 352, f 353, f 354, f 355, f 356, f 357], []⟩ wr := by
  obtain ⟨n, hn⟩ : ∃ n, Y.length = n := ⟨_, rfl⟩
  obtain ⟨bi, oi, ci, hif, hci, hmi⟩ := hbi.spot hne
  rw [hn] at hif hci
  subst hif
  have HI := Lib.hid hbi
  have HO := Lib.hid hbo
  have HOR := Lib.hid hor
  have HN := Lib.hid hn
  have HMI := Lib.hid hmi
  have hTr : Tabs wr := hT.keeps hbo.keeps (fun _ _ => id)
  have cd := dec_bytes _ Y wr hTr (hbi.keeps hbo.keeps (fun _ _ => id)) hne
  have hob : o.length ≤ 140737488200000 := by have := congrArg List.length hor; rw [List.length_append] at this; omega
  clear hbi hbo hor hTr hne hn hmi
  subst hY
  conv => arg 2; whnf

  rw [dec_head 92 _ (by decide)] at cd
  obtain ⟨Z, hZ⟩ : ∃ Z, encL false r' ++ 34 :: T = Z := ⟨_, rfl⟩
  have HZ := Lib.hid hZ
  rw [hZ] at HI HN
  clear hZ
  obtain ⟨m, rfl⟩ : ∃ m, n = m + 6 := ⟨Z.length, by rw [← HN.out]; simp [hexB]⟩
  have HM : Hid (Z.length = m) := by have h := HN.out; simp [hexB] at h; show _ = m; omega
  have hx1 := HI.out.cell.2 1 (by simp)
  simp only [List.getElem_cons_succ, List.getElem_cons_zero] at hx1
  obtain ⟨V4, hV4, hb4⟩ := HI.out.mid 2 6 (by omega) (by simp [hexB])
  have hb4' : BytesAt w V4 (hexB [0, 0, k / 16, k % 16]) := by simpa [hexB] using hb4
  obtain ⟨V5, hV5, hb5, _⟩ := HI.out.from 6 (by simp [hexB])
  have hb5' : BytesAt w V5 Z := by simpa [hexB] using hb5
  obtain ⟨a5, c5, hf5, _, _⟩ := hb5'.form
  rw [HM.out] at hf5
  have HF5 := Lib.hid hf5
  have H4 := Lib.hid hb4'
  have H5 := Lib.hid hb5'
  have hV4' : ∀ w', (Instr.slice 31 (.slice (some ⟨bi, oi, none⟩) (m + 6) ci) (some (.int .i64 2)) (some (.int .i64 6)) none).run Tryz.prog w' = .ok V4 w' := hV4
  have hV5' : ∀ w', (Instr.slice 31 (.slice (some ⟨bi, oi, none⟩) (m + 6) ci) (some (.int .i64 6)) none none).run Tryz.prog w' = .ok V5 w' := hV5
  clear hb4 hb4' hb5 hb5' hf5 hV4 hV5
  have hval : hexV [0, 0, k / 16, k % 16] = k := by simp [hexV]; omega
  have cp := fun w1 => parse_32 [0, 0, k / 16, k % 16] (by simp; omega) (by simp) (by simp) w1
  rw [hval] at cp
  have hen : Utf8.encode (k : Int) = mk [UInt8.ofNat 194, UInt8.ofNat k] := by
    have hv : Utf8.valid (k : Int) = true := by simp [Utf8.valid]; omega
    unfold Utf8.encode
    simp only [hv, if_true, Int.toNat_natCast]
    rw [if_neg (by omega), if_pos (by omega)]
    show mk [_, _] = mk [_, _]
    rw [show 192 + k / 64 = 194 by omega, show 128 + k % 64 = k by omega]
  have u1 : ¬ (1114111 : Int) < (k : Int) := by omega
  have u2 : ¬ (55296 : Int) ≤ (k : Int) := by omega
  have u3 : ¬ (m : Int) + 6 < 6 := by omega
  have u4 : ¬ (m : Int) < 0 := by omega
  have hw32 : IntKind.i32.wrap (k : Int) = (k : Int) := by rw [IntKind.wrap_i32]; omega
  obtain ⟨s2, hs2⟩ : ∃ s2, [UInt8.ofNat 194, UInt8.ofNat k] = s2 := ⟨_, rfl⟩
  rw [hs2] at hen
  have hs0 : s2 ≠ [] := by rw [← hs2]; simp
  have hsl : s2.length = 2 := by rw [← hs2]; rfl
  have HS0 := Lib.hid hs0
  have HS2 := Lib.hid hs2
  clear hs2 hs0 hval h1
  --@U1
  go_wp2_with (first
    | (go_at_call 152; refine cd.mono ?_; rintro e w1 ⟨rfl, k1⟩; have H1 := Lib.hid (HO.out.below k1); have g1 : w1.cell? ⟨bi, oi + 1, none⟩ = some (.int .u8 117) := H1.out.keeps.cell hx1 id; have hcv := run_to_str (H4.out.keeps H1.out.keeps (fun _ _ => id)); clear k1)
    | (go_at_call 153; refine (cp _).mono ?_; rintro e w4 ⟨rfl, k4⟩; have H6 := Lib.hid (H1.out.below k4); clear k4 hcv)
    | (go_at_call 154; go_in)
    | (at_builtin; refine at_buf_str H6.out (.tmp 353) (.tmp 355) s2 HS0.out (by omega) rfl rfl rfl (by simp [Act.eval, Act.put, hen]) ?_; intro v7 w7 o7; have H7 := Lib.hid o7; clear o7))
  --@U2
  refine ⟨⟨rfl, rfl, rfl, rfl, ?rel⟩, ?measure⟩
  case rel => exact ⟨r', _, by rw [HZ.out]; exact H5.out, H7.out, by have h := HOR.out; rw [← HS2.out]; simpa using h⟩
  case measure => show lenOf V5 < _; rw [HF5.out]; simp [lenOf]
end Go.Proofs.YtmijjppjodpagaaGreatDoor
