/-
  (*Decoder).parseString, a round: a backslash and one character.
  Contracts of Go's library at the numbers of this seat: written by the shelf's tool in plain words.
  bytes.TrimLeft at the octal digits, in these texts' own words.
-/
import Derived.Test.YtonegoemmologaaGreatDoorM11
import Derived.Shelf.Bytes.SlTrim
import Derived.Test.YtonegoemmologaaGreatDoorProg
set_option linter.unusedVariables false
set_option linter.unusedSimpArgs false
namespace Go.Proofs.YtonegoemmologaaGreatDoor
open Go.RowKit
set_option maxRecDepth 1000000 in
set_option maxHeartbeats 40000000 in
theorem ps_esc34 (D : Nat) (w wr : World) (iv ov : Value) (l T r' o Y : List UInt8) (f : Nat → Value) (Qr : Act → World → Prop)
 (hT : Tabs w) (hl : l.length ≤ 140737488200000) (hY : Y = 92 :: 34 :: (encB r' ++ 34 :: T)) (hne : Y ≠ []) (hbi : BytesAt w iv Y) (hbo : Buf D w wr ov o) (hor : o ++ (34 :: r') = l) :
 Code.wp Tryz.prog psBody (Exit.then (fun a' w'' => PSI D w l T a' w'' ∧ PSmu a' w'' < lenOf iv) (retPost Qr)) ⟨#[.pointer (some ⟨D, 0, none⟩), f 1, f 2, f 3, iv, .int .u8 34, f 6, ov, f 8, f 9, f 10, f 11, f 12, f 13, f 14, f 15, f 16, f 17, f 18, f 19, f 20, f 21, f 22, f 23, f 24, f 25, f 26, f 27, f 28, f 29, f 30, f 31, f 32, f 33, f 34, f 35, f 36, f 37, f 38, f 39, f 40, f 41, f 42, f 43, f 44, f 45, f 46, f 47, f 48, f 49, f 50, f 51, f 52, f 53, f 54, f 55, f 56, f 57, f 58, f 59, f 60, f 61, f 62, f 63, f 64, f 65, f 66, f 67, f 68, f 69, f 70, f 71, f 72, f 73, f 74, f 75, f 76, f 77, f 78, f 79, f 80, f 81, f 82, f 83, f 84, f 85, f 86, f 87, f 88, f 89, f 90, f 91, f 92, f 93, f 94, f 95, f 96, f 97, f 98, f 99, f 100, f 101, f 102, f 103, f 104, f 105, f 106, f 107, f 108, f 109, f 110, f 111, f 112, f 113, f 114, f 115, f 116, f 117, f 118, f 119, f 120, f 121, f 122, f 123, f 124, f 125, f 126, f 127, f 128, f 129, f 130, f 131, f 132, f 133, f 134, f 135, f 136, f 137, f 138, f 139, f 140, f 141, f 142, f 143, f 144, f 145, f 146, f 147, f 148, f 149, f 150, f 151, f 152, f 153, f 154, f 155, f 156, f 157, f 158, f 159, f 160, f 161, f 162, f 163, f 164, f 165, f 166, f 167, f 168, f 169, f 170, f 171, f 172, f 173, f 174, f 175, f 176, f 177, f 178, f 179, f 180, f 181, f 182, f 183, f 184, f 185, f 186, f 187, f 188, f 189, f 190, f 191, f 192, f 193, f 194, f 195, f 196, f 197, f 198, f 199, f 200, f 201, f 202, f 203, f 204, f 205, f 206, f 207, f 208, f 209, f 210, f 211, f 212, f 213, f 214, f 215, f 216, f 217, f 218, f 219, f 220, f 221, f 222, f 223, f 224, f 225, f 226, f 227, f 228, f 229, f 230, f 231, f 232, f 233, f 234, f 235, f 236, f 237, f 238, f 239, f 240, f 241, f 242, f 243, f 244, f 245, f 246, f 247, f 248, f 249, f 250, f 251, f 252, f 253, f 254, f 255, f 256, f 257, f 258, f 259, f 260, f 261, f 262, f 263, f 264, f 265, f 266, f 267, f 268, f 269, f 270, f 271, f 272, f 273, f 274, f 275, f 276, f 277, f 278, f 279, f 280, f 281, f 282, f 283, f 284, f 285, f 286, f 287, f 288, f 289, f 290, f 291, f 292, f 293, f 294, f 295, f 296, f 297, f 298, f 299, f 300, f 301, f 302, f 303, f 304, f 305, f 306, f 307, f 308, f 309, f 310, f 311, f 312, f 313, f 314, f 315, f 316, f 317, f 318, f 319, f 320, f 321, f 322, f 323, f 324, f 325, f 326, f 327, f 328, f 329, f 330, f 331, f 332, f 333, f 334, f 335, f 336, f 337, f 338, f 339, f 340, f 341, f 342, f 343, f 344, f 345, f 346, f 347, f 348, f 349, f 350, f 351, f 352, f 353, f 354, f 355, f 356, f 357], []⟩ wr := by
 obtain ⟨n, hn⟩ : ∃ n, Y.length = n := ⟨_, rfl⟩
 obtain ⟨bi, oi, ci, hif, hci, hmi⟩ := hbi.spot hne
 rw [hn] at hif hci
 subst hif
 have HI := Lib.hid hbi
 have HO := Lib.hid hbo
 have HOR := Lib.hid hor
 have HN := Lib.hid hn
 have HMI := Lib.hid hmi
 have hTr : Tabs wr := hT.keeps hbo.keeps (fun _ _ => id)
 have cd := dec_bytes _ Y wr hTr (hbi.keeps hbo.keeps (fun _ _ => id)) hne
 have hob : o.length ≤ 140737488200000 := by have := congrArg List.length hor; rw [List.length_append] at this; omega
 clear hbi hbo hor hTr hne hn hmi
 subst hY
 conv => arg 2; whnf
 rw [dec_head 92 _ (by decide)] at cd
 obtain ⟨V2, hV2, hb2, _⟩ := HI.out.from 2 (by simp)
 have hb2' : BytesAt w V2 (encB r' ++ 34 :: T) := hb2
 have H2 := Lib.hid hb2'
 obtain ⟨m, rfl⟩ : ∃ m, n = m + 2 := ⟨(encB r' ++ 34 :: T).length, HN.out.symm⟩
 have HM : Hid ((encB r' ++ 34 :: T).length = m) := by have h := HN.out; simp only [List.length_cons] at h; show _ = m; omega
 obtain ⟨a2, c2, hf2, _, _⟩ := hb2'.form
 rw [HM.out] at hf2
 have HF2 := Lib.hid hf2
 have hV2' : ∀ w', (Instr.slice 72 (.slice (some ⟨bi, oi, none⟩) (m + 2) ci) (some (.int .i64 2)) none none).run Tryz.prog w' = .ok V2 w' := hV2
 clear hb2 hb2' hf2 hV2
 have hx1 := HI.out.cell.2 1 (by simp)
 simp only [List.getElem_cons_succ, List.getElem_cons_zero] at hx1
 go_wp2_with (go_at_call 125; refine cd.mono ?_; rintro e w1 ⟨rfl, k1⟩; have H1 := Lib.hid (HO.out.below k1); have g1 : w1.cell? ⟨bi, oi + 1, none⟩ = some (.int .u8 34) := H1.out.keeps.cell hx1 id; clear k1)
 have HD := Lib.hid H1.out.drew
 clear cd hx1
 go_region_law (refine step_buf_lit HD.out (.tmp 134) (.tmp 136) 34 (by omega) rfl rfl (by simp [Act.eval, Act.put]) (by simp [Act.eval, Act.put]) ?_; intro v3 w3 o3)
 have H3 := Lib.hid o3
 clear o3
 go_simp
 go_wp2
 refine ⟨⟨rfl, rfl, rfl, rfl, ?rel⟩, ?measure⟩
 case rel => exact ⟨r', _, H2.out, H3.out, by have h := HOR.out; simpa using h⟩
 case measure => show lenOf V2 < _; rw [HF2.out]; simp [lenOf]
set_option maxRecDepth 1000000 in
set_option maxHeartbeats 40000000 in
theorem ps_esc39 (D : Nat) (w wr : World) (iv ov : Value) (l T r' o Y : List UInt8) (f : Nat → Value) (Qr : Act → World → Prop)
 (hT : Tabs w) (hl : l.length ≤ 140737488200000) (hY : Y = 92 :: 39 :: (encB r' ++ 34 :: T)) (hne : Y ≠ []) (hbi : BytesAt w iv Y) (hbo : Buf D w wr ov o) (hor : o ++ (39 :: r') = l) :
 Code.wp Tryz.prog psBody (Exit.then (fun a' w'' => PSI D w l T a' w'' ∧ PSmu a' w'' < lenOf iv) (retPost Qr)) ⟨#[.pointer (some ⟨D, 0, none⟩), f 1, f 2, f 3, iv, .int .u8 34, f 6, ov, f 8, f 9, f 10, f 11, f 12, f 13, f 14, f 15, f 16, f 17, f 18, f 19, f 20, f 21, f 22, f 23, f 24, f 25, f 26, f 27, f 28, f 29, f 30, f 31, f 32, f 33, f 34, f 35, f 36, f 37, f 38, f 39, f 40, f 41, f 42, f 43, f 44, f 45, f 46, f 47, f 48, f 49, f 50, f 51, f 52, f 53, f 54, f 55, f 56, f 57, f 58, f 59, f 60, f 61, f 62, f 63, f 64, f 65, f 66, f 67, f 68, f 69, f 70, f 71, f 72, f 73, f 74, f 75, f 76, f 77, f 78, f 79, f 80, f 81, f 82, f 83, f 84, f 85, f 86, f 87, f 88, f 89, f 90, f 91, f 92, f 93, f 94, f 95, f 96, f 97, f 98, f 99, f 100, f 101, f 102, f 103, f 104, f 105, f 106, f 107, f 108, f 109, f 110, f 111, f 112, f 113, f 114, f 115, f 116, f 117, f 118, f 119, f 120, f 121, f 122, f 123, f 124, f 125, f 126, f 127, f 128, f 129, f 130, f 131, f 132, f 133, f 134, f 135, f 136, f 137, f 138, f 139, f 140, f 141, f 142, f 143, f 144, f 145, f 146, f 147, f 148, f 149, f 150, f 151, f 152, f 153, f 154, f 155, f 156, f 157, f 158, f 159, f 160, f 161, f 162, f 163, f 164, f 165, f 166, f 167, f 168, f 169, f 170, f 171, f 172, f 173, f 174, f 175, f 176, f 177, f 178, f 179, f 180, f 181, f 182, f 183, f 184, f 185, f 186, f 187, f 188, f 189, f 190, f 191, f 192, f 193, f 194, f 195, f 196, f 197, f 198, f 199, f 200, f 201, f 202, f 203, f 204, f 205, f 206, f 207, f 208, f 209, f 210, f 211, f 212, f 213, f 214, f 215, f 216, f 217, f 218, f 219, f 220, f 221, f 222, f 223, f 224, f 225, f 226, f 227, f 228, f 229, f 230, f 231, f 232, f 233, f 234, f 235, f 236, f 237, f 238, f 239, f 240, f 241, f 242, f 243, f 244, f 245, f 246, f 247, f 248, f 249, f 250, f 251, f 252, f 253, f 254, f 255, f 256, f 257, f 258, f 259, f 260, f 261, f 262, f 263, f 264, f 265, f 266, f 267, f 268, f 269, f 270, f 271, f 272, f 273, f 274, f 275, f 276, f 277, f 278, f 279, f 280, f 281, f 282, f 283, f 284, f 285, f 286, f 287, f 288, f 289, f 290, f 291, f 292, f 293, f 294, f 295, f 296, f 297, f 298, f 299, f 300, f 301, f 302, f 303, f 304, f 305, f 306, f 307, f 308, f 309, f 310, f 311, f 312, f 313, f 314, f 315, f 316, f 317, f 318, f 319, f 320, f 321, f 322, f 323, f 324, f 325, f 326, f 327, f 328, f 329, f 330, f 331, f 332, f 333, f 334, f 335, f 336, f 337, f 338, f 339, f 340, f 341, f 342, f 343, f 344, f 345, f 346, f 347, f 348, f 349, f 350, f 351, f 352, f 353, f 354, f 355, f 356, f 357], []⟩ wr := by
 obtain ⟨n, hn⟩ : ∃ n, Y.length = n := ⟨_, rfl⟩
 obtain ⟨bi, oi, ci, hif, hci, hmi⟩ := hbi.spot hne
 rw [hn] at hif hci
 subst hif
 have HI := Lib.hid hbi
 have HO := Lib.hid hbo
 have HOR := Lib.hid hor
 have HN := Lib.hid hn
 have HMI := Lib.hid hmi
 have hTr : Tabs wr := hT.keeps hbo.keeps (fun _ _ => id)
 have cd := dec_bytes _ Y wr hTr (hbi.keeps hbo.keeps (fun _ _ => id)) hne
 have hob : o.length ≤ 140737488200000 := by have := congrArg List.length hor; rw [List.length_append] at this; omega
 clear hbi hbo hor hTr hne hn hmi
 subst hY
 conv => arg 2; whnf
 rw [dec_head 92 _ (by decide)] at cd
 obtain ⟨V2, hV2, hb2, _⟩ := HI.out.from 2 (by simp)
 have hb2' : BytesAt w V2 (encB r' ++ 34 :: T) := hb2
 have H2 := Lib.hid hb2'
 obtain ⟨m, rfl⟩ : ∃ m, n = m + 2 := ⟨(encB r' ++ 34 :: T).length, HN.out.symm⟩
 have HM : Hid ((encB r' ++ 34 :: T).length = m) := by have h := HN.out; simp only [List.length_cons] at h; show _ = m; omega
 obtain ⟨a2, c2, hf2, _, _⟩ := hb2'.form
 rw [HM.out] at hf2
 have HF2 := Lib.hid hf2
 have hV2' : ∀ w', (Instr.slice 72 (.slice (some ⟨bi, oi, none⟩) (m + 2) ci) (some (.int .i64 2)) none none).run Tryz.prog w' = .ok V2 w' := hV2
 clear hb2 hb2' hf2 hV2
 have hx1 := HI.out.cell.2 1 (by simp)
 simp only [List.getElem_cons_succ, List.getElem_cons_zero] at hx1
 go_wp2_with (go_at_call 125; refine cd.mono ?_; rintro e w1 ⟨rfl, k1⟩; have H1 := Lib.hid (HO.out.below k1); have g1 : w1.cell? ⟨bi, oi + 1, none⟩ = some (.int .u8 39) := H1.out.keeps.cell hx1 id; clear k1)
 have HD := Lib.hid H1.out.drew
 clear cd hx1
 go_region_law (refine step_buf_lit HD.out (.tmp 134) (.tmp 136) 39 (by omega) rfl rfl (by simp [Act.eval, Act.put]) (by simp [Act.eval, Act.put]) ?_; intro v3 w3 o3)
 have H3 := Lib.hid o3
 clear o3
 go_simp
 go_wp2
 refine ⟨⟨rfl, rfl, rfl, rfl, ?rel⟩, ?measure⟩
 case rel => exact ⟨r', _, H2.out, H3.out, by have h := HOR.out; simpa using h⟩
 case measure => show lenOf V2 < _; rw [HF2.out]; simp [lenOf]
set_option maxRecDepth 1000000 in
set_option maxHeartbeats 40000000 in
theorem ps_esc92 (D : Nat) (w wr : World) (iv ov : Value) (l T r' o Y : List UInt8) (f : Nat → Value) (Qr : Act → World → Prop)
 (hT : Tabs w) (hl : l.length ≤ 140737488200000) (hY : Y = 92 :: 92 :: (encB r' ++ 34 :: T)) (hne : Y ≠ []) (hbi : BytesAt w iv Y) (hbo : Buf D w wr ov o) (hor : o ++ (92 :: r') = l) :
 Code.wp Tryz.prog psBody (Exit.then (fun a' w'' => PSI D w l T a' w'' ∧ PSmu a' w'' < lenOf iv) (retPost Qr)) ⟨#[.pointer (some ⟨D, 0, none⟩), f 1, f 2, f 3, iv, .int .u8 34, f 6, ov, f 8, f 9, f 10, f 11, f 12, f 13, f 14, f 15, f 16, f 17, f 18, f 19, f 20, f 21, f 22, f 23, f 24, f 25, f 26, f 27, f 28, f 29, f 30, f 31, f 32, f 33, f 34, f 35, f 36, f 37, f 38, f 39, f 40, f 41, f 42, f 43, f 44, f 45, f 46, f 47, f 48, f 49, f 50, f 51, f 52, f 53, f 54, f 55, f 56, f 57, f 58, f 59, f 60, f 61, f 62, f 63, f 64, f 65, f 66, f 67, f 68, f 69, f 70, f 71, f 72, f 73, f 74, f 75, f 76, f 77, f 78, f 79, f 80, f 81, f 82, f 83, f 84, f 85, f 86, f 87, f 88, f 89, f 90, f 91, f 92, f 93, f 94, f 95, f 96, f 97, f 98, f 99, f 100, f 101, f 102, f 103, f 104, f 105, f 106, f 107, f 108, f 109, f 110, f 111, f 112, f 113, f 114, f 115, f 116, f 117, f 118, f 119, f 120, f 121, f 122, f 123, f 124, f 125, f 126, f 127, f 128, f 129, f 130, f 131, f 132, f 133, f 134, f 135, f 136, f 137, f 138, f 139, f 140, f 141, f 142, f 143, f 144, f 145, f 146, f 147, f 148, f 149, f 150, f 151, f 152, f 153, f 154, f 155, f 156, f 157, f 158, f 159, f 160, f 161, f 162, f 163, f 164, f 165, f 166, f 167, f 168, f 169, f 170, f 171, f 172, f 173, f 174, f 175, f 176, f 177, f 178, f 179, f 180, f 181, f 182, f 183, f 184, f 185, f 186, f 187, f 188, f 189, f 190, f 191, f 192, f 193, f 194, f 195, f 196, f 197, f 198, f 199, f 200, f 201, f 202, f 203, f 204, f 205, f 206, f 207, f 208, f 209, f 210, f 211, f 212, f 213, f 214, f 215, f 216, f 217, f 218, f 219, f 220, f 221, f 222, f 223, f 224, f 225, f 226, f 227, f 228, f 229, f 230, f 231, f 232, f 233, f 234, f 235, f 236, f 237, f 238, f 239, f 240, f 241, f 242, f 243, f 244, f 245, f 246, f 247, f 248, f 249, f 250, f 251, f 252, f 253, f 254, f 255, f 256, f 257, f 258, f 259, f 260, f 261, f 262, f 263, f 264, f 265, f 266, f 267, f 268, f 269, f 270, f 271, f 272, f 273, f 274, f 275, f 276, f 277, f 278, f 279, f 280, f 281, f 282, f 283, f 284, f 285, f 286, f 287, f 288, f 289, f 290, f 291, f 292, f 293, f 294, f 295, f 296, f 297, f 298, f 299, f 300, f 301, f 302, f 303, f 304, f 305, f 306, f 307, f 308, f 309, f 310, f 311, f 312, f 313, f 314, f 315, f 316, f 317, f 318, f 319, f 320, f 321, f 322, f 323, f 324, f 325, f 326, f 327, f 328, f 329, f 330, f 331, f 332, f 333, f 334, f 335, f 336, f 337, f 338, f 339, f 340, f 341, f 342, f 343, f 344, f 345, f 346, f 347, f 348, f 349, f 350, f 351, f 352, f 353, f 354, f 355, f 356, f 357], []⟩ wr := by
 obtain ⟨n, hn⟩ : ∃ n, Y.length = n := ⟨_, rfl⟩
 obtain ⟨bi, oi, ci, hif, hci, hmi⟩ := hbi.spot hne
 rw [hn] at hif hci
 subst hif
 have HI := Lib.hid hbi
 have HO := Lib.hid hbo
 have HOR := Lib.hid hor
 have HN := Lib.hid hn
 have HMI := Lib.hid hmi
 have hTr : Tabs wr := hT.keeps hbo.keeps (fun _ _ => id)
 have cd := dec_bytes _ Y wr hTr (hbi.keeps hbo.keeps (fun _ _ => id)) hne
 have hob : o.length ≤ 140737488200000 := by have := congrArg List.length hor; rw [List.length_append] at this; omega
 clear hbi hbo hor hTr hne hn hmi
 subst hY
 conv => arg 2; whnf
 rw [dec_head 92 _ (by decide)] at cd
 obtain ⟨V2, hV2, hb2, _⟩ := HI.out.from 2 (by simp)
 have hb2' : BytesAt w V2 (encB r' ++ 34 :: T) := hb2
 have H2 := Lib.hid hb2'
 obtain ⟨m, rfl⟩ : ∃ m, n = m + 2 := ⟨(encB r' ++ 34 :: T).length, HN.out.symm⟩
 have HM : Hid ((encB r' ++ 34 :: T).length = m) := by have h := HN.out; simp only [List.length_cons] at h; show _ = m; omega
 obtain ⟨a2, c2, hf2, _, _⟩ := hb2'.form
 rw [HM.out] at hf2
 have HF2 := Lib.hid hf2
 have hV2' : ∀ w', (Instr.slice 72 (.slice (some ⟨bi, oi, none⟩) (m + 2) ci) (some (.int .i64 2)) none none).run Tryz.prog w' = .ok V2 w' := hV2
 clear hb2 hb2' hf2 hV2
 have hx1 := HI.out.cell.2 1 (by simp)
 simp only [List.getElem_cons_succ, List.getElem_cons_zero] at hx1
 go_wp2_with (go_at_call 125; refine cd.mono ?_; rintro e w1 ⟨rfl, k1⟩; have H1 := Lib.hid (HO.out.below k1); have g1 : w1.cell? ⟨bi, oi + 1, none⟩ = some (.int .u8 92) := H1.out.keeps.cell hx1 id; clear k1)
 have HD := Lib.hid H1.out.drew
 clear cd hx1
 go_region_law (refine step_buf_lit HD.out (.tmp 134) (.tmp 136) 92 (by omega) rfl rfl (by simp [Act.eval, Act.put]) (by simp [Act.eval, Act.put]) ?_; intro v3 w3 o3)
 have H3 := Lib.hid o3
 clear o3
 go_simp
 go_wp2
 refine ⟨⟨rfl, rfl, rfl, rfl, ?rel⟩, ?measure⟩
 case rel => exact ⟨r', _, H2.out, H3.out, by have h := HOR.out; simpa using h⟩
 case measure => show lenOf V2 < _; rw [HF2.out]; simp [lenOf]
set_option maxRecDepth 1000000 in
set_option maxHeartbeats 40000000 in
theorem ps_esc110 (D : Nat) (w wr : World) (iv ov : Value) (l T r' o Y : List UInt8) (f : Nat → Value) (Qr : Act → World → Prop)
 (hT : Tabs w) (hl : l.length ≤ 140737488200000) (hY : Y = 92 :: 110 :: (encB r' ++ 34 :: T)) (hne : Y ≠ []) (hbi : BytesAt w iv Y) (hbo : Buf D w wr ov o) (hor : o ++ (10 :: r') = l) :
 Code.wp Tryz.prog psBody (Exit.then (fun a' w'' => PSI D w l T a' w'' ∧ PSmu a' w'' < lenOf iv) (retPost Qr)) ⟨#[.pointer (some ⟨D, 0, none⟩), f 1, f 2, f 3, iv, .int .u8 34, f 6, ov, f 8, f 9, f 10, f 11, f 12, f 13, f 14, f 15, f 16, f 17, f 18, f 19, f 20, f 21, f 22, f 23, f 24, f 25, f 26, f 27, f 28, f 29, f 30, f 31, f 32, f 33, f 34, f 35, f 36, f 37, f 38, f 39, f 40, f 41, f 42, f 43, f 44, f 45, f 46, f 47, f 48, f 49, f 50, f 51, f 52, f 53, f 54, f 55, f 56, f 57, f 58, f 59, f 60, f 61, f 62, f 63, f 64, f 65, f 66, f 67, f 68, f 69, f 70, f 71, f 72, f 73, f 74, f 75, f 76, f 77, f 78, f 79, f 80, f 81, f 82, f 83, f 84, f 85, f 86, f 87, f 88, f 89, f 90, f 91, f 92, f 93, f 94, f 95, f 96, f 97, f 98, f 99, f 100, f 101, f 102, f 103, f 104, f 105, f 106, f 107, f 108, f 109, f 110, f 111, f 112, f 113, f 114, f 115, f 116, f 117, f 118, f 119, f 120, f 121, f 122, f 123, f 124, f 125, f 126, f 127, f 128, f 129, f 130, f 131, f 132, f 133, f 134, f 135, f 136, f 137, f 138, f 139, f 140, f 141, f 142, f 143, f 144, f 145, f 146, f 147, f 148, f 149, f 150, f 151, f 152, f 153, f 154, f 155, f 156, f 157, f 158, f 159, f 160, f 161, f 162, f 163, f 164, f 165, f 166, f 167, f 168, f 169, f 170, f 171, f 172, f 173, f 174, f 175, f 176, f 177, f 178, f 179, f 180, f 181, f 182, f 183, f 184, f 185, f 186, f 187, f 188, f 189, f 190, f 191, f 192, f 193, f 194, f 195, f 196, f 197, f 198, f 199, f 200, f 201, f 202, f 203, f 204, f 205, f 206, f 207, f 208, f 209, f 210, f 211, f 212, f 213, f 214, f 215, f 216, f 217, f 218, f 219, f 220, f 221, f 222, f 223, f 224, f 225, f 226, f 227, f 228, f 229, f 230, f 231, f 232, f 233, f 234, f 235, f 236, f 237, f 238, f 239, f 240, f 241, f 242, f 243, f 244, f 245, f 246, f 247, f 248, f 249, f 250, f 251, f 252, f 253, f 254, f 255, f 256, f 257, f 258, f 259, f 260, f 261, f 262, f 263, f 264, f 265, f 266, f 267, f 268, f 269, f 270, f 271, f 272, f 273, f 274, f 275, f 276, f 277, f 278, f 279, f 280, f 281, f 282, f 283, f 284, f 285, f 286, f 287, f 288, f 289, f 290, f 291, f 292, f 293, f 294, f 295, f 296, f 297, f 298, f 299, f 300, f 301, f 302, f 303, f 304, f 305, f 306, f 307, f 308, f 309, f 310, f 311, f 312, f 313, f 314, f 315, f 316, f 317, f 318, f 319, f 320, f 321, f 322, f 323, f 324, f 325, f 326, f 327, f 328, f 329, f 330, f 331, f 332, f 333, f 334, f 335, f 336, f 337, f 338, f 339, f 340, f 341, f 342, f 343, f 344, f 345, f 346, f 347, f 348, f 349, f 350, f 351, f 352, f 353, f 354, f 355, f 356, f 357], []⟩ wr := by
 obtain ⟨n, hn⟩ : ∃ n, Y.length = n := ⟨_, rfl⟩
 obtain ⟨bi, oi, ci, hif, hci, hmi⟩ := hbi.spot hne
 rw [hn] at hif hci
 subst hif
 have HI := Lib.hid hbi
 have HO := Lib.hid hbo
 have HOR := Lib.hid hor
 have HN := Lib.hid hn
 have HMI := Lib.hid hmi
 have hTr : Tabs wr := hT.keeps hbo.keeps (fun _ _ => id)
 have cd := dec_bytes _ Y wr hTr (hbi.keeps hbo.keeps (fun _ _ => id)) hne
 have hob : o.length ≤ 140737488200000 := by have := congrArg List.length hor; rw [List.length_append] at this; omega
 clear hbi hbo hor hTr hne hn hmi
 subst hY
 conv => arg 2; whnf
 rw [dec_head 92 _ (by decide)] at cd
 obtain ⟨V2, hV2, hb2, _⟩ := HI.out.from 2 (by simp)
 have hb2' : BytesAt w V2 (encB r' ++ 34 :: T) := hb2
 have H2 := Lib.hid hb2'
 obtain ⟨m, rfl⟩ : ∃ m, n = m + 2 := ⟨(encB r' ++ 34 :: T).length, HN.out.symm⟩
 have HM : Hid ((encB r' ++ 34 :: T).length = m) := by have h := HN.out; simp only [List.length_cons] at h; show _ = m; omega
 obtain ⟨a2, c2, hf2, _, _⟩ := hb2'.form
 rw [HM.out] at hf2
 have HF2 := Lib.hid hf2
 have hV2' : ∀ w', (Instr.slice 72 (.slice (some ⟨bi, oi, none⟩) (m + 2) ci) (some (.int .i64 2)) none none).run Tryz.prog w' = .ok V2 w' := hV2
 clear hb2 hb2' hf2 hV2
 have hx1 := HI.out.cell.2 1 (by simp)
 simp only [List.getElem_cons_succ, List.getElem_cons_zero] at hx1
 go_wp2_with (go_at_call 125; refine cd.mono ?_; rintro e w1 ⟨rfl, k1⟩; have H1 := Lib.hid (HO.out.below k1); have g1 : w1.cell? ⟨bi, oi + 1, none⟩ = some (.int .u8 110) := H1.out.keeps.cell hx1 id; clear k1)
 have HD := Lib.hid H1.out.drew
 clear cd hx1
 go_region_law (refine step_buf_lit HD.out (.tmp 156) (.tmp 157) 10 (by omega) rfl rfl (by simp [Act.eval, Act.put]) (by simp [Act.eval, Act.put]) ?_; intro v3 w3 o3)
 have H3 := Lib.hid o3
 clear o3
 go_simp
 go_wp2
 refine ⟨⟨rfl, rfl, rfl, rfl, ?rel⟩, ?measure⟩
 case rel => exact ⟨r', _, H2.out, H3.out, by have h := HOR.out; simpa using h⟩
 case measure => show lenOf V2 < _; rw [HF2.out]; simp [lenOf]
set_option maxRecDepth 1000000 in
set_option maxHeartbeats 40000000 in
theorem ps_esc114 (D : Nat) (w wr : World) (iv ov : Value) (l T r' o Y : List UInt8) (f : Nat → Value) (Qr : Act → World → Prop)
 (hT : Tabs w) (hl : l.length ≤ 140737488200000) (hY : Y = 92 :: 114 :: (encB r' ++ 34 :: T)) (hne : Y ≠ []) (hbi : BytesAt w iv Y) (hbo : Buf D w wr ov o) (hor : o ++ (13 :: r') = l) :
 Code.wp Tryz.prog psBody (Exit.then (fun a' w'' => PSI D w l T a' w'' ∧ PSmu a' w'' < lenOf iv) (retPost Qr)) ⟨#[.pointer (some ⟨D, 0, none⟩), f 1, f 2, f 3, iv, .int .u8 34, f 6, ov, f 8, f 9, f 10, f 11, f 12, f 13, f 14, f 15, f 16, f 17, f 18, f 19, f 20, f 21, f 22, f 23, f 24, f 25, f 26, f 27, f 28, f 29, f 30, f 31, f 32, f 33, f 34, f 35, f 36, f 37, f 38, f 39, f 40, f 41, f 42, f 43, f 44, f 45, f 46, f 47, f 48, f 49, f 50, f 51, f 52, f 53, f 54, f 55, f 56, f 57, f 58, f 59, f 60, f 61, f 62, f 63, f 64, f 65, f 66, f 67, f 68, f 69, f 70, f 71, f 72, f 73, f 74, f 75, f 76, f 77, f 78, f 79, f 80, f 81, f 82, f 83, f 84, f 85, f 86, f 87, f 88, f 89, f 90, f 91, f 92, f 93, f 94, f 95, f 96, f 97, f 98, f 99, f 100, f 101, f 102, f 103, f 104, f 105, f 106, f 107, f 108, f 109, f 110, f 111, f 112, f 113, f 114, f 115, f 116, f 117, f 118, f 119, f 120, f 121, f 122, f 123, f 124, f 125, f 126, f 127, f 128, f 129, f 130, f 131, f 132, f 133, f 134, f 135, f 136, f 137, f 138, f 139, f 140, f 141, f 142, f 143, f 144, f 145, f 146, f 147, f 148, f 149, f 150, f 151, f 152, f 153, f 154, f 155, f 156, f 157, f 158, f 159, f 160, f 161, f 162, f 163, f 164, f 165, f 166, f 167, f 168, f 169, f 170, f 171, f 172, f 173, f 174, f 175, f 176, f 177, f 178, f 179, f 180, f 181, f 182, f 183, f 184, f 185, f 186, f 187, f 188, f 189, f 190, f 191, f 192, f 193, f 194, f 195, f 196, f 197, f 198, f 199, f 200, f 201, f 202, f 203, f 204, f 205, f 206, f 207, f 208, f 209, f 210, f 211, f 212, f 213, f 214, f 215, f 216, f 217, f 218, f 219, f 220, f 221, f 222, f 223, f 224, f 225, f 226, f 227, f 228, f 229, f 230, f 231, f 232, f 233, f 234, f 235, f 236, f 237, f 238, f 239, f 240, f 241, f 242, f 243, f 244, f 245, f 246, f 247, f 248, f 249, f 250, f 251, f 252, f 253, f 254, f 255, f 256, f 257, f 258, f 259, f 260, f 261, f 262, f 263, f 264, f 265, f 266, f 267, f 268, f 269, f 270, f 271, f 272, f 273, f 274, f 275, f 276, f 277, f 278, f 279, f 280, f 281, f 282, f 283, f 284, f 285, f 286, f 287, f 288, f 289, f 290, f 291, f 292, f 293, f 294, f 295, f 296, f 297, f 298, f 299, f 300, f 301, f 302, f 303, f 304, f 305, f 306, f 307, f 308, f 309, f 310, f 311, f 312, f 313, f 314, f 315, f 316, f 317, f 318, f 319, f 320, f 321, f 322, f 323, f 324, f 325, f 326, f 327, f 328, f 329, f 330, f 331, f 332, f 333, f 334, f 335, f 336, f 337, f 338, f 339, f 340, f 341, f 342, f 343, f 344, f 345, f 346, f 347, f 348, f 349, f 350, f 351, f 352, f 353, f 354, f 355, f 356, f 357], []⟩ wr := by
 obtain ⟨n, hn⟩ : ∃ n, Y.length = n := ⟨_, rfl⟩
 obtain ⟨bi, oi, ci, hif, hci, hmi⟩ := hbi.spot hne
 rw [hn] at hif hci
 subst hif
 have HI := Lib.hid hbi
 have HO := Lib.hid hbo
 have HOR := Lib.hid hor
 have HN := Lib.hid hn
 have HMI := Lib.hid hmi
 have hTr : Tabs wr := hT.keeps hbo.keeps (fun _ _ => id)
 have cd := dec_bytes _ Y wr hTr (hbi.keeps hbo.keeps (fun _ _ => id)) hne
 have hob : o.length ≤ 140737488200000 := by have := congrArg List.length hor; rw [List.length_append] at this; omega
 clear hbi hbo hor hTr hne hn hmi
 subst hY
 conv => arg 2; whnf
 rw [dec_head 92 _ (by decide)] at cd
 obtain ⟨V2, hV2, hb2, _⟩ := HI.out.from 2 (by simp)
 have hb2' : BytesAt w V2 (encB r' ++ 34 :: T) := hb2
 have H2 := Lib.hid hb2'
 obtain ⟨m, rfl⟩ : ∃ m, n = m + 2 := ⟨(encB r' ++ 34 :: T).length, HN.out.symm⟩
 have HM : Hid ((encB r' ++ 34 :: T).length = m) := by have h := HN.out; simp only [List.length_cons] at h; show _ = m; omega
 obtain ⟨a2, c2, hf2, _, _⟩ := hb2'.form
 rw [HM.out] at hf2
 have HF2 := Lib.hid hf2
 have hV2' : ∀ w', (Instr.slice 72 (.slice (some ⟨bi, oi, none⟩) (m + 2) ci) (some (.int .i64 2)) none none).run Tryz.prog w' = .ok V2 w' := hV2
 clear hb2 hb2' hf2 hV2
 have hx1 := HI.out.cell.2 1 (by simp)
 simp only [List.getElem_cons_succ, List.getElem_cons_zero] at hx1
 go_wp2_with (go_at_call 125; refine cd.mono ?_; rintro e w1 ⟨rfl, k1⟩; have H1 := Lib.hid (HO.out.below k1); have g1 : w1.cell? ⟨bi, oi + 1, none⟩ = some (.int .u8 114) := H1.out.keeps.cell hx1 id; clear k1)
 have HD := Lib.hid H1.out.drew
 clear cd hx1
 go_region_law (refine step_buf_lit HD.out (.tmp 163) (.tmp 164) 13 (by omega) rfl rfl (by simp [Act.eval, Act.put]) (by simp [Act.eval, Act.put]) ?_; intro v3 w3 o3)
 have H3 := Lib.hid o3
 clear o3
 go_simp
 go_wp2
 refine ⟨⟨rfl, rfl, rfl, rfl, ?rel⟩, ?measure⟩
 case rel => exact ⟨r', _, H2.out, H3.out, by have h := HOR.out; simpa using h⟩
 case measure => show lenOf V2 < _; rw [HF2.out]; simp [lenOf]
set_option maxRecDepth 1000000 in
set_option maxHeartbeats 40000000 in
theorem ps_esc116 (D : Nat) (w wr : World) (iv ov : Value) (l T r' o Y : List UInt8) (f : Nat → Value) (Qr : Act → World → Prop)
 (hT : Tabs w) (hl : l.length ≤ 140737488200000) (hY : Y = 92 :: 116 :: (encB r' ++ 34 :: T)) (hne : Y ≠ []) (hbi : BytesAt w iv Y) (hbo : Buf D w wr ov o) (hor : o ++ (9 :: r') = l) :
 Code.wp Tryz.prog psBody (Exit.then (fun a' w'' => PSI D w l T a' w'' ∧ PSmu a' w'' < lenOf iv) (retPost Qr)) ⟨#[.pointer (some ⟨D, 0, none⟩), f 1, f 2, f 3, iv, .int .u8 34, f 6, ov, f 8, f 9, f 10, f 11, f 12, f 13, f 14, f 15, f 16, f 17, f 18, f 19, f 20, f 21, f 22, f 23, f 24, f 25, f 26, f 27, f 28, f 29, f 30, f 31, f 32, f 33, f 34, f 35, f 36, f 37, f 38, f 39, f 40, f 41, f 42, f 43, f 44, f 45, f 46, f 47, f 48, f 49, f 50, f 51, f 52, f 53, f 54, f 55, f 56, f 57, f 58, f 59, f 60, f 61, f 62, f 63, f 64, f 65, f 66, f 67, f 68, f 69, f 70, f 71, f 72, f 73, f 74, f 75, f 76, f 77, f 78, f 79, f 80, f 81, f 82, f 83, f 84, f 85, f 86, f 87, f 88, f 89, f 90, f 91, f 92, f 93, f 94, f 95, f 96, f 97, f 98, f 99, f 100, f 101, f 102, f 103, f 104, f 105, f 106, f 107, f 108, f 109, f 110, f 111, f 112, f 113, f 114, f 115, f 116, f 117, f 118, f 119, f 120, f 121, f 122, f 123, f 124, f 125, f 126, f 127, f 128, f 129, f 130, f 131, f 132, f 133, f 134, f 135, f 136, f 137, f 138, f 139, f 140, f 141, f 142, f 143, f 144, f 145, f 146, f 147, f 148, f 149, f 150, f 151, f 152, f 153, f 154, f 155, f 156, f 157, f 158, f 159, f 160, f 161, f 162, f 163, f 164, f 165, f 166, f 167, f 168, f 169, f 170, f 171, f 172, f 173, f 174, f 175, f 176, f 177, f 178, f 179, f 180, f 181, f 182, f 183, f 184, f 185, f 186, f 187, f 188, f 189, f 190, f 191, f 192, f 193, f 194, f 195, f 196, f 197, f 198, f 199, f 200, f 201, f 202, f 203, f 204, f 205, f 206, f 207, f 208, f 209, f 210, f 211, f 212, f 213, f 214, f 215, f 216, f 217, f 218, f 219, f 220, f 221, f 222, f 223, f 224, f 225, f 226, f 227, f 228, f 229, f 230, f 231, f 232, f 233, f 234, f 235, f 236, f 237, f 238, f 239, f 240, f 241, f 242, f 243, f 244, f 245, f 246, f 247, f 248, f 249, f 250, f 251, f 252, f 253, f 254, f 255, f 256, f 257, f 258, f 259, f 260, f 261, f 262, f 263, f 264, f 265, f 266, f 267, f 268, f 269, f 270, f 271, f 272, f 273, f 274, f 275, f 276, f 277, f 278, f 279, f 280, f 281, f 282, f 283, f 284, f 285, f 286, f 287, f 288, f 289, f 290, f 291, f 292, f 293, f 294, f 295, f 296, f 297, f 298, f 299, f 300, f 301, f 302, f 303, f 304, f 305, f 306, f 307, f 308, f 309, f 310, f 311, f 312, f 313, f 314, f 315, f 316, f 317, f 318, f 319, f 320, f 321, f 322, f 323, f 324, f 325, f 326, f 327, f 328, f 329, f 330, f 331, f 332, f 333, f 334, f 335, f 336, f 337, f 338, f 339, f 340, f 341, f 342, f 343, f 344, f 345, f 346, f 347, f 348, f 349, f 350, f 351, f 352, f 353, f 354, f 355, f 356, f 357], []⟩ wr := by
 obtain ⟨n, hn⟩ : ∃ n, Y.length = n := ⟨_, rfl⟩
 obtain ⟨bi, oi, ci, hif, hci, hmi⟩ := hbi.spot hne
 rw [hn] at hif hci
 subst hif
 have HI := Lib.hid hbi
 have HO := Lib.hid hbo
 have HOR := Lib.hid hor
 have HN := Lib.hid hn
 have HMI := Lib.hid hmi
 have hTr : Tabs wr := hT.keeps hbo.keeps (fun _ _ => id)
 have cd := dec_bytes _ Y wr hTr (hbi.keeps hbo.keeps (fun _ _ => id)) hne
 have hob : o.length ≤ 140737488200000 := by have := congrArg List.length hor; rw [List.length_append] at this; omega
 clear hbi hbo hor hTr hne hn hmi
 subst hY
 conv => arg 2; whnf
 rw [dec_head 92 _ (by decide)] at cd
 obtain ⟨V2, hV2, hb2, _⟩ := HI.out.from 2 (by simp)
 have hb2' : BytesAt w V2 (encB r' ++ 34 :: T) := hb2
 have H2 := Lib.hid hb2'
 obtain ⟨m, rfl⟩ : ∃ m, n = m + 2 := ⟨(encB r' ++ 34 :: T).length, HN.out.symm⟩
 have HM : Hid ((encB r' ++ 34 :: T).length = m) := by have h := HN.out; simp only [List.length_cons] at h; show _ = m; omega
 obtain ⟨a2, c2, hf2, _, _⟩ := hb2'.form
 rw [HM.out] at hf2
 have HF2 := Lib.hid hf2
 have hV2' : ∀ w', (Instr.slice 72 (.slice (some ⟨bi, oi, none⟩) (m + 2) ci) (some (.int .i64 2)) none none).run Tryz.prog w' = .ok V2 w' := hV2
 clear hb2 hb2' hf2 hV2
 have hx1 := HI.out.cell.2 1 (by simp)
 simp only [List.getElem_cons_succ, List.getElem_cons_zero] at hx1
 go_wp2_with (go_at_call 125; refine cd.mono ?_; rintro e w1 ⟨rfl, k1⟩; have H1 := Lib.hid (HO.out.below k1); have g1 : w1.cell? ⟨bi, oi + 1, none⟩ = some (.int .u8 116) := H1.out.keeps.cell hx1 id; clear k1)
 have HD := Lib.hid H1.out.drew
 clear cd hx1
 go_region_law (refine step_buf_lit HD.out (.tmp 170) (.tmp 171) 9 (by omega) rfl rfl (by simp [Act.eval, Act.put]) (by simp [Act.eval, Act.put]) ?_; intro v3 w3 o3)
 have H3 := Lib.hid o3
 clear o3
 go_simp
 go_wp2
 refine ⟨⟨rfl, rfl, rfl, rfl, ?rel⟩, ?measure⟩
 case rel => exact ⟨r', _, H2.out, H3.out, by have h := HOR.out; simpa using h⟩
 case measure => show lenOf V2 < _; rw [HF2.out]; simp [lenOf]
end Go.Proofs.YtonegoemmologaaGreatDoor
namespace Go.Proofs
open Go.Shelf
def Tryz.laysv8_ren : Go.Shelf.Ren := ⟨fun | 8 => 128 | 9 => 170 | 11 => 171 | 12 => 172 | 14 => 173 | 16 => 184 | 17 => 125 | 18 => 185 | 20 => 168 | n => n, fun | 22 => 72 | 9 => 9 | 3 => 3 | 4 => 4 | 5 => 5 | 28 => 249 | 27 => 248 | 0 => 0 | 31 => 252 | 33 => 199 | 21 => 21 | 36 => 270 | 37 => 137 | 40 => 273 | 39 => 272 | n => n, fun | 0 => 15 | 1 => 16 | n => n⟩
theorem Tryz.laysv8 : Go.Proofs.SlLaysV.n8 Tryz.prog Tryz.laysv8_ren := {
 mixed := by kernel_rfl
 f8 := Tryz.func128.trans (congrArg some (by kernel_rfl))
 f9 := Tryz.func170.trans (congrArg some (by kernel_rfl))
 f11 := Tryz.func171.trans (congrArg some (by kernel_rfl))
 f12 := Tryz.func172.trans (congrArg some (by kernel_rfl))
 f14 := Tryz.func173.trans (congrArg some (by kernel_rfl))
 f16 := Tryz.func184.trans (congrArg some (by kernel_rfl))
 f17 := Tryz.func125.trans (congrArg some (by kernel_rfl))
 f18 := Tryz.func185.trans (congrArg some (by kernel_rfl))
 f20 := Tryz.func168.trans (congrArg some (by kernel_rfl))
 t0 := Tryz.underlying0
 a0 := Tryz.isAgg0
 z0 := Tryz.sizeOf0
 v0 := Tryz.zeroValue0
 t3 := Tryz.underlying3
 a3 := Tryz.isAgg3
 z3 := Tryz.sizeOf3
 v3 := Tryz.zeroValue3
 t4 := Tryz.underlying4
 a4 := Tryz.isAgg4
 z4 := Tryz.sizeOf4
 v4 := Tryz.zeroValue4
 t5 := Tryz.underlying5
 a5 := Tryz.isAgg5
 z5 := Tryz.sizeOf5
 v5 := Tryz.zeroValue5
 t9 := Tryz.underlying9
 a9 := Tryz.isAgg9
 z9 := Tryz.sizeOf9
 v9 := Tryz.zeroValue9
 t21 := Tryz.underlying21
 a21 := Tryz.isAgg21
 z21 := Tryz.sizeOf21
 v21 := Tryz.zeroValue21
 t22 := Tryz.underlying72
 a22 := Tryz.isAgg72
 z22 := Tryz.sizeOf72
 v22 := Tryz.zeroValue72
 t27 := Tryz.underlying248
 a27 := Tryz.isAgg248
 z27 := Tryz.sizeOf248
 t28 := Tryz.underlying249
 a28 := Tryz.isAgg249
 z28 := Tryz.sizeOf249
 v28 := Tryz.zeroValue249
 t31 := Tryz.underlying252
 a31 := Tryz.isAgg252
 z31 := Tryz.sizeOf252
 v31 := Tryz.zeroValue252
 t33 := Tryz.underlying199
 a33 := Tryz.isAgg199
 z33 := Tryz.sizeOf199
 v33 := Tryz.zeroValue199
 t36 := Tryz.underlying270
 a36 := Tryz.isAgg270
 z36 := Tryz.sizeOf270
 t37 := Tryz.underlying137
 a37 := Tryz.isAgg137
 z37 := Tryz.sizeOf137
 v37 := Tryz.zeroValue137
 t39 := Tryz.underlying272
 a39 := Tryz.isAgg272
 z39 := Tryz.sizeOf272
 v39 := Tryz.zeroValue272
 t40 := Tryz.underlying273
 a40 := Tryz.isAgg273
 z40 := Tryz.sizeOf273
 v40 := Tryz.zeroValue273 }
end Go.Proofs
namespace Go.Proofs.YtonegoemmologaaGreatDoor
open Go.RowKit
def octSet : List UInt8 := [48, 49, 50, 51, 52, 53, 54, 55]
theorem info_bool256 : (Tryz.prog.info? 247).map (fun i => (i.zero, i.size)) = some (some (.agg (Array.replicate 256 (.bool false))), 256) := by kernel_rfl
set_option maxRecDepth 100000 in
theorem trimOct (v : Value) (l : List UInt8) (w : World) (hv : BytesAt w v l) :
 Calls Tryz.prog 128 #[v, .string (mk octSet)] w fun e w' => (∃ a c, e = .returned (.slice a (l.dropWhile (octSet.contains ·)).length c)) ∧ Keeps (fun _ => False) w w' := by
 obtain ⟨a, c, rfl, hc, hm, hx⟩ := hv
 unfold maxLen at hm
 have hat : Lib.BytesAt w a l.length l := fun h0 => by
  rcases hx with rfl | ⟨b, off, rfl, hx⟩
  · simp at h0
  · refine ⟨b, off, rfl, fun i hi => ?_⟩
    rw [List.getD, List.getElem?_eq_getElem hi]
    exact hx i hi
 have h := Any.bytes_TrimLeft_ascii Tryz.laysv8 (zero_of_info info_bool256).1 (zero_of_info info_bool256).2 a l.length c l (mk octSet) w rfl hc (by omega) hat (by rw [mk_size]; show 8 < 4294967281; omega) (fun j b hb => by
  rw [mk_data] at hb
  have : ∀ b ∈ octSet, b.toNat < 128 := by decide
  exact this b (List.mem_of_getElem? hb))
 refine h.mono fun e w' ⟨he, hb⟩ => ⟨?_, Keeps.of_below hb⟩
 rw [he, mk_data]
 unfold Lib.leftV Lib.trimLeftS
 have hle : (l.dropWhile (octSet.contains ·)).length ≤ l.length := (List.dropWhile_sublist _).length_le
 split
 · exact ⟨none, 0, by rw [show (l.dropWhile (octSet.contains ·)).length = 0 by omega]⟩
 · unfold Lib.fromV
   exact ⟨_, _, by rw [show l.length - (l.length - (l.dropWhile (octSet.contains ·)).length) = (l.dropWhile (octSet.contains ·)).length by omega]⟩
theorem octc_in (d : Nat) (h : d < 8) : octSet.contains (hexc d) = true := by
 have : d = 0 ∨ d = 1 ∨ d = 2 ∨ d = 3 ∨ d = 4 ∨ d = 5 ∨ d = 6 ∨ d = 7 := by omega
 rcases this with rfl | rfl | rfl | rfl | rfl | rfl | rfl | rfl <;> decide
theorem trim_three (a b c : Nat) (ha : a < 8) (hb : b < 8) (hc : c < 8) (X : List UInt8) : ((hexB [a, b, c] ++ X).dropWhile (octSet.contains ·)).length ≤ X.length := by
 show ((hexc a :: hexc b :: hexc c :: X).dropWhile (octSet.contains ·)).length ≤ X.length
 rw [List.dropWhile_cons, if_pos (octc_in a ha), List.dropWhile_cons, if_pos (octc_in b hb), List.dropWhile_cons, if_pos (octc_in c hc)]
 exact (List.dropWhile_sublist _).length_le
end Go.Proofs.YtonegoemmologaaGreatDoor
