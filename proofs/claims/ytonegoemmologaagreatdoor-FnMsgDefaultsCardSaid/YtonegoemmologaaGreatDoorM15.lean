/-
  (*Decoder).parseString, a round: a backslash and octal digits.
  (*Decoder).parseString, a round: characters as they are.
  (*Decoder).parseString, a round: parseString itself.
-/
import Derived.Test.YtonegoemmologaaGreatDoorM11
import Derived.Test.YtonegoemmologaaGreatDoorM13
import Derived.Test.YtonegoemmologaaGreatDoorM14
import Derived.Test.YtonegoemmologaaGreatDoorM12
set_option linter.unusedVariables false
set_option linter.unusedSimpArgs false
namespace Go.Proofs.YtonegoemmologaaGreatDoor
open Go.RowKit
theorem oct_first (k : Nat) (h : k < 256) : (hexc (k / 64)).toNat = 48 + k / 64 := by
 rcases (by omega : k / 64 = 0 ∨ k / 64 = 1 ∨ k / 64 = 2 ∨ k / 64 = 3) with h | h | h | h <;> rw [h] <;> decide
set_option maxRecDepth 1000000 in
set_option maxHeartbeats 40000000 in
theorem ps_octA (D : Nat) (w wr : World) (iv ov : Value) (l T r' o Y : List UInt8) (f : Nat → Value) (Qr : Act → World → Prop) (k : Nat) (hk2 : k < 256)
 (hT : Tabs w) (hl : l.length ≤ 140737488200000) (hY : Y = 92 :: (octD k ++ (encB r' ++ 34 :: T))) (hne : Y ≠ []) (hbi : BytesAt w iv Y) (hbo : Buf D w wr ov o) (hor : o ++ (UInt8.ofNat k :: r') = l) (hcase : ((octD k ++ (encB r' ++ 34 :: T)).dropWhile (octSet.contains ·)).length = (encB r' ++ 34 :: T).length) :
 Code.wp Tryz.prog psBody (Exit.then (fun a' w'' => PSI D w l T a' w'' ∧ PSmu a' w'' < lenOf iv) (retPost Qr)) ⟨#[.pointer (some ⟨D, 0, none⟩), f 1, f 2, f 3, iv, .int .u8 34, f 6, ov, f 8, f 9, f 10, f 11, f 12, f 13, f 14, f 15, f 16, f 17, f 18, f 19, f 20, f 21, f 22, f 23, f 24, f 25, f 26, f 27, f 28, f 29, f 30, f 31, f 32, f 33, f 34, f 35, f 36, f 37, f 38, f 39, f 40, f 41, f 42, f 43, f 44, f 45, f 46, f 47, f 48, f 49, f 50, f 51, f 52, f 53, f 54, f 55, f 56, f 57, f 58, f 59, f 60, f 61, f 62, f 63, f 64, f 65, f 66, f 67, f 68, f 69, f 70, f 71, f 72, f 73, f 74, f 75, f 76, f 77, f 78, f 79, f 80, f 81, f 82, f 83, f 84, f 85, f 86, f 87, f 88, f 89, f 90, f 91, f 92, f 93, f 94, f 95, f 96, f 97, f 98, f 99, f 100, f 101, f 102, f 103, f 104, f 105, f 106, f 107, f 108, f 109, f 110, f 111, f 112, f 113, f 114, f 115, f 116, f 117, f 118, f 119, f 120, f 121, f 122, f 123, f 124, f 125, f 126, f 127, f 128, f 129, f 130, f 131, f 132, f 133, f 134, f 135, f 136, f 137, f 138, f 139, f 140, f 141, f 142, f 143, f 144, f 145, f 146, f 147, f 148, f 149, f 150, f 151, f 152, f 153, f 154, f 155, f 156, f 157, f 158, f 159, f 160, f 161, f 162, f 163, f 164, f 165, f 166, f 167, f 168, f 169, f 170, f 171, f 172, f 173, f 174, f 175, f 176, f 177, f 178, f 179, f 180, f 181, f 182, f 183, f 184, f 185, f 186, f 187, f 188, f 189, f 190, f 191, f 192, f 193, f 194, f 195, f 196, f 197, f 198, f 199, f 200, f 201, f 202, f 203, f 204, f 205, f 206, f 207, f 208, f 209, f 210, f 211, f 212, f 213, f 214, f 215, f 216, f 217, f 218, f 219, f 220, f 221, f 222, f 223, f 224, f 225, f 226, f 227, f 228, f 229, f 230, f 231, f 232, f 233, f 234, f 235, f 236, f 237, f 238, f 239, f 240, f 241, f 242, f 243, f 244, f 245, f 246, f 247, f 248, f 249, f 250, f 251, f 252, f 253, f 254, f 255, f 256, f 257, f 258, f 259, f 260, f 261, f 262, f 263, f 264, f 265, f 266, f 267, f 268, f 269, f 270, f 271, f 272, f 273, f 274, f 275, f 276, f 277, f 278, f 279, f 280, f 281, f 282, f 283, f 284, f 285, f 286, f 287, f 288, f 289, f 290, f 291, f 292, f 293, f 294, f 295, f 296, f 297, f 298, f 299, f 300, f 301, f 302, f 303, f 304, f 305, f 306, f 307, f 308, f 309, f 310, f 311, f 312, f 313, f 314, f 315, f 316, f 317, f 318, f 319, f 320, f 321, f 322, f 323, f 324, f 325, f 326, f 327, f 328, f 329, f 330, f 331, f 332, f 333, f 334, f 335, f 336, f 337, f 338, f 339, f 340, f 341, f 342, f 343, f 344, f 345, f 346, f 347, f 348, f 349, f 350, f 351, f 352, f 353, f 354, f 355, f 356, f 357], []⟩ wr := by
 obtain ⟨n, hn⟩ : ∃ n, Y.length = n := ⟨_, rfl⟩
 obtain ⟨bi, oi, ci, hif, hci, hmi⟩ := hbi.spot hne
 rw [hn] at hif hci
 subst hif
 have HI := Lib.hid hbi
 have HO := Lib.hid hbo
 have HOR := Lib.hid hor
 have HN := Lib.hid hn
 have HMI := Lib.hid hmi
 have hTr : Tabs wr := hT.keeps hbo.keeps (fun _ _ => id)
 have cd := dec_bytes _ Y wr hTr (hbi.keeps hbo.keeps (fun _ _ => id)) hne
 have hob : o.length ≤ 140737488200000 := by have := congrArg List.length hor; rw [List.length_append] at this; omega
 clear hbi hbo hor hTr hne hn hmi
 subst hY
 conv => arg 2; whnf
 rw [dec_head 92 _ (by decide)] at cd
 obtain ⟨Z, hZ⟩ : ∃ Z, encB r' ++ 34 :: T = Z := ⟨_, rfl⟩
 have HZ := Lib.hid hZ
 rw [hZ] at HI HN
 clear hZ
 obtain ⟨m, rfl⟩ : ∃ m, n = m + 4 := ⟨Z.length, by rw [← HN.out]; simp [octD, hexB]⟩
 have HM : Hid (Z.length = m) := by have h := HN.out; simp [octD, hexB] at h; show _ = m; omega
 have hx1 := HI.out.cell.2 1 (by simp [octD, hexB])
 obtain ⟨q9, hq9, hk1⟩ : ∃ q, q < 4 ∧ ((92 :: (octD k ++ Z))[1]'(by simp [octD, hexB])).toNat = 48 + q := ⟨k / 64, by omega, oct_first k hk2⟩
 rcases (by omega : q9 = 0 ∨ q9 = 1 ∨ q9 = 2 ∨ q9 = 3) with rfl | rfl | rfl | rfl
 all_goals
  simp only [Nat.reduceAdd] at hk1
  rw [hk1] at hx1
  first
   | (have hx2 : w.cell? ⟨bi, oi + 1, none⟩ = some (.int .u8 48) := hx1; clear hx1 hk1)
   | (have hx2 : w.cell? ⟨bi, oi + 1, none⟩ = some (.int .u8 49) := hx1; clear hx1 hk1)
   | (have hx2 : w.cell? ⟨bi, oi + 1, none⟩ = some (.int .u8 50) := hx1; clear hx1 hk1)
   | (have hx2 : w.cell? ⟨bi, oi + 1, none⟩ = some (.int .u8 51) := hx1; clear hx1 hk1)
  obtain ⟨V4, hV4, hb4⟩ := HI.out.mid 1 4 (by omega) (by simp [octD, hexB])
  have hb4' : BytesAt w V4 (octD k) := by simpa [octD, hexB] using hb4
  obtain ⟨V5, hV5, hb5, _⟩ := HI.out.from 4 (by simp [octD, hexB])
  have hb5' : BytesAt w V5 Z := by simpa [octD, hexB] using hb5
  obtain ⟨a5, c5, hf5, _, _⟩ := hb5'.form
  rw [HM.out] at hf5
  have HF5 := Lib.hid hf5
  have H4 := Lib.hid hb4'
  have H5 := Lib.hid hb5'
  have hV4' : ∀ w', (Instr.slice 72 (.slice (some ⟨bi, oi, none⟩) (m + 4) ci) (some (.int .i64 1)) (some (.int .i64 4)) none).run Tryz.prog w' = .ok V4 w' := hV4
  have hV5' : ∀ w', (Instr.slice 72 (.slice (some ⟨bi, oi, none⟩) (m + 4) ci) (some (.int .i64 4)) none none).run Tryz.prog w' = .ok V5 w' := hV5
  clear hb4 hb4' hb5 hb5' hf5 hV4 hV5
  obtain ⟨V2, hV2, hb2, _⟩ := HI.out.from 1 (by simp)
  have hb2' : BytesAt w V2 (octD k ++ Z) := hb2
  obtain ⟨a2, c2, hf2, _, _⟩ := hb2'.form
  have hf2' : V2 = .slice a2 (m + 3) c2 := by rw [hf2]; congr 1; have := HM.out; simp [octD, hexB]; omega
  clear hf2
  subst hf2'
  have H2 := Lib.hid hb2'
  have hV2' : ∀ w', (Instr.slice 72 (.slice (some ⟨bi, oi, none⟩) (m + 4) ci) (some (.int .i64 1)) none none).run Tryz.prog w' = .ok (.slice a2 (m + 3) c2) w' := hV2
  clear hb2 hb2' hV2
  obtain ⟨q, hq⟩ : ∃ q, ((octD k ++ Z).dropWhile (octSet.contains ·)).length = q := ⟨_, rfl⟩
  have hqm : q ≤ m := by rw [← hq, ← HM.out]; exact trim_three _ _ _ (by omega) (by omega) (by omega) Z
  have ct := fun w1 (h : BytesAt w1 (.slice a2 (m + 3) c2) (octD k ++ Z)) => trimOct _ _ w1 h
  simp only [hq] at ct
  have hqe : q = m := by rw [HZ.out] at hcase; rw [hq, HM.out] at hcase; exact hcase
  clear hcase
  have hkc : (UInt8.ofNat k).toNat = k := by rw [UInt8.toNat_ofNat']; omega
  obtain ⟨x, hx⟩ : ∃ x, UInt8.ofNat k = x := ⟨_, rfl⟩
  rw [hx] at hkc HOR
  have cp : ∀ w1, Calls Tryz.prog 55 #[.string (mk (octD k)), .int .i64 8, .int .i64 8] w1 fun e w' => e = .returned (.tuple #[.int .u64 (x.toNat : Nat), .nilIface]) ∧ Keeps (fun _ => False) w1 w' := fun w1 => by
   have h := parse_oct k (by omega) w1
   rw [hkc]
   exact h
  have hx256 : x.toNat < 256 := x.toNat_lt
  have hw8 : IntKind.u8.wrap (x.toNat : Int) = (x.toNat : Int) := by rw [IntKind.wrap_u8]; omega
  have HK := Lib.hid hkc
  clear hq hx hkc
  have t1 : ¬ (3 : Int) < (m : Int) + 3 - (q : Int) := by omega
  obtain ⟨zz, hzz⟩ : ∃ zz : Nat, zz = 3 := ⟨_, rfl⟩
  have t2 : (m : Int) + 3 - (q : Int) = (zz : Int) := by omega
  have t3 : ¬ (3 : Int) < (zz : Int) := by omega
  have hzb : zz ≤ 3 := by omega
  have hwz : IntKind.i64.wrap (zz : Int) = (zz : Int) := by rw [IntWalk.i64_in _ (by omega)]
  have hwz2 : IntKind.i64.wrap (1 + (zz : Int)) = 1 + (zz : Int) := by rw [IntWalk.i64_in _ (by omega)]
  have hV4z : ∀ w', (Instr.slice 72 (.slice (some ⟨bi, oi, none⟩) (m + 4) ci) (some (.int .i64 1)) (some (.int .i64 (1 + (zz : Int)))) none).run Tryz.prog w' = .ok V4 w' := by rw [hzz]; exact hV4'
  have hV5z : ∀ w', (Instr.slice 72 (.slice (some ⟨bi, oi, none⟩) (m + 4) ci) (some (.int .i64 (1 + (zz : Int)))) none none).run Tryz.prog w' = .ok V5 w' := by rw [hzz]; exact hV5'
  clear hzz t1 hV4' hV5'
  clear hqm hqe
  go_wp2_with (go_at_call 125; refine cd.mono ?_; rintro e w1 ⟨rfl, k1⟩; have H1 := Lib.hid (HO.out.below k1); have g1 := H1.out.keeps.cell hx2 id; clear k1)
  clear cd hx2
  have HD := Lib.hid H1.out.drew
  go_region_with (go_at_call 128; refine (ct _ (H2.out.keeps HD.out.keeps (fun _ _ => id))).mono ?_; rintro e w2 ⟨⟨a3, c3, rfl⟩, k2⟩; have H3 := Lib.hid (HD.out.below k2); have hcv := run_to_str (H4.out.keeps H3.out.keeps (fun _ _ => id)); clear k2)
  go_simp
  go_wp2_with (go_at_call 55; refine (cp _).mono ?_; rintro e w4 ⟨rfl, k4⟩; have H6 := Lib.hid (H3.out.below k4); clear k4)
  have HE := Lib.hid H6.out.drew
  clear hcv cp ct
  go_region_law (refine step_buf_lit HE.out (.tmp 229) (.tmp 232) x (by omega) rfl rfl (by simp [Act.eval, Act.put]) (by simp [Act.eval, Act.put]) ?_; intro v7 w7 o7)
  have H7 := Lib.hid o7
  clear o7
  go_simp
  go_wp2
  refine ⟨⟨rfl, rfl, rfl, rfl, ?rel⟩, ?measure⟩
  case rel => exact ⟨r', _, by rw [HZ.out]; exact H5.out, H7.out, by have h := HOR.out; simpa using h⟩
  case measure => show lenOf V5 < _; rw [HF5.out]; simp [lenOf]
set_option maxRecDepth 1000000 in
set_option maxHeartbeats 40000000 in
theorem ps_octB (D : Nat) (w wr : World) (iv ov : Value) (l T r' o Y : List UInt8) (f : Nat → Value) (Qr : Act → World → Prop) (k : Nat) (hk2 : k < 256)
 (hT : Tabs w) (hl : l.length ≤ 140737488200000) (hY : Y = 92 :: (octD k ++ (encB r' ++ 34 :: T))) (hne : Y ≠ []) (hbi : BytesAt w iv Y) (hbo : Buf D w wr ov o) (hor : o ++ (UInt8.ofNat k :: r') = l) (hcase : ¬ ((octD k ++ (encB r' ++ 34 :: T)).dropWhile (octSet.contains ·)).length = (encB r' ++ 34 :: T).length) :
 Code.wp Tryz.prog psBody (Exit.then (fun a' w'' => PSI D w l T a' w'' ∧ PSmu a' w'' < lenOf iv) (retPost Qr)) ⟨#[.pointer (some ⟨D, 0, none⟩), f 1, f 2, f 3, iv, .int .u8 34, f 6, ov, f 8, f 9, f 10, f 11, f 12, f 13, f 14, f 15, f 16, f 17, f 18, f 19, f 20, f 21, f 22, f 23, f 24, f 25, f 26, f 27, f 28, f 29, f 30, f 31, f 32, f 33, f 34, f 35, f 36, f 37, f 38, f 39, f 40, f 41, f 42, f 43, f 44, f 45, f 46, f 47, f 48, f 49, f 50, f 51, f 52, f 53, f 54, f 55, f 56, f 57, f 58, f 59, f 60, f 61, f 62, f 63, f 64, f 65, f 66, f 67, f 68, f 69, f 70, f 71, f 72, f 73, f 74, f 75, f 76, f 77, f 78, f 79, f 80, f 81, f 82, f 83, f 84, f 85, f 86, f 87, f 88, f 89, f 90, f 91, f 92, f 93, f 94, f 95, f 96, f 97, f 98, f 99, f 100, f 101, f 102, f 103, f 104, f 105, f 106, f 107, f 108, f 109, f 110, f 111, f 112, f 113, f 114, f 115, f 116, f 117, f 118, f 119, f 120, f 121, f 122, f 123, f 124, f 125, f 126, f 127, f 128, f 129, f 130, f 131, f 132, f 133, f 134, f 135, f 136, f 137, f 138, f 139, f 140, f 141, f 142, f 143, f 144, f 145, f 146, f 147, f 148, f 149, f 150, f 151, f 152, f 153, f 154, f 155, f 156, f 157, f 158, f 159, f 160, f 161, f 162, f 163, f 164, f 165, f 166, f 167, f 168, f 169, f 170, f 171, f 172, f 173, f 174, f 175, f 176, f 177, f 178, f 179, f 180, f 181, f 182, f 183, f 184, f 185, f 186, f 187, f 188, f 189, f 190, f 191, f 192, f 193, f 194, f 195, f 196, f 197, f 198, f 199, f 200, f 201, f 202, f 203, f 204, f 205, f 206, f 207, f 208, f 209, f 210, f 211, f 212, f 213, f 214, f 215, f 216, f 217, f 218, f 219, f 220, f 221, f 222, f 223, f 224, f 225, f 226, f 227, f 228, f 229, f 230, f 231, f 232, f 233, f 234, f 235, f 236, f 237, f 238, f 239, f 240, f 241, f 242, f 243, f 244, f 245, f 246, f 247, f 248, f 249, f 250, f 251, f 252, f 253, f 254, f 255, f 256, f 257, f 258, f 259, f 260, f 261, f 262, f 263, f 264, f 265, f 266, f 267, f 268, f 269, f 270, f 271, f 272, f 273, f 274, f 275, f 276, f 277, f 278, f 279, f 280, f 281, f 282, f 283, f 284, f 285, f 286, f 287, f 288, f 289, f 290, f 291, f 292, f 293, f 294, f 295, f 296, f 297, f 298, f 299, f 300, f 301, f 302, f 303, f 304, f 305, f 306, f 307, f 308, f 309, f 310, f 311, f 312, f 313, f 314, f 315, f 316, f 317, f 318, f 319, f 320, f 321, f 322, f 323, f 324, f 325, f 326, f 327, f 328, f 329, f 330, f 331, f 332, f 333, f 334, f 335, f 336, f 337, f 338, f 339, f 340, f 341, f 342, f 343, f 344, f 345, f 346, f 347, f 348, f 349, f 350, f 351, f 352, f 353, f 354, f 355, f 356, f 357], []⟩ wr := by
 obtain ⟨n, hn⟩ : ∃ n, Y.length = n := ⟨_, rfl⟩
 obtain ⟨bi, oi, ci, hif, hci, hmi⟩ := hbi.spot hne
 rw [hn] at hif hci
 subst hif
 have HI := Lib.hid hbi
 have HO := Lib.hid hbo
 have HOR := Lib.hid hor
 have HN := Lib.hid hn
 have HMI := Lib.hid hmi
 have hTr : Tabs wr := hT.keeps hbo.keeps (fun _ _ => id)
 have cd := dec_bytes _ Y wr hTr (hbi.keeps hbo.keeps (fun _ _ => id)) hne
 have hob : o.length ≤ 140737488200000 := by have := congrArg List.length hor; rw [List.length_append] at this; omega
 clear hbi hbo hor hTr hne hn hmi
 subst hY
 conv => arg 2; whnf
 rw [dec_head 92 _ (by decide)] at cd
 obtain ⟨Z, hZ⟩ : ∃ Z, encB r' ++ 34 :: T = Z := ⟨_, rfl⟩
 have HZ := Lib.hid hZ
 rw [hZ] at HI HN
 clear hZ
 obtain ⟨m, rfl⟩ : ∃ m, n = m + 4 := ⟨Z.length, by rw [← HN.out]; simp [octD, hexB]⟩
 have HM : Hid (Z.length = m) := by have h := HN.out; simp [octD, hexB] at h; show _ = m; omega
 have hx1 := HI.out.cell.2 1 (by simp [octD, hexB])
 obtain ⟨q9, hq9, hk1⟩ : ∃ q, q < 4 ∧ ((92 :: (octD k ++ Z))[1]'(by simp [octD, hexB])).toNat = 48 + q := ⟨k / 64, by omega, oct_first k hk2⟩
 rcases (by omega : q9 = 0 ∨ q9 = 1 ∨ q9 = 2 ∨ q9 = 3) with rfl | rfl | rfl | rfl
 all_goals
  simp only [Nat.reduceAdd] at hk1
  rw [hk1] at hx1
  first
   | (have hx2 : w.cell? ⟨bi, oi + 1, none⟩ = some (.int .u8 48) := hx1; clear hx1 hk1)
   | (have hx2 : w.cell? ⟨bi, oi + 1, none⟩ = some (.int .u8 49) := hx1; clear hx1 hk1)
   | (have hx2 : w.cell? ⟨bi, oi + 1, none⟩ = some (.int .u8 50) := hx1; clear hx1 hk1)
   | (have hx2 : w.cell? ⟨bi, oi + 1, none⟩ = some (.int .u8 51) := hx1; clear hx1 hk1)
  obtain ⟨V4, hV4, hb4⟩ := HI.out.mid 1 4 (by omega) (by simp [octD, hexB])
  have hb4' : BytesAt w V4 (octD k) := by simpa [octD, hexB] using hb4
  obtain ⟨V5, hV5, hb5, _⟩ := HI.out.from 4 (by simp [octD, hexB])
  have hb5' : BytesAt w V5 Z := by simpa [octD, hexB] using hb5
  obtain ⟨a5, c5, hf5, _, _⟩ := hb5'.form
  rw [HM.out] at hf5
  have HF5 := Lib.hid hf5
  have H4 := Lib.hid hb4'
  have H5 := Lib.hid hb5'
  have hV4' : ∀ w', (Instr.slice 72 (.slice (some ⟨bi, oi, none⟩) (m + 4) ci) (some (.int .i64 1)) (some (.int .i64 4)) none).run Tryz.prog w' = .ok V4 w' := hV4
  have hV5' : ∀ w', (Instr.slice 72 (.slice (some ⟨bi, oi, none⟩) (m + 4) ci) (some (.int .i64 4)) none none).run Tryz.prog w' = .ok V5 w' := hV5
  clear hb4 hb4' hb5 hb5' hf5 hV4 hV5
  obtain ⟨V2, hV2, hb2, _⟩ := HI.out.from 1 (by simp)
  have hb2' : BytesAt w V2 (octD k ++ Z) := hb2
  obtain ⟨a2, c2, hf2, _, _⟩ := hb2'.form
  have hf2' : V2 = .slice a2 (m + 3) c2 := by rw [hf2]; congr 1; have := HM.out; simp [octD, hexB]; omega
  clear hf2
  subst hf2'
  have H2 := Lib.hid hb2'
  have hV2' : ∀ w', (Instr.slice 72 (.slice (some ⟨bi, oi, none⟩) (m + 4) ci) (some (.int .i64 1)) none none).run Tryz.prog w' = .ok (.slice a2 (m + 3) c2) w' := hV2
  clear hb2 hb2' hV2
  obtain ⟨q, hq⟩ : ∃ q, ((octD k ++ Z).dropWhile (octSet.contains ·)).length = q := ⟨_, rfl⟩
  have hqm : q ≤ m := by rw [← hq, ← HM.out]; exact trim_three _ _ _ (by omega) (by omega) (by omega) Z
  have ct := fun w1 (h : BytesAt w1 (.slice a2 (m + 3) c2) (octD k ++ Z)) => trimOct _ _ w1 h
  simp only [hq] at ct
  have hqe : ¬ q = m := by rw [HZ.out] at hcase; rw [hq, HM.out] at hcase; exact hcase
  clear hcase
  have hkc : (UInt8.ofNat k).toNat = k := by rw [UInt8.toNat_ofNat']; omega
  obtain ⟨x, hx⟩ : ∃ x, UInt8.ofNat k = x := ⟨_, rfl⟩
  rw [hx] at hkc HOR
  have cp : ∀ w1, Calls Tryz.prog 55 #[.string (mk (octD k)), .int .i64 8, .int .i64 8] w1 fun e w' => e = .returned (.tuple #[.int .u64 (x.toNat : Nat), .nilIface]) ∧ Keeps (fun _ => False) w1 w' := fun w1 => by
   have h := parse_oct k (by omega) w1
   rw [hkc]
   exact h
  have hx256 : x.toNat < 256 := x.toNat_lt
  have hw8 : IntKind.u8.wrap (x.toNat : Int) = (x.toNat : Int) := by rw [IntKind.wrap_u8]; omega
  have HK := Lib.hid hkc
  clear hq hx hkc
  obtain ⟨zz, hzz⟩ : ∃ zz : Nat, m + 3 - q = zz := ⟨_, rfl⟩
  have hmb : zz ≤ 9223372036854775807 := by have h := HMI.out; unfold maxLen at h; omega
  have t2 : (m : Int) + 3 - (q : Int) = (zz : Int) := by omega
  have t1 : (3 : Int) < (zz : Int) := by omega
  have hwz : IntKind.i64.wrap (zz : Int) = (zz : Int) := by rw [IntWalk.i64_in _ (by omega)]
  have hwB : IntKind.i64.wrap (4 : Int) = 4 := by rw [IntWalk.i64_in _ (by omega)]
  clear hzz
  clear hqm hqe
  go_wp2_with (go_at_call 125; refine cd.mono ?_; rintro e w1 ⟨rfl, k1⟩; have H1 := Lib.hid (HO.out.below k1); have g1 := H1.out.keeps.cell hx2 id; clear k1)
  clear cd hx2
  have HD := Lib.hid H1.out.drew
  go_region_with (go_at_call 128; refine (ct _ (H2.out.keeps HD.out.keeps (fun _ _ => id))).mono ?_; rintro e w2 ⟨⟨a3, c3, rfl⟩, k2⟩; have H3 := Lib.hid (HD.out.below k2); have hcv := run_to_str (H4.out.keeps H3.out.keeps (fun _ _ => id)); clear k2)
  go_simp
  go_wp2_with (go_at_call 55; refine (cp _).mono ?_; rintro e w4 ⟨rfl, k4⟩; have H6 := Lib.hid (H3.out.below k4); clear k4)
  have HE := Lib.hid H6.out.drew
  clear hcv cp ct
  go_region_law (refine step_buf_lit HE.out (.tmp 229) (.tmp 232) x (by omega) rfl rfl (by simp [Act.eval, Act.put]) (by simp [Act.eval, Act.put]) ?_; intro v7 w7 o7)
  have H7 := Lib.hid o7
  clear o7
  go_simp
  go_wp2
  refine ⟨⟨rfl, rfl, rfl, rfl, ?rel⟩, ?measure⟩
  case rel => exact ⟨r', _, by rw [HZ.out]; exact H5.out, H7.out, by have h := HOR.out; simpa using h⟩
  case measure => show lenOf V5 < _; rw [HF5.out]; simp [lenOf]
end Go.Proofs.YtonegoemmologaaGreatDoor
namespace Go.Proofs.YtonegoemmologaaGreatDoor
open Go.RowKit
set_option maxRecDepth 1000000 in
set_option maxHeartbeats 40000000 in
theorem ps_lit (D : Nat) (w wr : World) (iv ov : Value) (l T r' o Y : List UInt8) (f : Nat → Value) (Qr : Act → World → Prop) (R n1 : Nat)
 (hT : Tabs w) (hl : l.length ≤ 140737488200000) (hY : Y = r'.take (n1 + run8 (r'.drop n1)) ++ (encB (r'.drop (n1 + run8 (r'.drop n1))) ++ 34 :: T)) (hne : Y ≠ []) (hbi : BytesAt w iv Y) (hbo : Buf D w wr ov o) (hor : o ++ r' = l) (h0 : r' ≠ []) (hR : R ≠ 0 ∧ R ≠ 10 ∧ R ≠ 34 ∧ R ≠ 92 ∧ ¬ (R = 65533 ∧ n1 = 1)) (hR2 : R ≤ 1114111) (hn1 : 1 ≤ n1 ∧ n1 ≤ 4)
 (hd : dec (r'.take (n1 + run8 (r'.drop n1)) ++ (encB (r'.drop (n1 + run8 (r'.drop n1))) ++ 34 :: T)) = (R, n1)) (hN : n1 + run8 (r'.drop n1) ≤ r'.length)
 (hp : pre ((r'.take (n1 + run8 (r'.drop n1)) ++ (encB (r'.drop (n1 + run8 (r'.drop n1))) ++ 34 :: T)).drop n1) = run8 (r'.drop n1)) (h65 : ¬ R = 65533) :
 Code.wp Tryz.prog psBody (Exit.then (fun a' w'' => PSI D w l T a' w'' ∧ PSmu a' w'' < lenOf iv) (retPost Qr)) ⟨#[.pointer (some ⟨D, 0, none⟩), f 1, f 2, f 3, iv, .int .u8 34, f 6, ov, f 8, f 9, f 10, f 11, f 12, f 13, f 14, f 15, f 16, f 17, f 18, f 19, f 20, f 21, f 22, f 23, f 24, f 25, f 26, f 27, f 28, f 29, f 30, f 31, f 32, f 33, f 34, f 35, f 36, f 37, f 38, f 39, f 40, f 41, f 42, f 43, f 44, f 45, f 46, f 47, f 48, f 49, f 50, f 51, f 52, f 53, f 54, f 55, f 56, f 57, f 58, f 59, f 60, f 61, f 62, f 63, f 64, f 65, f 66, f 67, f 68, f 69, f 70, f 71, f 72, f 73, f 74, f 75, f 76, f 77, f 78, f 79, f 80, f 81, f 82, f 83, f 84, f 85, f 86, f 87, f 88, f 89, f 90, f 91, f 92, f 93, f 94, f 95, f 96, f 97, f 98, f 99, f 100, f 101, f 102, f 103, f 104, f 105, f 106, f 107, f 108, f 109, f 110, f 111, f 112, f 113, f 114, f 115, f 116, f 117, f 118, f 119, f 120, f 121, f 122, f 123, f 124, f 125, f 126, f 127, f 128, f 129, f 130, f 131, f 132, f 133, f 134, f 135, f 136, f 137, f 138, f 139, f 140, f 141, f 142, f 143, f 144, f 145, f 146, f 147, f 148, f 149, f 150, f 151, f 152, f 153, f 154, f 155, f 156, f 157, f 158, f 159, f 160, f 161, f 162, f 163, f 164, f 165, f 166, f 167, f 168, f 169, f 170, f 171, f 172, f 173, f 174, f 175, f 176, f 177, f 178, f 179, f 180, f 181, f 182, f 183, f 184, f 185, f 186, f 187, f 188, f 189, f 190, f 191, f 192, f 193, f 194, f 195, f 196, f 197, f 198, f 199, f 200, f 201, f 202, f 203, f 204, f 205, f 206, f 207, f 208, f 209, f 210, f 211, f 212, f 213, f 214, f 215, f 216, f 217, f 218, f 219, f 220, f 221, f 222, f 223, f 224, f 225, f 226, f 227, f 228, f 229, f 230, f 231, f 232, f 233, f 234, f 235, f 236, f 237, f 238, f 239, f 240, f 241, f 242, f 243, f 244, f 245, f 246, f 247, f 248, f 249, f 250, f 251, f 252, f 253, f 254, f 255, f 256, f 257, f 258, f 259, f 260, f 261, f 262, f 263, f 264, f 265, f 266, f 267, f 268, f 269, f 270, f 271, f 272, f 273, f 274, f 275, f 276, f 277, f 278, f 279, f 280, f 281, f 282, f 283, f 284, f 285, f 286, f 287, f 288, f 289, f 290, f 291, f 292, f 293, f 294, f 295, f 296, f 297, f 298, f 299, f 300, f 301, f 302, f 303, f 304, f 305, f 306, f 307, f 308, f 309, f 310, f 311, f 312, f 313, f 314, f 315, f 316, f 317, f 318, f 319, f 320, f 321, f 322, f 323, f 324, f 325, f 326, f 327, f 328, f 329, f 330, f 331, f 332, f 333, f 334, f 335, f 336, f 337, f 338, f 339, f 340, f 341, f 342, f 343, f 344, f 345, f 346, f 347, f 348, f 349, f 350, f 351, f 352, f 353, f 354, f 355, f 356, f 357], []⟩ wr := by
 obtain ⟨n, hn⟩ : ∃ n, Y.length = n := ⟨_, rfl⟩
 obtain ⟨bi, oi, ci, hif, hci, hmi⟩ := hbi.spot hne
 rw [hn] at hif hci
 subst hif
 have HI := Lib.hid hbi
 have HO := Lib.hid hbo
 have HOR := Lib.hid hor
 have HN := Lib.hid hn
 have HMI := Lib.hid hmi
 have hTr : Tabs wr := hT.keeps hbo.keeps (fun _ _ => id)
 have cd := dec_bytes _ Y wr hTr (hbi.keeps hbo.keeps (fun _ _ => id)) hne
 have hob : o.length ≤ 140737488200000 := by have := congrArg List.length hor; rw [List.length_append] at this; omega
 clear hbi hbo hor hTr hne hn hmi
 subst hY
 conv => arg 2; whnf
 obtain ⟨q, hq⟩ : ∃ q, run8 (r'.drop n1) = q := ⟨_, rfl⟩
 rw [hq] at cd HI HN hd hN hp
 rw [hd] at cd
 obtain ⟨N, hNe⟩ : ∃ N, n1 + q = N := ⟨_, rfl⟩
 rw [hNe] at HI HN hp hN
 clear hd
 have hlt : (r'.take N).length = N := by rw [List.length_take]; omega
 obtain ⟨Y2, hY2⟩ : ∃ Y2, r'.take N ++ (encB (r'.drop N) ++ 34 :: T) = Y2 := ⟨_, rfl⟩
 have hYN : N ≤ Y2.length := by rw [← hY2, List.length_append, hlt]; omega
 have hYd : Y2.drop N = encB (r'.drop N) ++ 34 :: T := by
  rw [← hY2, List.drop_left' hlt]
 have hYt : Y2.take N = r'.take N := by rw [← hY2, List.take_left' hlt]
 rw [hY2] at HI HN hp
 obtain ⟨V3, hV3, hb3, _⟩ := HI.out.from n1 (by omega)
 have hix := fun w1 (h : BytesAt w1 V3 (Y2.drop n1)) => indexNeed_bytes V3 _ w1 h
 rw [hp] at hix
 obtain ⟨V4, hV4, hb4, _⟩ := HI.out.from N hYN
 have hb5 := HI.out.take N ci hYN (by rw [HN.out] at hYN; omega) (Nat.le_refl _)
 rw [hYt] at hb5
 rw [hYd] at hb4
 obtain ⟨a4, c4, hf4, _, _⟩ := hb4.form
 have hf4l : (encB (r'.drop N) ++ 34 :: T).length = n - N := by rw [← hYd, List.length_drop, HN.out]
 rw [hf4l] at hf4
 have h5 := fun w' => run_sto (some ⟨bi, oi, none⟩) n ci N (by rw [HN.out] at hYN; omega) w'
 have hwr : IntKind.i64.wrap ((n1 : Int) + (q : Int)) = (N : Int) := by
  have : N ≤ 140737488200000 := by have h1 := congrArg List.length HOR.out; rw [List.length_append] at h1; omega
  rw [IntWalk.i64_in _ (by omega)]; omega
 have hnn : N ≤ n := by rw [HN.out] at hYN; exact hYN
 have hne5 : r'.take N ≠ [] := by intro h; rw [h] at hlt; simp at hlt; omega
 have hol : o.length + (r'.take N).length ≤ 140737488355328 := by
  have h1 := congrArg List.length HOR.out; rw [List.length_append] at h1; rw [List.length_take]; omega
 have hN1 : 1 ≤ N := by omega
 have hnp : (0 : Int) < (n : Int) := by omega
 have H3 := Lib.hid hb3
 have H4 := Lib.hid hb4
 have H5 := Lib.hid hb5
 have HF4 := Lib.hid hf4
 have HNE := Lib.hid hne5
 have HOL := Lib.hid hol
 have HNN := Lib.hid hnn
 have HN1 := Lib.hid hN1
 have e2 : ((R : Int) == 0) = false := by simp; omega
 have e3 : ((R : Int) == 10) = false := by simp; omega
 have e4 : ((R : Int) == 34) = false := by simp; omega
 have e5 : ((R : Int) == 92) = false := by simp; omega
 have hnb := hR.2.2.2.2
 clear hb3 hb4 hb5 hf4 hY2 hYN hYd hYt hf4l hq hNe hp hN hlt hne5 hol hnn hN1 hR hR2
 have e1 : ((R : Int) == 65533) = false := by simp; omega
 clear hnb h65
 go_wp2_with (first
  | (go_at_call 125; refine cd.mono ?_; rintro e w1 ⟨rfl, k1⟩; have H1 := Lib.hid (HO.out.below k1); clear k1)
  | (go_at_call 124; refine (hix _ (H3.out.keeps H1.out.keeps (fun _ _ => id))).mono ?_; rintro e w2 ⟨rfl, rfl⟩))
 have HD := Lib.hid H1.out.drew
 clear cd hix
 go_region_law (refine step_buf_app HD.out (.tmp 63) (.tmp 68) (r := r'.take N) (H5.out.keeps HD.out.keeps (fun _ _ => id)) HNE.out HOL.out rfl rfl (by simp [Act.eval, Act.put]) (by simp [Act.eval, Act.put]) ?_; intro v7 w7 o7)
 have H7 := Lib.hid o7
 clear o7
 go_simp
 go_wp2
 refine ⟨⟨rfl, rfl, rfl, rfl, ?rel⟩, ?measure⟩
 case rel => exact ⟨r'.drop N, _, H4.out, H7.out, by rw [List.append_assoc, List.take_append_drop]; exact HOR.out⟩
 case measure => show lenOf V4 < _; rw [HF4.out]; have h1 := HNN.out; have h2 := HN1.out; simp [lenOf]; omega
end Go.Proofs.YtonegoemmologaaGreatDoor
namespace Go.Proofs.YtonegoemmologaaGreatDoor
open Go.RowKit
set_option maxRecDepth 1000000 in
theorem ps_round (D : Nat) (cur : Array Value) (w wr : World) (v1 : Value) (l T X0 : List UInt8) (a : Act) (Qr : Act → World → Prop) (hrow : w.heap[D]? = some (.cells cur 198 (0, 0))) (hin : cur[10]? = some v1)
 (hv : BytesAt w v1 X0) (hlen : X0.length ≤ 140737488200000) (hXT : ∃ A, X0 = A ++ T) (hs : ∀ r, skip T ≠ 35 :: r) (hX1 : T.length + 1 ≤ X0.length) (hT : Tabs w) (hl : l.length ≤ 140737488200000)
 (hexit : ∀ a w' v, (results Tryz.f99 a.tmps).run Tryz.prog w' = .ok v w' → a.defers = [] → Parsed D v1 l T w (.returned v) w' → Qr a w') (hI : PSI D w l T a wr) :
 Code.wp Tryz.prog psBody (Exit.then (fun a' w'' => PSI D w l T a' w'' ∧ PSmu a' w'' < PSmu a wr) (retPost Qr)) a wr := by
 obtain ⟨hd, hsz, h0, h5, r, o, hbi, hbo, hor⟩ := hI
 have hm := meets8 r T
 obtain ⟨f, hf, ha⟩ := frame_n a hsz hd
 have e0 := (hf 0).trans h0
 have e5 := (hf 5).trans h5
 have hmu : PSmu a wr = lenOf (f 4) := by rw [hf 4]; rfl
 rw [hmu, ha, e0, e5]
 rw [← hf 4] at hbi
 rw [← hf 7] at hbo
 clear hmu ha e0 e5 h0 h5 hsz hd hf
 generalize encB r ++ 34 :: T = Y at hbi hm
 cases hm with
 | close => exact ps_close D cur w wr v1 (f 4) (f 7) l T o _ X0 f Qr hrow hin hv hlen hXT hs hX1 hT hl rfl (by simp) hbi hbo (by simpa using hor) hexit
 | esc c d r' h =>
  simp only [List.mem_cons, Prod.mk.injEq, List.not_mem_nil, or_false] at h
  rcases h with ⟨rfl, rfl⟩ | ⟨rfl, rfl⟩ | ⟨rfl, rfl⟩ | ⟨rfl, rfl⟩ | ⟨rfl, rfl⟩ | ⟨rfl, rfl⟩
  · exact ps_esc34 D w wr (f 4) (f 7) l T r' o _ f Qr hT hl rfl (by simp) hbi hbo hor
  · exact ps_esc39 D w wr (f 4) (f 7) l T r' o _ f Qr hT hl rfl (by simp) hbi hbo hor
  · exact ps_esc92 D w wr (f 4) (f 7) l T r' o _ f Qr hT hl rfl (by simp) hbi hbo hor
  · exact ps_esc110 D w wr (f 4) (f 7) l T r' o _ f Qr hT hl rfl (by simp) hbi hbo hor
  · exact ps_esc114 D w wr (f 4) (f 7) l T r' o _ f Qr hT hl rfl (by simp) hbi hbo hor
  · exact ps_esc116 D w wr (f 4) (f 7) l T r' o _ f Qr hT hl rfl (by simp) hbi hbo hor
 | oct k hk r' =>
  by_cases hc : ((octD k ++ (encB r' ++ 34 :: T)).dropWhile (octSet.contains ·)).length = (encB r' ++ 34 :: T).length
  · exact ps_octA D w wr (f 4) (f 7) l T r' o _ f Qr k (by omega) hT hl rfl (by simp) hbi hbo hor hc
  · exact ps_octB D w wr (f 4) (f 7) l T r' o _ f Qr k (by omega) hT hl rfl (by simp) hbi hbo hor hc
 | plain _ R h0 hR hd hN hp =>
  have hne : r.take (1 + run8 (r.drop 1)) ++ (encB (r.drop (1 + run8 (r.drop 1))) ++ 34 :: T) ≠ [] := by simp
  exact ps_lit D w wr (f 4) (f 7) l T r o _ f Qr R 1 hT hl rfl hne hbi hbo hor h0 ⟨by omega, by omega, hR.2.2.1, hR.2.2.2, by omega⟩ (by omega) (by omega) hd hN hp (by omega)
theorem ps_loop (D : Nat) (cur : Array Value) (w wr : World) (v1 : Value) (l T X0 : List UInt8) (a : Act) (Qr : Act → World → Prop) (hrow : w.heap[D]? = some (.cells cur 198 (0, 0))) (hin : cur[10]? = some v1)
 (hv : BytesAt w v1 X0) (hlen : X0.length ≤ 140737488200000) (hXT : ∃ A, X0 = A ++ T) (hs : ∀ r, skip T ≠ 35 :: r) (hX1 : T.length + 1 ≤ X0.length) (hT : Tabs w) (hl : l.length ≤ 140737488200000)
 (hexit : ∀ a w' v, (results Tryz.f99 a.tmps).run Tryz.prog w' = .ok v w' → a.defers = [] → Parsed D v1 l T w (.returned v) w' → Qr a w') (hI : PSI D w l T a wr) :
 Code.wp Tryz.prog (Code.loop psBody) (retPost Qr) a wr :=
 wp_loop (PSI D w l T) PSmu hI fun a w'' hI => ps_round D cur w w'' v1 l T X0 a Qr hrow hin hv hlen hXT hs hX1 hT hl hexit hI
set_option maxRecDepth 1000000 in
set_option maxHeartbeats 40000000 in
theorem parseString_any (D : Nat) (cur : Array Value) (v : Value) (l T : List UInt8) (w : World) (hrow : w.heap[D]? = some (.cells cur 198 (0, 0))) (hin : cur[10]? = some v)
 (hv : BytesAt w v (quoteB l ++ T)) (hlen : (quoteB l ++ T).length ≤ 140737488200000) (hl : l.length ≤ 140737488200000) (hT : Tabs w) (hs : ∀ r, skip T ≠ 35 :: r) (hD : v.ownBlock ≠ some D) :
 Calls Tryz.prog 99 #[.pointer (some ⟨D, 0, none⟩)] w (Parsed D v l T w) := by
 have hc10 : w.cell? ⟨D, 10, none⟩ = some v := (cell_row hrow).trans hin
 have hX0 : quoteB l ++ T = 34 :: (l.take (pre l) ++ (encB (l.drop (pre l)) ++ 34 :: T)) := by
  unfold quoteB; rw [encB_split l]; simp
 rw [hX0] at hv hlen
 obtain ⟨p, hp⟩ : ∃ p, pre l = p := ⟨_, rfl⟩
 have hpl : p ≤ l.length := by rw [← hp]; exact pre_le l
 have hpX : pre (l.take p ++ (encB (l.drop p) ++ 34 :: T)) = p := by
  rw [← hp, pre_app _ _ (pre_all l) (encB_head _ T (fun c X h => (isP_eq c).trans (pre_next l c X h))), List.length_take]
  have := pre_le l
  omega
 rw [hp] at hv hlen
 have HX0 := Lib.hid hX0
 have HP := Lib.hid hp
 clear hX0 hp
 obtain ⟨X, hX⟩ : ∃ X, l.take p ++ (encB (l.drop p) ++ 34 :: T) = X := ⟨_, rfl⟩
 rw [hX] at hv hlen hpX
 have hpLX : p ≤ X.length := by rw [← hpX]; exact pre_le X
 have hXd : X.drop p = encB (l.drop p) ++ 34 :: T := by
  rw [← hX, List.drop_append_of_le_length (by rw [List.length_take]; omega), List.drop_take, Nat.sub_self, List.take_zero, List.nil_append]
 have hXt : X.take p = l.take p := by
  rw [← hX, List.take_append_of_le_length (by rw [List.length_take]; omega), List.take_take, Nat.min_self]
 have hXl : T.length + 1 ≤ X.length := by
  rw [← hX]; simp; omega
 have HXd := Lib.hid hXd
 have HXt := Lib.hid hXt
 have HXe := Lib.hid hX
 clear hX hXd hXt
 obtain ⟨V1, hV1, hb1, hi1⟩ := hv.from 1 (by simp)
 rw [List.drop_one, List.tail_cons] at hb1
 obtain ⟨b, off, c, hvf, hcc, hcm, hx0⟩ := hv.cons
 have HVF := Lib.hid hvf
 have HV := Lib.hid hv
 subst hvf
 obtain ⟨b1, off1, c1, rfl, hcc1, hcm1⟩ := hb1.spot (by intro h; rw [h] at hXl; simp at hXl)
 obtain ⟨V2, hV2, hb2, hi2⟩ := hb1.from p hpLX
 have hb3 := hb1.take p p hpLX (Nat.le_refl _) (by omega)
 have h3 := fun w' => run_sto3 (some ⟨b1, off1, none⟩) X.length c1 p (by omega) w'
 have hix := indexNeed_bytes _ X w hb1
 rw [hpX] at hix
 rw [HXd.out] at hb2
 rw [HXt.out] at hb3
 have hV1' : ∀ w', (Instr.slice 72 (.slice (some ⟨b, off, none⟩) (X.length + 1) c) (some (.int .i64 1)) none none).run Tryz.prog w' = .ok (.slice (some ⟨b1, off1, none⟩) X.length c1) w' := hV1
 have hb1D : b1 ≠ D := by
  have h := hi1 b1 rfl
  intro e; subst e; exact hD h
 have HBD := Lib.hid hb1D
 have HDD := Lib.hid hD
 have H2 := Lib.hid hb2
 have H3 := Lib.hid hb3
 have HCM := Lib.hid hcm
 have HCM1 := Lib.hid hcm1
 have HXL := Lib.hid hXl
 clear hV1 hb1 hb2 hb3 hv hcm hcm1 hi1 hi2 hpX hXl hb1D hD
 go_enter Tryz.func99, Tryz.ntmps99
 go_wp2_with (go_at_call 124; refine hix.mono ?_; rintro e w' ⟨rfl, rfl⟩)
 go_region
 go_simp
 go_wp2
 refine wp_mono (ps_loop D cur w w.drew (.slice (some ⟨b, off, none⟩) (X.length + 1) c) l T (34 :: X) _ (fun a w' => a.defers = [] ∧ ∃ v', (results Tryz.f99 a.tmps).run Tryz.prog w' = .ok v' w' ∧ Parsed D (.slice (some ⟨b, off, none⟩) (X.length + 1) c) l T w (.returned v') w') hrow hin HV.out hlen ?_ hs (by simp only [List.length_cons]; have := HXL.out; omega) hT hl ?_ ?_) ?_
 rotate_right
 · intro e a w' h
   cases e with
   | ret => obtain ⟨h1, v', h2, h3⟩ := h; simp only [Exit.inBlock, Exit.then]; exact bodyPost_ret h2 h1 h3
   | _ => exact h.elim
 · exact ⟨34 :: (l.take p ++ (encB (l.drop p) ++ [34])), by rw [← HXe.out]; simp⟩
 · intro a w' v h1 h2 h3
   exact ⟨h2, v, h1, h3⟩
 · have hlp : (l.take p).length = p := by rw [List.length_take]; omega
   exact ⟨rfl, rfl, rfl, rfl, l.drop p, l.take p, H2.out, ⟨(Keeps.refl _ w).drew, .inl ⟨_, by rw [hlp]; rfl, HBD.out, by have := H3.out; exact this⟩⟩, List.take_append_drop p l⟩
end Go.Proofs.YtonegoemmologaaGreatDoor
