/-
  What the text form's parser meets in a quoted string: plain functions on lists of bytes; no program is named here.
  How a default value of bytes is written: each byte by itself; what the parser of strings meets.
  The functions that parseString calls, in these texts' own words.
  (*Decoder).parseString: the loop of its body, and what holds at the head of each round.
-/
import Derived.Test.YtonegoemmologaaGreatDoorM10
import Derived.Lib.MapLaws
import Derived.Test.YtonegoemmologaaGreatDoorM09
import Derived.Deep.RegionLaw
set_option linter.unusedVariables false
set_option linter.unusedSimpArgs false
namespace Go.Proofs.YtonegoemmologaaGreatDoor
inductive Meets (T : List UInt8) : List UInt8 → List UInt8 → Prop
 | close : Meets T [] (34 :: T)
 | esc (c d : UInt8) (r : List UInt8) (h : (c, d) ∈ [((34 : UInt8), (34 : UInt8)), (92, 92), (110, 10), (114, 13), (116, 9)]) : Meets T (d :: r) (92 :: c :: (encL false r ++ 34 :: T))
 | hex (n : Nat) (hn : n < 256) (r : List UInt8) : Meets T (UInt8.ofNat n :: r) (92 :: 120 :: (hexB [n / 16, n % 16] ++ (encL false r ++ 34 :: T)))
 | uni (n : Nat) (h1 : 128 ≤ n) (h2 : n ≤ 159) (r : List UInt8) : Meets T (UInt8.ofNat 194 :: UInt8.ofNat n :: r) (92 :: 117 :: (hexB [0, 0, n / 16, n % 16] ++ (encL false r ++ 34 :: T)))
 | plain (r : List UInt8) (R n : Nat) (h0 : r ≠ []) (hR : R ≠ 0 ∧ R ≠ 10 ∧ R ≠ 34 ∧ R ≠ 92 ∧ ¬ (R = 65533 ∧ n = 1)) (hR2 : R ≤ 1114111) (hn : 1 ≤ n ∧ n ≤ 4)
  (hd : dec (r.take (n + pre (r.drop n)) ++ (encL false (r.drop (n + pre (r.drop n))) ++ 34 :: T)) = (R, n)) (hN : n + pre (r.drop n) ≤ r.length)
  (hp : pre ((r.take (n + pre (r.drop n)) ++ (encL false (r.drop (n + pre (r.drop n))) ++ 34 :: T)).drop n) = pre (r.drop n)) :
  Meets T r (r.take (n + pre (r.drop n)) ++ (encL false (r.drop (n + pre (r.drop n))) ++ 34 :: T))
theorem pre_app : ∀ (p : List UInt8) (X : List UInt8), (∀ c ∈ p, plainC c = true) → (∀ c X', X = c :: X' → plainC c = false) → pre (p ++ X) = p.length
 | [], X, _, h => by
  cases X with
  | nil => rfl
  | cons c X => rw [List.nil_append, pre_drop_cons, h c X rfl]; rfl
 | c :: p, X, hp, h => by
  rw [List.cons_append, pre_drop_cons, hp c (by simp), if_pos rfl, pre_app p X (fun c hc => hp c (by simp [hc])) h]
  rfl
theorem pre_all : ∀ (l : List UInt8), ∀ c ∈ l.take (pre l), plainC c = true
 | [], c, h => by simp at h
 | x :: l, c, h => by
  rw [pre_drop_cons] at h
  split at h
  · rename_i hx
    rw [List.take_succ_cons, List.mem_cons] at h
    rcases h with rfl | h
    · exact hx
    · exact pre_all l c h
  · simp at h
theorem pre_next (l : List UInt8) (c : UInt8) (X : List UInt8) (h : l.drop (pre l) = c :: X) : plainC c = false := by
 have hlt : pre l < l.length := by
  rcases Nat.lt_or_ge (pre l) l.length with h1 | h1
  · exact h1
  · rw [List.drop_eq_nil_of_le h1] at h; cases h
 have := (pre_step l (pre l) hlt (Nat.le_refl _))
 rw [List.drop_eq_getElem_cons hlt] at h
 cases h
 cases hp : plainC l[pre l] with
 | false => rfl
 | true => have := this.1 hp; omega
end Go.Proofs.YtonegoemmologaaGreatDoor
namespace Go.Proofs.YtonegoemmologaaGreatDoor
open Go.RowKit
def isP (c : UInt8) : Bool := decide (32 ≤ c.toNat) && decide (c.toNat ≤ 126) && !(c == 34) && !(c == 39) && !(c == 92)
def octD (k : Nat) : List UInt8 := hexB [k / 64, k / 8 % 8, k % 8]
def encC (c : UInt8) : List UInt8 :=
 if c = 10 then [92, 110] else if c = 13 then [92, 114] else if c = 9 then [92, 116] else if c = 34 then [92, 34] else if c = 39 then [92, 39] else if c = 92 then [92, 92]
 else if 32 ≤ c.toNat ∧ c.toNat ≤ 126 then [c] else 92 :: octD c.toNat
def encB (l : List UInt8) : List UInt8 := l.flatMap encC
theorem encB_nil : encB [] = [] := rfl
theorem encB_cons (c : UInt8) (l : List UInt8) : encB (c :: l) = encC c ++ encB l := by simp [encB]
theorem encB_snoc (l : List UInt8) (c : UInt8) : encB (l ++ [c]) = encB l ++ encC c := by simp [encB]
theorem encC_len (c : UInt8) : (encC c).length ≤ 4 := by
 unfold encC
 repeat' split
 all_goals simp [octD, hexB]
theorem encB_len (l : List UInt8) : (encB l).length ≤ 4 * l.length := by
 induction l with
 | nil => simp [encB_nil]
 | cons c l ih => rw [encB_cons, List.length_append, List.length_cons]; have := encC_len c; omega
theorem isP_enc {c : UInt8} (h : isP c = true) : encC c = [c] := by
 simp only [isP, Bool.and_eq_true, decide_eq_true_eq, Bool.not_eq_true', beq_eq_false_iff_ne, ne_eq] at h
 obtain ⟨⟨⟨⟨h1, h2⟩, h3⟩, h4⟩, h5⟩ := h
 have n10 : c ≠ 10 := by rintro rfl; exact absurd h1 (by decide)
 have n13 : c ≠ 13 := by rintro rfl; exact absurd h1 (by decide)
 have n9 : c ≠ 9 := by rintro rfl; exact absurd h1 (by decide)
 unfold encC
 rw [if_neg n10, if_neg n13, if_neg n9, if_neg h3, if_neg h4, if_neg h5, if_pos ⟨h1, h2⟩]
theorem isP_eq (c : UInt8) : isP c = plainC c := by
 have h : ∀ n : Fin 256, isP (UInt8.ofNat n.val) = plainC (UInt8.ofNat n.val) := by decide +kernel
 have := h ⟨c.toNat, c.toNat_lt⟩
 simpa only [UInt8.ofNat_toNat] using this
theorem isP_plain {c : UInt8} (h : isP c = true) : plainC c = true := by rw [← isP_eq]; exact h
theorem not_isP {c : UInt8} (h : isP c = false) : ∃ X, encC c = 92 :: X := by
 unfold encC
 by_cases h10 : c = 10
 · exact ⟨_, if_pos h10⟩
 rw [if_neg h10]
 by_cases h13 : c = 13
 · exact ⟨_, if_pos h13⟩
 rw [if_neg h13]
 by_cases h9 : c = 9
 · exact ⟨_, if_pos h9⟩
 rw [if_neg h9]
 by_cases h34 : c = 34
 · exact ⟨_, if_pos h34⟩
 rw [if_neg h34]
 by_cases h39 : c = 39
 · exact ⟨_, if_pos h39⟩
 rw [if_neg h39]
 by_cases h92 : c = 92
 · exact ⟨_, if_pos h92⟩
 rw [if_neg h92]
 by_cases hr : 32 ≤ c.toNat ∧ c.toNat ≤ 126
 · simp [isP, hr, h34, h39, h92] at h
 · exact ⟨_, if_neg hr⟩
def run8 (l : List UInt8) : Nat := pre l
theorem run8_le (l : List UInt8) : run8 l ≤ l.length := (List.takeWhile_sublist _).length_le
theorem run8_all (l : List UInt8) : ∀ c ∈ l.take (run8 l), isP c = true := fun c hc => by rw [isP_eq]; exact pre_all l c hc
theorem run8_next (l : List UInt8) (c : UInt8) (X : List UInt8) (h : l.drop (run8 l) = c :: X) : isP c = false := by rw [isP_eq]; exact pre_next l c X h
theorem encB_run (p X : List UInt8) (h : ∀ c ∈ p, isP c = true) : encB (p ++ X) = p ++ encB X := by
 induction p with
 | nil => rfl
 | cons c p ih => rw [List.cons_append, encB_cons, isP_enc (h c (by simp)), ih (fun c hc => h c (by simp [hc]))]; rfl
theorem encB_split (l : List UInt8) : encB l = l.take (pre l) ++ encB (l.drop (pre l)) := by
 conv => lhs; rw [← List.take_append_drop (pre l) l]
 exact encB_run _ _ (run8_all l)
def quoteB (l : List UInt8) : List UInt8 := 34 :: (encB l ++ [34])
theorem encB_head (r T : List UInt8) (hr : ∀ c X, r = c :: X → isP c = false) : ∀ c X, encB r ++ 34 :: T = c :: X → plainC c = false := by
 intro c X h
 cases r with
 | nil => cases h; rfl
 | cons x t =>
  obtain ⟨Z, hZ⟩ := not_isP (hr x t rfl)
  rw [encB_cons, hZ] at h
  cases h
  rfl
inductive Meets8 (T : List UInt8) : List UInt8 → List UInt8 → Prop
 | close : Meets8 T [] (34 :: T)
 | esc (c d : UInt8) (r : List UInt8) (h : (c, d) ∈ [((34 : UInt8), (34 : UInt8)), (39, 39), (92, 92), (110, 10), (114, 13), (116, 9)]) : Meets8 T (d :: r) (92 :: c :: (encB r ++ 34 :: T))
 | oct (n : Nat) (hn : n < 256) (r : List UInt8) : Meets8 T (UInt8.ofNat n :: r) (92 :: (octD n ++ (encB r ++ 34 :: T)))
 | plain (r : List UInt8) (R : Nat) (h0 : r ≠ []) (hR : 32 ≤ R ∧ R ≤ 126 ∧ R ≠ 34 ∧ R ≠ 92)
  (hd : dec (r.take (1 + run8 (r.drop 1)) ++ (encB (r.drop (1 + run8 (r.drop 1))) ++ 34 :: T)) = (R, 1)) (hN : 1 + run8 (r.drop 1) ≤ r.length)
  (hp : pre ((r.take (1 + run8 (r.drop 1)) ++ (encB (r.drop (1 + run8 (r.drop 1))) ++ 34 :: T)).drop 1) = run8 (r.drop 1)) :
  Meets8 T r (r.take (1 + run8 (r.drop 1)) ++ (encB (r.drop (1 + run8 (r.drop 1))) ++ 34 :: T))
theorem meets8 (r T : List UInt8) : Meets8 T r (encB r ++ 34 :: T) := by
 cases r with
 | nil => exact .close
 | cons x t =>
  by_cases hx : isP x = true
  · have hN := run8_le t
    have e1 : (x :: t).drop 1 = t := rfl
    have e2 : encB (x :: t) ++ 34 :: T = (x :: t).take (1 + run8 ((x :: t).drop 1)) ++ (encB ((x :: t).drop (1 + run8 ((x :: t).drop 1))) ++ 34 :: T) := by
     rw [e1, Nat.add_comm, List.take_succ_cons, List.drop_succ_cons, ← List.append_assoc]
     have e3 : encB t = t.take (run8 t) ++ encB (t.drop (run8 t)) := by
      conv => lhs; rw [← List.take_append_drop (run8 t) t]
      exact encB_run _ _ (run8_all t)
     rw [encB_cons, isP_enc hx, e3]
     simp
    rw [e2]
    have hb : 32 ≤ x.toNat ∧ x.toNat ≤ 126 ∧ x.toNat ≠ 34 ∧ x.toNat ≠ 92 := by
     simp only [isP, Bool.and_eq_true, decide_eq_true_eq, Bool.not_eq_true', beq_eq_false_iff_ne, ne_eq] at hx
     refine ⟨hx.1.1.1.1, hx.1.1.1.2, fun e => hx.1.1.2 (UInt8.toNat_inj.1 e), fun e => hx.2 (UInt8.toNat_inj.1 e)⟩
    refine .plain _ x.toNat (by simp) hb ?_ (by rw [e1, List.length_cons]; omega) ?_
    · rw [e1, Nat.add_comm, List.take_succ_cons, List.cons_append]
      exact (dec_ascii (x :: _) (by simp)).2 (by show x.toNat < 128; omega)
    · rw [e1, Nat.add_comm, List.take_succ_cons, List.cons_append, List.drop_succ_cons, List.drop_zero, List.drop_succ_cons]
      rw [pre_app _ _ (fun c hc => isP_plain (run8_all t c hc)) (encB_head _ T (fun c X h => run8_next t c X h)), List.length_take]
      omega
  · have hx' : isP x = false := by simpa using hx
    rw [encB_cons, List.append_assoc]
    unfold encC
    by_cases h10 : x = 10
    · rw [if_pos h10, h10]; exact .esc 110 10 t (by decide)
    rw [if_neg h10]
    by_cases h13 : x = 13
    · rw [if_pos h13, h13]; exact .esc 114 13 t (by decide)
    rw [if_neg h13]
    by_cases h9 : x = 9
    · rw [if_pos h9, h9]; exact .esc 116 9 t (by decide)
    rw [if_neg h9]
    by_cases h34 : x = 34
    · rw [if_pos h34, h34]; exact .esc 34 34 t (by decide)
    rw [if_neg h34]
    by_cases h39 : x = 39
    · rw [if_pos h39, h39]; exact .esc 39 39 t (by decide)
    rw [if_neg h39]
    by_cases h92 : x = 92
    · rw [if_pos h92, h92]; exact .esc 92 92 t (by decide)
    rw [if_neg h92]
    by_cases hr : 32 ≤ x.toNat ∧ x.toNat ≤ 126
    · simp [isP, hr, h34, h39, h92] at hx'
    · rw [if_neg hr]
      have := Meets8.oct (T := T) x.toNat x.toNat_lt t
      rw [UInt8.ofNat_toNat] at this
      exact this
end Go.Proofs.YtonegoemmologaaGreatDoor
namespace Go.Proofs.YtonegoemmologaaGreatDoor
open Go.RowKit
set_option maxRecDepth 100000 in
theorem indexNeed_bytes (v : Value) (l : List UInt8) (w : World) (hv : BytesAt w v l) :
 Calls Tryz.prog 124 #[v] w fun e w' => e = .returned (.int .i64 (pre l : Nat)) ∧ w = w' := by
 obtain ⟨a, c, rfl, hc, hm⟩ := hv.form
 have hrun := run_to_str hv
 have hsz := mk_size l
 obtain ⟨s, hs⟩ : ∃ s, mk l = s := ⟨_, rfl⟩
 have HS := Lib.hid hs
 rw [hs] at hrun hsz
 clear hs
 unfold maxLen at hm
 go_enter Tryz.func124, Tryz.ntmps124
 go_wp2_with (first | (go_at_call 167; go_in) | (go_at_call 166; (rw [← HS.out]); refine (indexNeed_any l (by omega) w).mono ?_; rintro e w' ⟨rfl, rfl⟩))
 go_ret
 exact ⟨rfl, rfl⟩
end Go.Proofs.YtonegoemmologaaGreatDoor
namespace Go.Proofs.YtonegoemmologaaGreatDoor
open Go.RowKit
def firstLoop : Code → Option Code
 | .loop c => some c
 | .seq a b => match firstLoop a with
  | some c => some c
  | none => firstLoop b
 | .block _ c => firstLoop c
 | .scope c => firstLoop c
 | .cond _ a b => match firstLoop a with
  | some c => some c
  | none => firstLoop b
 | _ => none
noncomputable def psBody : Code := ((Tryz.f99.body.bind firstLoop).getD .skip)
def UnqRel (D : Nat) (B : World) (l T : List UInt8) (iv ov : Value) (wr : World) : Prop :=
 ∃ r o, BytesAt B iv (encB r ++ 34 :: T) ∧ Buf D B wr ov o ∧ o ++ r = l
theorem BytesAt.spot {w : World} {v : Value} {l : List UInt8} (h : BytesAt w v l) (hl : l ≠ []) : ∃ b off c, v = .slice (some ⟨b, off, none⟩) l.length c ∧ l.length ≤ c ∧ c ≤ maxLen := by
 obtain ⟨a, c, rfl, h1, h2, h⟩ := h
 obtain ⟨b, off, rfl, _⟩ := h.resolve_left hl
 exact ⟨b, off, c, rfl, h1, h2⟩
theorem dec_head (c : UInt8) (X : List UInt8) (h : c.toNat < 128) : dec (c :: X) = (c.toNat, 1) := (dec_ascii (c :: X) (by simp)).2 h
def Parsed (D : Nat) (v : Value) (l T : List UInt8) (w : World) (e : Ending) (w' : World) : Prop :=
 e = .returned (.tuple #[.string (mk l), .nilIface]) ∧ ∃ V w1, w' = w1.setCell ⟨D, 10, none⟩ V ∧ Keeps (fun _ => False) w w1 ∧ BytesAt w1 V (skip T) ∧ Within v V
def retPost (Qr : Act → World → Prop) : Exit → Act → World → Prop
 | .ret, a, w => Qr a w
 | _, _, _ => False
def PSI (D : Nat) (B : World) (l T : List UInt8) (a : Act) (w' : World) : Prop :=
 a.defers = [] ∧ a.tmps.size = 358 ∧ a.tmps.getD 0 undef = .pointer (some ⟨D, 0, none⟩) ∧ a.tmps.getD 5 undef = .int .u8 34 ∧ UnqRel D B l T (a.tmps.getD 4 undef) (a.tmps.getD 7 undef) w'
def PSmu (a : Act) (_ : World) : Nat := lenOf (a.tmps.getD 4 undef)
set_option maxRecDepth 1000000 in
theorem range_map_n (g : Nat → Value) : (List.range 358).map g = [g 0, g 1, g 2, g 3, g 4, g 5, g 6, g 7, g 8, g 9, g 10, g 11, g 12, g 13, g 14, g 15, g 16, g 17, g 18, g 19, g 20, g 21, g 22, g 23, g 24, g 25, g 26, g 27, g 28, g 29, g 30, g 31, g 32, g 33, g 34, g 35, g 36, g 37, g 38, g 39, g 40, g 41, g 42, g 43, g 44, g 45, g 46, g 47, g 48, g 49, g 50, g 51, g 52, g 53, g 54, g 55, g 56, g 57, g 58, g 59, g 60, g 61, g 62, g 63, g 64, g 65, g 66, g 67, g 68, g 69, g 70, g 71, g 72, g 73, g 74, g 75, g 76, g 77, g 78, g 79, g 80, g 81, g 82, g 83, g 84, g 85, g 86, g 87, g 88, g 89, g 90, g 91, g 92, g 93, g 94, g 95, g 96, g 97, g 98, g 99, g 100, g 101, g 102, g 103, g 104, g 105, g 106, g 107, g 108, g 109, g 110, g 111, g 112, g 113, g 114, g 115, g 116, g 117, g 118, g 119, g 120, g 121, g 122, g 123, g 124, g 125, g 126, g 127, g 128, g 129, g 130, g 131, g 132, g 133, g 134, g 135, g 136, g 137, g 138, g 139, g 140, g 141, g 142, g 143, g 144, g 145, g 146, g 147, g 148, g 149, g 150, g 151, g 152, g 153, g 154, g 155, g 156, g 157, g 158, g 159, g 160, g 161, g 162, g 163, g 164, g 165, g 166, g 167, g 168, g 169, g 170, g 171, g 172, g 173, g 174, g 175, g 176, g 177, g 178, g 179, g 180, g 181, g 182, g 183, g 184, g 185, g 186, g 187, g 188, g 189, g 190, g 191, g 192, g 193, g 194, g 195, g 196, g 197, g 198, g 199, g 200, g 201, g 202, g 203, g 204, g 205, g 206, g 207, g 208, g 209, g 210, g 211, g 212, g 213, g 214, g 215, g 216, g 217, g 218, g 219, g 220, g 221, g 222, g 223, g 224, g 225, g 226, g 227, g 228, g 229, g 230, g 231, g 232, g 233, g 234, g 235, g 236, g 237, g 238, g 239, g 240, g 241, g 242, g 243, g 244, g 245, g 246, g 247, g 248, g 249, g 250, g 251, g 252, g 253, g 254, g 255, g 256, g 257, g 258, g 259, g 260, g 261, g 262, g 263, g 264, g 265, g 266, g 267, g 268, g 269, g 270, g 271, g 272, g 273, g 274, g 275, g 276, g 277, g 278, g 279, g 280, g 281, g 282, g 283, g 284, g 285, g 286, g 287, g 288, g 289, g 290, g 291, g 292, g 293, g 294, g 295, g 296, g 297, g 298, g 299, g 300, g 301, g 302, g 303, g 304, g 305, g 306, g 307, g 308, g 309, g 310, g 311, g 312, g 313, g 314, g 315, g 316, g 317, g 318, g 319, g 320, g 321, g 322, g 323, g 324, g 325, g 326, g 327, g 328, g 329, g 330, g 331, g 332, g 333, g 334, g 335, g 336, g 337, g 338, g 339, g 340, g 341, g 342, g 343, g 344, g 345, g 346, g 347, g 348, g 349, g 350, g 351, g 352, g 353, g 354, g 355, g 356, g 357] := by rfl
set_option maxRecDepth 1000000 in
theorem frame_n (a : Act) (hs : a.tmps.size = 358) (hd : a.defers = []) : ∃ f : Nat → Value, (∀ i, f i = a.tmps.getD i undef) ∧ a = ⟨#[f 0, f 1, f 2, f 3, f 4, f 5, f 6, f 7, f 8, f 9, f 10, f 11, f 12, f 13, f 14, f 15, f 16, f 17, f 18, f 19, f 20, f 21, f 22, f 23, f 24, f 25, f 26, f 27, f 28, f 29, f 30, f 31, f 32, f 33, f 34, f 35, f 36, f 37, f 38, f 39, f 40, f 41, f 42, f 43, f 44, f 45, f 46, f 47, f 48, f 49, f 50, f 51, f 52, f 53, f 54, f 55, f 56, f 57, f 58, f 59, f 60, f 61, f 62, f 63, f 64, f 65, f 66, f 67, f 68, f 69, f 70, f 71, f 72, f 73, f 74, f 75, f 76, f 77, f 78, f 79, f 80, f 81, f 82, f 83, f 84, f 85, f 86, f 87, f 88, f 89, f 90, f 91, f 92, f 93, f 94, f 95, f 96, f 97, f 98, f 99, f 100, f 101, f 102, f 103, f 104, f 105, f 106, f 107, f 108, f 109, f 110, f 111, f 112, f 113, f 114, f 115, f 116, f 117, f 118, f 119, f 120, f 121, f 122, f 123, f 124, f 125, f 126, f 127, f 128, f 129, f 130, f 131, f 132, f 133, f 134, f 135, f 136, f 137, f 138, f 139, f 140, f 141, f 142, f 143, f 144, f 145, f 146, f 147, f 148, f 149, f 150, f 151, f 152, f 153, f 154, f 155, f 156, f 157, f 158, f 159, f 160, f 161, f 162, f 163, f 164, f 165, f 166, f 167, f 168, f 169, f 170, f 171, f 172, f 173, f 174, f 175, f 176, f 177, f 178, f 179, f 180, f 181, f 182, f 183, f 184, f 185, f 186, f 187, f 188, f 189, f 190, f 191, f 192, f 193, f 194, f 195, f 196, f 197, f 198, f 199, f 200, f 201, f 202, f 203, f 204, f 205, f 206, f 207, f 208, f 209, f 210, f 211, f 212, f 213, f 214, f 215, f 216, f 217, f 218, f 219, f 220, f 221, f 222, f 223, f 224, f 225, f 226, f 227, f 228, f 229, f 230, f 231, f 232, f 233, f 234, f 235, f 236, f 237, f 238, f 239, f 240, f 241, f 242, f 243, f 244, f 245, f 246, f 247, f 248, f 249, f 250, f 251, f 252, f 253, f 254, f 255, f 256, f 257, f 258, f 259, f 260, f 261, f 262, f 263, f 264, f 265, f 266, f 267, f 268, f 269, f 270, f 271, f 272, f 273, f 274, f 275, f 276, f 277, f 278, f 279, f 280, f 281, f 282, f 283, f 284, f 285, f 286, f 287, f 288, f 289, f 290, f 291, f 292, f 293, f 294, f 295, f 296, f 297, f 298, f 299, f 300, f 301, f 302, f 303, f 304, f 305, f 306, f 307, f 308, f 309, f 310, f 311, f 312, f 313, f 314, f 315, f 316, f 317, f 318, f 319, f 320, f 321, f 322, f 323, f 324, f 325, f 326, f 327, f 328, f 329, f 330, f 331, f 332, f 333, f 334, f 335, f 336, f 337, f 338, f 339, f 340, f 341, f 342, f 343, f 344, f 345, f 346, f 347, f 348, f 349, f 350, f 351, f 352, f 353, f 354, f 355, f 356, f 357], []⟩ := by
 refine ⟨fun i => a.tmps.getD i undef, fun _ => rfl, ?_⟩
 obtain ⟨t, d⟩ := a
 subst hd
 obtain ⟨L⟩ := t
 have h := range_map_n fun i => (Array.mk L).getD i undef
 have h2 : L = (List.range 358).map fun i => (Array.mk L).getD i undef := by
  refine List.ext_getElem (by simpa using hs) fun i h1 h2 => ?_
  simp [h1]
 exact congrArg (fun X => Act.mk (Array.mk X) []) (h2.trans h)
end Go.Proofs.YtonegoemmologaaGreatDoor
