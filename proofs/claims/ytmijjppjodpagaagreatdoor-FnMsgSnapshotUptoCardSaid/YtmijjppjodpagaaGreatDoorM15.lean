/-
  How the text form writes a string and reads it back: plain functions on lists of bytes; no program is named here.
  indexNeedEscapeInString and indexNeedEscapeInBytes of the text form: how many plain bytes are at the head.
  Contracts of Go's library at the numbers of this seat: written by the shelf's tool in plain words.
  The contracts of Go's library that the texts use, in these texts' own words.
-/
import Derived.Lib.DecodeN
import Derived.Lib.SpaceUEq
import Derived.Lib.QuoteLoop
import Derived.Lib.TrimU
import Derived.Test.YtmijjppjodpagaaGreatDoorM01
import Derived.Shelf.Small.Bits
import Derived.Shelf.Unicode.DecodeAny
import Derived.Shelf.Spec.DecodeRune
import Derived.Shelf.Spec.TrailingZeros
import Derived.Test.YtmijjppjodpagaaGreatDoorProg
set_option linter.unusedVariables false
set_option linter.unusedSimpArgs false
namespace Go.Proofs.YtmijjppjodpagaaGreatDoor

/-- A byte that the text form writes as it stands wherever it stands. -/
def plainC (c : UInt8) : Bool := !(decide (c.toNat < 32) || c.toNat == 34 || c.toNat == 39 || c.toNat == 92 || decide (127 ≤ c.toNat))
/-- How many such bytes are at the head. -/
def pre (l : List UInt8) : Nat := (l.takeWhile plainC).length

/-- The i-th byte, 0 behind the end. -/
def gd (l : List UInt8) (i : Nat) : Nat := (l.getD i 0).toNat
/-- The character at the head, and how many bytes it has. -/
def dec (l : List UInt8) : Nat × Nat := if l.length = 0 then (65533, 0) else Lib.decodeN l.length (gd l 0) (gd l 1) (gd l 2) (gd l 3)

/-- The hexadecimal digit of a number below 16. -/
def hexc (n : Nat) : UInt8 := if n < 10 then UInt8.ofNat (48 + n) else UInt8.ofNat (87 + n)
/-- A number in hexadecimal digits. -/
def hexF : Nat → Nat → List UInt8
  | 0, _ => []
  | k + 1, n => if n < 16 then [hexc n] else hexF k (n / 16) ++ [hexc (n % 16)]
def hexD (n : Nat) : List UInt8 := hexF 16 n
/-- With zeros ahead, so many digits in all. -/
def hexP (k n : Nat) : List UInt8 := List.replicate (k - (hexD n).length) 48 ++ hexD n

/-- What stands for the character at the head, and how many bytes it takes. -/
def encStep (ascii : Bool) (l : List UInt8) : List UInt8 × Nat :=
  let r := (dec l).1
  let n := (dec l).2
  if r = 65533 ∧ n = 1 then (92 :: 120 :: hexP 2 (gd l 0), 1)
  else if r = 34 ∨ r = 92 then ([92, UInt8.ofNat r], n)
  else if r = 10 then ([92, 110], n)
  else if r = 13 then ([92, 114], n)
  else if r = 9 then ([92, 116], n)
  else if r < 32 ∨ r = 127 then (92 :: 120 :: hexP 2 r, n)
  else if 128 ≤ r ∧ (ascii = true ∨ r ≤ 159) then
    (if r ≤ 65535 then 92 :: 117 :: hexP 4 r else 92 :: 85 :: hexP 8 r, n)
  else (l.take (n + pre (l.drop n)), n + pre (l.drop n))

def encF (ascii : Bool) : Nat → List UInt8 → List UInt8
  | 0, _ => []
  | k + 1, l => if l.length = 0 then [] else (encStep ascii l).1 ++ encF ascii k (l.drop (encStep ascii l).2)

/-- What stands between the quotes. -/
def enc (ascii : Bool) (l : List UInt8) : List UInt8 := l.take (pre l) ++ encF ascii l.length (l.drop (pre l))
/-- A string as the text form writes it. -/
def quote (ascii : Bool) (l : List UInt8) : List UInt8 := 34 :: (enc ascii l ++ [34])

theorem gd_lt (l : List UInt8) (i : Nat) : gd l i < 256 := (l.getD i 0).toNat_lt
theorem dec_le (l : List UInt8) (h : l.length ≠ 0) : 1 ≤ (dec l).2 ∧ (dec l).2 ≤ l.length := by
  unfold dec
  rw [if_neg h]
  exact ⟨Lib.decodeN_ge1 _ _ _ _ _, Lib.decodeN_width_le _ _ _ _ _ (by omega)⟩
theorem dec_four (l : List UInt8) : (dec l).2 ≤ 4 := by
  unfold dec
  split
  · simp
  · exact (Lib.decodeN_conts _ _ _ _ _).2.2.2
theorem dec_rune (l : List UInt8) : (dec l).1 ≤ 1114111 := by
  unfold dec
  split
  · simp
  · have := Lib.decodeN_valid l.length (gd l 0) (gd l 1) (gd l 2) (gd l 3) (gd_lt l 0)
    omega
/-- A character below 128 is its one byte. -/
theorem dec_ascii (l : List UInt8) (h : l.length ≠ 0) : ((dec l).1 < 128 ↔ gd l 0 < 128) ∧ (gd l 0 < 128 → dec l = (gd l 0, 1)) := by
  unfold dec
  rw [if_neg h]
  unfold Lib.decodeN
  by_cases h0 : gd l 0 < 128
  · rw [if_pos h0]; exact ⟨by simp, fun _ => rfl⟩
  · rw [if_neg h0]
    refine ⟨⟨fun h1 => ?_, fun h1 => absurd h1 h0⟩, fun h1 => absurd h1 h0⟩
    exfalso
    revert h1
    repeat' split
    all_goals (simp only; omega)

theorem encStep_le (ascii : Bool) (l : List UInt8) (h : l.length ≠ 0) : 1 ≤ (encStep ascii l).2 ∧ (encStep ascii l).2 ≤ l.length := by
  have h1 := dec_le l h
  unfold encStep
  simp only
  repeat' split
  all_goals (try simp only)
  all_goals (try omega)
  have : pre (l.drop (dec l).2) ≤ (l.drop (dec l).2).length := (List.takeWhile_sublist _).length_le
  rw [List.length_drop] at this
  omega

theorem encF_more (ascii : Bool) : ∀ (k j : Nat) (l : List UInt8), l.length ≤ k → l.length ≤ j → encF ascii k l = encF ascii j l
  | 0, 0, _, _, _ => rfl
  | 0, j + 1, l, hk, _ => by have : l.length = 0 := by omega
                             simp [encF, this]
  | k + 1, 0, l, _, hj => by have : l.length = 0 := by omega
                             simp [encF, this]
  | k + 1, j + 1, l, hk, hj => by
    unfold encF
    by_cases h0 : l.length = 0
    · rw [if_pos h0, if_pos h0]
    · rw [if_neg h0, if_neg h0]
      have := encStep_le ascii l h0
      rw [encF_more ascii k j (l.drop (encStep ascii l).2) (by rw [List.length_drop]; omega) (by rw [List.length_drop]; omega)]

/-- What stands for the rest of a string. -/
def encL (ascii : Bool) (l : List UInt8) : List UInt8 := encF ascii l.length l
theorem encL_nil (ascii : Bool) : encL ascii [] = [] := rfl
theorem encL_step (ascii : Bool) (l : List UInt8) (h : l.length ≠ 0) : encL ascii l = (encStep ascii l).1 ++ encL ascii (l.drop (encStep ascii l).2) := by
  have := encStep_le ascii l h
  unfold encL
  conv => lhs; rw [show l.length = (l.length - 1) + 1 by omega]
  rw [encF, if_neg h, encF_more ascii (l.length - 1) (l.drop (encStep ascii l).2).length _ (by rw [List.length_drop]; omega) (Nat.le_refl _)]
theorem enc_eq (ascii : Bool) (l : List UInt8) : enc ascii l = l.take (pre l) ++ encL ascii (l.drop (pre l)) := by
  unfold enc encL
  rw [encF_more ascii l.length (l.drop (pre l)).length _ (by rw [List.length_drop]; omega) (Nat.le_refl _)]

theorem hexF_len : ∀ k n, (hexF k n).length ≤ k
  | 0, _ => by simp [hexF]
  | k + 1, n => by
    unfold hexF
    split
    · simp
    · rw [List.length_append]; have := hexF_len k (n / 16); simp; omega

theorem hexF_le : ∀ (k j n : Nat), 1 ≤ j → n < 16 ^ j → (hexF k n).length ≤ j
  | 0, j, _, h, _ => by simp [hexF]
  | k + 1, j, n, h, hn => by
    unfold hexF
    split
    · simpa using h
    · cases j with
      | zero => omega
      | succ j =>
        cases j with
        | zero => simp at hn; omega
        | succ j =>
          rw [List.length_append]
          have := hexF_le k (j + 1) (n / 16) (by omega) (Nat.div_lt_of_lt_mul (by rw [Nat.pow_succ, Nat.mul_comm] at hn; exact hn))
          simp; omega
theorem hexD_le (j n : Nat) (h : 1 ≤ j) (hn : n < 16 ^ j) : (hexD n).length ≤ j := hexF_le 16 j n h hn

theorem enc_next {ascii : Bool} {r bs o o' T : List UInt8} {N : Nat} (h0 : r.length ≠ 0) (he : encStep ascii r = (bs, N)) (hT : o ++ encL ascii r = T) (ho : o' = o ++ bs) : o' ++ encL ascii (r.drop N) = T := by
  rw [encL_step ascii r h0, he] at hT
  rw [ho, ← hT, List.append_assoc]

theorem encStep_eq (ascii : Bool) (l : List UInt8) {R N c : Nat} (hR : (dec l).1 = R) (hN : (dec l).2 = N) (hc : gd l 0 = c) : encStep ascii l =
    if R = 65533 ∧ N = 1 then (92 :: 120 :: hexP 2 c, 1)
    else if R = 34 ∨ R = 92 then ([92, UInt8.ofNat R], N)
    else if R = 10 then ([92, 110], N)
    else if R = 13 then ([92, 114], N)
    else if R = 9 then ([92, 116], N)
    else if R < 32 ∨ R = 127 then (92 :: 120 :: hexP 2 R, N)
    else if 128 ≤ R ∧ (ascii = true ∨ R ≤ 159) then (if R ≤ 65535 then 92 :: 117 :: hexP 4 R else 92 :: 85 :: hexP 8 R, N)
    else (l.take (N + pre (l.drop N)), N + pre (l.drop N)) := by
  subst hR; subst hN; subst hc; rfl

end Go.Proofs.YtmijjppjodpagaaGreatDoor

namespace Go.Proofs.YtmijjppjodpagaaGreatDoor
open Go.RowKit

theorem pre_le (l : List UInt8) : pre l ≤ l.length := by
  unfold pre
  exact (List.takeWhile_sublist _).length_le
theorem pre_drop_cons {c : UInt8} {l : List UInt8} : pre (c :: l) = if plainC c then pre l + 1 else 0 := by
  unfold pre
  rw [List.takeWhile_cons]
  split <;> simp
/-- Behind k plain bytes: the next is plain, or k is the number. -/
theorem pre_step (l : List UInt8) (k : Nat) (hk : k < l.length) (hall : k ≤ pre l) : (plainC l[k] = true → k + 1 ≤ pre l) ∧ (plainC l[k] = false → pre l = k) := by
  induction l generalizing k with
  | nil => simp at hk
  | cons c l ih =>
    rw [pre_drop_cons] at hall ⊢
    cases k with
    | zero =>
      simp only [List.getElem_cons_zero]
      cases hc : plainC c <;> simp
    | succ k =>
      cases hc : plainC c
      · simp [hc] at hall
      · simp only [hc, if_true] at hall ⊢
        have := ih k (by simpa using hk) (by omega)
        simp only [List.getElem_cons_succ]
        exact ⟨fun h => by have := this.1 h; omega, fun h => by have := this.2 h; omega⟩

set_option maxHeartbeats 400000 in
theorem indexNeed_any (l : List UInt8) (hl : l.length ≤ 9223372036854775807) (w : World) :
    Calls Tryz.prog 75 #[.string (mk l)] w fun e w' => e = .returned (.int .i64 (pre l : Nat)) ∧ w = w' := by
  have hsz := mk_size l
  go_enter Tryz.func75, Tryz.ntmps75
  go_wp2
  go_loop [3] (fun i => ∃ k : Nat, k ≤ pre l ∧ i = .int .i64 (k : Int)) (fun i => l.length - (intOf i).toNat)
  case atStart => exact ⟨0, Nat.zero_le _, rfl⟩
  case round =>
    obtain ⟨k, hk, rfl⟩ := hrel
    have hpl := pre_le l
    by_cases hlt : k < l.length
    · have hst := pre_step l k hlt hk
      have hix := fun w' => run_at l k hlt w'
      obtain ⟨c, hc⟩ : ∃ c, l[k] = c := ⟨_, rfl⟩
      simp only [hc] at hix hst
      have HC := Lib.hid hc
      clear hc
      cases hp : plainC c with
      | true =>
        have hk1 := hst.1 hp
        have hb : ¬ c.toNat < 32 ∧ ¬ c.toNat = 34 ∧ ¬ c.toNat = 39 ∧ ¬ c.toNat = 92 ∧ ¬ 127 ≤ c.toNat := by simpa [plainC, and_assoc] using hp
        obtain ⟨b1, b2, b3, b4, b5⟩ := hb
        have t1 : ¬ (c.toNat : Int) < 32 := by omega
        have t2 : ((c.toNat : Int) == 34) = false := by simp; omega
        have t3 : ((c.toNat : Int) == 39) = false := by simp; omega
        have t4 : ((c.toNat : Int) == 92) = false := by simp; omega
        have t5 : ¬ (127 : Int) ≤ (c.toNat : Int) := by omega
        clear hst hp b1 b2 b3 b4 b5
        go_wp2
        go_round
        case rel => exact ⟨k + 1, hk1, by go_num⟩
        case measure => simp [intOf]; omega
      | false =>
        have hk1 := hst.2 hp
        have HK := Lib.hid hk1
        have hb : c.toNat < 32 ∨ c.toNat = 34 ∨ c.toNat = 39 ∨ c.toNat = 92 ∨ 127 ≤ c.toNat := by
          by_cases h1 : c.toNat < 32
          · exact .inl h1
          · by_cases h2 : c.toNat = 34
            · exact .inr (.inl h2)
            · by_cases h3 : c.toNat = 39
              · exact .inr (.inr (.inl h3))
              · by_cases h4 : c.toNat = 92
                · exact .inr (.inr (.inr (.inl h4)))
                · refine .inr (.inr (.inr (.inr ?_)))
                  simpa [plainC, h1, h2, h3, h4] using hp
        clear hst hp hk1
        have fin : ∀ e W, (e = Ending.returned (.int .i64 (k : Nat)) ∧ w = W) → (e = Ending.returned (.int .i64 (pre l : Nat)) ∧ w = W) := fun e W h => by rw [HK.out]; exact h
        rcases hb with hb | hb | hb | hb | hb
        · have t1 : (c.toNat : Int) < 32 := by omega
          go_wp2
          go_ret
          exact ⟨by rw [HK.out]; rfl, rfl⟩
        · have t1 : (c.toNat : Int) = 34 := by omega
          clear hb
          go_wp2
          go_ret
          exact ⟨by rw [HK.out]; rfl, rfl⟩
        · have t1 : (c.toNat : Int) = 39 := by omega
          clear hb
          go_wp2
          go_ret
          exact ⟨by rw [HK.out]; rfl, rfl⟩
        · have t1 : (c.toNat : Int) = 92 := by omega
          clear hb
          go_wp2
          go_ret
          exact ⟨by rw [HK.out]; rfl, rfl⟩
        · have t1 : ¬ (c.toNat : Int) < 32 := by omega
          have t2 : ((c.toNat : Int) == 34) = false := by simp; omega
          have t3 : ((c.toNat : Int) == 39) = false := by simp; omega
          have t4 : ((c.toNat : Int) == 92) = false := by simp; omega
          have t5 : (127 : Int) ≤ (c.toNat : Int) := by omega
          clear hb
          go_wp2
          go_ret
          exact ⟨by rw [HK.out]; rfl, rfl⟩
    · have hge : l.length ≤ k := by omega
      have hkl : k = l.length := by omega
      subst hkl
      have HP : Hid (pre l = l.length) := Nat.le_antisymm (pre_le l) hk
      go_wp2
      go_ret
      exact ⟨by rw [HP.out]; rfl, rfl⟩

end Go.Proofs.YtmijjppjodpagaaGreatDoor

namespace Go.Proofs
open Go.Shelf
def Tryz.lays128_ren : Go.Shelf.Ren := ⟨fun | 128 => 77 | n => n, fun | 51 => 153 | 3 => 3 | 4 => 4 | 46 => 166 | 5 => 5 | 9 => 9 | n => n, fun | n => n⟩
theorem Tryz.lays128 : Go.Proofs.Lays.n128 Tryz.prog Tryz.lays128_ren := {
  mixed := by kernel_rfl
  f128 := Tryz.func77.trans (congrArg some (by kernel_rfl))
  t3 := Tryz.underlying3
  a3 := Tryz.isAgg3
  z3 := Tryz.sizeOf3
  v3 := Tryz.zeroValue3
  t4 := Tryz.underlying4
  a4 := Tryz.isAgg4
  z4 := Tryz.sizeOf4
  v4 := Tryz.zeroValue4
  t5 := Tryz.underlying5
  a5 := Tryz.isAgg5
  z5 := Tryz.sizeOf5
  v5 := Tryz.zeroValue5
  t9 := Tryz.underlying9
  a9 := Tryz.isAgg9
  z9 := Tryz.sizeOf9
  v9 := Tryz.zeroValue9
  t46 := Tryz.underlying166
  a46 := Tryz.isAgg166
  z46 := Tryz.sizeOf166
  v46 := Tryz.zeroValue166
  t51 := Tryz.underlying153
  a51 := Tryz.isAgg153
  z51 := Tryz.sizeOf153
  v51 := Tryz.zeroValue153 }
def Tryz.lays197_ren : Go.Shelf.Ren := ⟨fun | 197 => 76 | 260 => 106 | n => n, fun | 9 => 9 | 21 => 21 | 3 => 3 | 4 => 4 | 5 => 5 | 105 => 150 | 119 => 189 | 0 => 0 | 46 => 166 | 139 => 192 | 138 => 191 | n => n, fun | 3 => 3 | 4 => 4 | n => n⟩
theorem Tryz.lays197 : Go.Proofs.Lays.n197 Tryz.prog Tryz.lays197_ren := {
  mixed := by kernel_rfl
  f197 := Tryz.func76.trans (congrArg some (by kernel_rfl))
  f260 := Tryz.func106.trans (congrArg some (by kernel_rfl))
  t0 := Tryz.underlying0
  a0 := Tryz.isAgg0
  z0 := Tryz.sizeOf0
  v0 := Tryz.zeroValue0
  t3 := Tryz.underlying3
  a3 := Tryz.isAgg3
  z3 := Tryz.sizeOf3
  v3 := Tryz.zeroValue3
  t4 := Tryz.underlying4
  a4 := Tryz.isAgg4
  z4 := Tryz.sizeOf4
  v4 := Tryz.zeroValue4
  t5 := Tryz.underlying5
  a5 := Tryz.isAgg5
  z5 := Tryz.sizeOf5
  v5 := Tryz.zeroValue5
  t9 := Tryz.underlying9
  a9 := Tryz.isAgg9
  z9 := Tryz.sizeOf9
  v9 := Tryz.zeroValue9
  t21 := Tryz.underlying21
  a21 := Tryz.isAgg21
  z21 := Tryz.sizeOf21
  v21 := Tryz.zeroValue21
  t46 := Tryz.underlying166
  a46 := Tryz.isAgg166
  z46 := Tryz.sizeOf166
  v46 := Tryz.zeroValue166
  t105 := Tryz.underlying150
  a105 := Tryz.isAgg150
  z105 := Tryz.sizeOf150
  v105 := Tryz.zeroValue150
  t119 := Tryz.underlying189
  a119 := Tryz.isAgg189
  z119 := Tryz.sizeOf189
  t138 := Tryz.underlying191
  a138 := Tryz.isAgg191
  z138 := Tryz.sizeOf191
  v138 := Tryz.zeroValue191
  t139 := Tryz.underlying192
  a139 := Tryz.isAgg192
  z139 := Tryz.sizeOf192
  v139 := Tryz.zeroValue192
  g3 := by kernel_rfl
  g4 := by kernel_rfl }
def Tryz.laysx32_ren : Go.Shelf.Ren := ⟨fun | 32 => 152 | 49 => 185 | n => n, fun | 30 => 31 | 21 => 21 | 3 => 3 | 0 => 0 | 5 => 5 | 4 => 4 | 33 => 150 | 66 => 189 | 25 => 166 | 69 => 192 | 68 => 191 | n => n, fun | 2 => 3 | 3 => 4 | n => n⟩
theorem Tryz.laysx32 : Go.Proofs.Lays7.n32 Tryz.prog Tryz.laysx32_ren := {
  mixed := by kernel_rfl
  f32 := Tryz.func152.trans (congrArg some (by kernel_rfl))
  f49 := Tryz.func185.trans (congrArg some (by kernel_rfl))
  t0 := Tryz.underlying0
  a0 := Tryz.isAgg0
  z0 := Tryz.sizeOf0
  v0 := Tryz.zeroValue0
  i0 := by kernel_rfl
  t3 := Tryz.underlying3
  a3 := Tryz.isAgg3
  z3 := Tryz.sizeOf3
  v3 := Tryz.zeroValue3
  i3 := by kernel_rfl
  t4 := Tryz.underlying4
  a4 := Tryz.isAgg4
  z4 := Tryz.sizeOf4
  v4 := Tryz.zeroValue4
  i4 := by kernel_rfl
  t5 := Tryz.underlying5
  a5 := Tryz.isAgg5
  z5 := Tryz.sizeOf5
  v5 := Tryz.zeroValue5
  i5 := by kernel_rfl
  t21 := Tryz.underlying21
  a21 := Tryz.isAgg21
  z21 := Tryz.sizeOf21
  v21 := Tryz.zeroValue21
  i21 := by kernel_rfl
  t25 := Tryz.underlying166
  a25 := Tryz.isAgg166
  z25 := Tryz.sizeOf166
  v25 := Tryz.zeroValue166
  i25 := by kernel_rfl
  t30 := Tryz.underlying31
  a30 := Tryz.isAgg31
  z30 := Tryz.sizeOf31
  v30 := Tryz.zeroValue31
  i30 := by kernel_rfl
  t33 := Tryz.underlying150
  a33 := Tryz.isAgg150
  z33 := Tryz.sizeOf150
  v33 := Tryz.zeroValue150
  i33 := by kernel_rfl
  t66 := Tryz.underlying189
  a66 := Tryz.isAgg189
  z66 := Tryz.sizeOf189
  t68 := Tryz.underlying191
  a68 := Tryz.isAgg191
  z68 := Tryz.sizeOf191
  v68 := Tryz.zeroValue191
  i68 := by kernel_rfl
  t69 := Tryz.underlying192
  a69 := Tryz.isAgg192
  z69 := Tryz.sizeOf192
  v69 := Tryz.zeroValue192
  i69 := by kernel_rfl
  g2 := by kernel_rfl
  g3 := by kernel_rfl }
def Tryz.laysx27_ren : Go.Shelf.Ren := ⟨fun | 27 => 136 | 28 => 168 | 29 => 169 | n => n, fun | 25 => 166 | 3 => 3 | 27 => 153 | 22 => 49 | 4 => 4 | 53 => 219 | 0 => 0 | 5 => 5 | 54 => 250 | n => n, fun | 0 => 7 | 1 => 8 | n => n⟩
theorem Tryz.laysx27 : Go.Proofs.Lays7.n27 Tryz.prog Tryz.laysx27_ren := {
  mixed := by kernel_rfl
  f27 := Tryz.func136.trans (congrArg some (by kernel_rfl))
  f28 := Tryz.func168.trans (congrArg some (by kernel_rfl))
  f29 := Tryz.func169.trans (congrArg some (by kernel_rfl))
  t0 := Tryz.underlying0
  a0 := Tryz.isAgg0
  z0 := Tryz.sizeOf0
  v0 := Tryz.zeroValue0
  i0 := by kernel_rfl
  t3 := Tryz.underlying3
  a3 := Tryz.isAgg3
  z3 := Tryz.sizeOf3
  v3 := Tryz.zeroValue3
  i3 := by kernel_rfl
  t4 := Tryz.underlying4
  a4 := Tryz.isAgg4
  z4 := Tryz.sizeOf4
  v4 := Tryz.zeroValue4
  i4 := by kernel_rfl
  t5 := Tryz.underlying5
  a5 := Tryz.isAgg5
  z5 := Tryz.sizeOf5
  v5 := Tryz.zeroValue5
  i5 := by kernel_rfl
  t22 := Tryz.underlying49
  a22 := Tryz.isAgg49
  z22 := Tryz.sizeOf49
  v22 := Tryz.zeroValue49
  i22 := by kernel_rfl
  t25 := Tryz.underlying166
  a25 := Tryz.isAgg166
  z25 := Tryz.sizeOf166
  v25 := Tryz.zeroValue166
  i25 := by kernel_rfl
  t27 := Tryz.underlying153
  a27 := Tryz.isAgg153
  z27 := Tryz.sizeOf153
  v27 := Tryz.zeroValue153
  i27 := by kernel_rfl
  t53 := Tryz.underlying219
  a53 := Tryz.isAgg219
  z53 := Tryz.sizeOf219
  v53 := Tryz.zeroValue219
  i53 := by kernel_rfl
  t54 := Tryz.underlying250
  a54 := Tryz.isAgg250
  z54 := Tryz.sizeOf250
  g0 := by kernel_rfl
  g1 := by kernel_rfl }
end Go.Proofs

namespace Go.Proofs.YtmijjppjodpagaaGreatDoor
open Go.RowKit

/-- The tables of Go's library hold what their initialisers lay. -/
structure Tabs (w : World) : Prop where
  utf8 : Lib.Utf8Tabs 3 4 w
  bruijn : TabAt 8 Lib.deBruijn64tab w
  size : 14 ≤ w.heap.size

theorem Tabs.keeps {S : Nat → Prop} {w w' : World} (h : Tabs w) (hk : Keeps S w w') (hS : ∀ k, k < 14 → ¬ S k) : Tabs w' :=
  ⟨⟨fun c hc => hk.cell (h.utf8.1 c hc) (hS 3 (by decide)), fun i hi => ⟨hk.cell (h.utf8.2 i hi).1 (hS 4 (by decide)), hk.cell (h.utf8.2 i hi).2 (hS 4 (by decide))⟩⟩,
    fun j hj => hk.cell (h.bruijn j hj) (hS 8 (by decide)), Nat.le_trans h.size hk.size⟩

theorem decodeGo_mk (l : List UInt8) : Lib.decodeGo (mk l) = dec l := by
  unfold Lib.decodeGo dec
  rw [mk_size]
  split
  · rfl
  · have hg : ∀ i, (mk l).get! i = l.getD i 0 := by
      intro i
      by_cases hi : i < l.length
      · rw [Utf8W.get!_of_lt (mk l) i (by rw [mk_size]; exact hi), mk_get, List.getD, List.getElem?_eq_getElem hi]
        rfl
      · rw [List.getD, List.getElem?_eq_none (by omega)]
        unfold ByteArray.get! mk
        simp only
        rw [getElem!_neg _ _ (by simpa using hi)]
        rfl
    rw [Lib.decode_at, mk_size, hg, hg, hg, hg]
    rfl

theorem dec_string (l : List UInt8) (w : World) (hT : Tabs w) :
    Calls Tryz.prog 76 #[.string (mk l)] w fun e w' => e = .returned (.tuple #[.int .i32 ((dec l).1 : Nat), .int .i64 ((dec l).2 : Nat)]) ∧ Keeps (fun _ => False) w w' := by
  have h := Any.utf8_DecodeRuneInString Tryz.lays197 (mk l) w hT.utf8
  rw [decodeGo_mk] at h
  exact h.mono fun e w' ⟨he, hb⟩ => ⟨he, Keeps.of_below hb⟩

theorem dec_bytes (v : Value) (l : List UInt8) (w : World) (hT : Tabs w) (hv : BytesAt w v l) (hn : l ≠ []) :
    Calls Tryz.prog 152 #[v] w fun e w' => e = .returned (.tuple #[.int .i32 ((dec l).1 : Nat), .int .i64 ((dec l).2 : Nat)]) ∧ Keeps (fun _ => False) w w' := by
  obtain ⟨a, c, rfl, hc, hm, hx'⟩ := hv
  obtain ⟨b, off, rfl, hx⟩ := hx'.resolve_left hn
  have h := Any7.utf8_DecodeRune Tryz.laysx32 (mk l) b off c w hT.utf8 (fun j hj => by
    rw [Utf8W.get!_of_lt (mk l) j hj, mk_get]
    exact hx j hj)
  rw [decodeGo_mk] at h
  exact h.mono fun e w' ⟨he, hb⟩ => ⟨he, Keeps.of_below hb⟩

theorem hexF_length : ∀ (k n : Nat), k < 16 → n < 16 ^ (k + 1) → ((hexF (k + 1) n).length : Int) = 1 + ((Lib.bitLen n : Int) - 1).tdiv 4
  | k, n, hk, h => by
    by_cases h16 : n < 16
    · rw [hexF, if_pos h16]
      have : n = 0 ∨ n = 1 ∨ n = 2 ∨ n = 3 ∨ n = 4 ∨ n = 5 ∨ n = 6 ∨ n = 7 ∨ n = 8 ∨ n = 9 ∨ n = 10 ∨ n = 11 ∨ n = 12 ∨ n = 13 ∨ n = 14 ∨ n = 15 := by omega
      rcases this with rfl | rfl | rfl | rfl | rfl | rfl | rfl | rfl | rfl | rfl | rfl | rfl | rfl | rfl | rfl | rfl <;> decide
    · rw [hexF, if_neg h16]
      cases k with
      | zero => simp at h; omega
      | succ k =>
        have h64 : n < 2 ^ 64 := Nat.lt_of_lt_of_le h (by
          rw [show (2 : Nat) ^ 64 = 16 ^ 16 from by decide]
          exact Nat.pow_le_pow_right (by decide) (by omega))
        have hd : n / 16 < 16 ^ (k + 1) := by
          rw [Nat.pow_succ] at h
          exact Nat.div_lt_of_lt_mul (by rw [Nat.mul_comm]; exact h)
        have ih := hexF_length k (n / 16) (by omega) hd
        have hb := Lib.bitLen_shift 4 n (by omega) h64
        have hp : 1 ≤ Lib.bitLen (n / 16) := by
          rw [Lib.bitLen_half (n / 16) (by omega) (Nat.lt_of_le_of_lt (Nat.div_le_self _ _) h64)]; omega
        rw [List.length_append, List.length_singleton, hb]
        rw [show (2 : Nat) ^ 4 = 16 from rfl]
        rw [Int.tdiv_eq_ediv_of_nonneg (by omega)] at ih ⊢
        omega

/-- How many hexadecimal digits a number has, as the text form reckons it. -/
theorem len32_hex (x : Nat) (w : World) (h1 : x ≤ 4294967295) :
    Calls Tryz.prog 77 #[.int .u32 x] w fun e w' => (∃ b K : Nat, e = .returned (.int .i64 b) ∧ wrap64 (1 + ((b : Int) - 1).tdiv 4) = (K : Int) ∧ K = (hexD x).length ∧ b ≤ 32) ∧ w = w' := by
  have h := Any.bits_Len32 Tryz.lays128 x w (by omega) (by omega)
  refine h.mono fun e w' ⟨he, hb⟩ => ⟨⟨_, _, he, ?_, rfl, ?_⟩, hb.symm⟩
  · rw [Int.toNat_natCast, hexD, hexF_length 15 x (by decide) (by omega)]
    rw [← hexF_length 15 x (by decide) (by omega)]
    have := hexF_len (15 + 1) x
    unfold wrap64
    omega
  · rw [Int.toNat_natCast]
    exact Lib.bitLen_le _ 32 (by decide) (by simp; omega)

/-- Zeros ahead: what is left of a constant of k zeros behind the first K. -/
theorem pad_from (k K : Nat) (h : K ≤ k) (w : World) : (Instr.slice 9 (.string ⟨(List.replicate k (48 : UInt8)).toArray⟩) (some (.int .i64 (K : Int))) none none).run Tryz.prog w = .ok (.string (mk (List.replicate (k - K) 48))) w := by
  have h0 := run_from (List.replicate k 48) K (by simpa using h) w
  rw [List.drop_replicate] at h0
  exact h0

theorem pad2 (K : Nat) (h : K ≤ 2) (w : World) : (Instr.slice 9 (.string { data := #[48, 48] }) (some (.int .i64 (K : Int))) none none).run Tryz.prog w = .ok (.string (mk (List.replicate (2 - K) 48))) w := pad_from 2 K h w
theorem pad4 (K : Nat) (h : K ≤ 4) (w : World) : (Instr.slice 9 (.string { data := #[48, 48, 48, 48] }) (some (.int .i64 (K : Int))) none none).run Tryz.prog w = .ok (.string (mk (List.replicate (4 - K) 48))) w := pad_from 4 K h w
theorem pad8 (K : Nat) (h : K ≤ 8) (w : World) : (Instr.slice 9 (.string { data := #[48, 48, 48, 48, 48, 48, 48, 48] }) (some (.int .i64 (K : Int))) none none).run Tryz.prog w = .ok (.string (mk (List.replicate (8 - K) 48))) w := pad_from 8 K h w

end Go.Proofs.YtmijjppjodpagaaGreatDoor
