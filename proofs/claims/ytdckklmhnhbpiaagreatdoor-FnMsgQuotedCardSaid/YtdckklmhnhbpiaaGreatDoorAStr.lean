/-
  How the text form writes a string and reads it back: plain functions on lists of bytes; no program is named here.
-/
import Derived.Lib.DecodeN
import Derived.Lib.SpaceUEq
import Derived.Lib.QuoteLoop
import Derived.Lib.TrimU
namespace Go.Proofs.YtdckklmhnhbpiaaGreatDoor

/-- A byte that the text form writes as it stands wherever it stands. -/
def plainC (c : UInt8) : Bool := !(decide (c.toNat < 32) || c.toNat == 34 || c.toNat == 39 || c.toNat == 92 || decide (127 ≤ c.toNat))
/-- How many such bytes are at the head. -/
def pre (l : List UInt8) : Nat := (l.takeWhile plainC).length

/-- The i-th byte, 0 behind the end. -/
def gd (l : List UInt8) (i : Nat) : Nat := (l.getD i 0).toNat
/-- The character at the head, and how many bytes it has. -/
def dec (l : List UInt8) : Nat × Nat := if l.length = 0 then (65533, 0) else Lib.decodeN l.length (gd l 0) (gd l 1) (gd l 2) (gd l 3)

/-- The hexadecimal digit of a number below 16. -/
def hexc (n : Nat) : UInt8 := if n < 10 then UInt8.ofNat (48 + n) else UInt8.ofNat (87 + n)
/-- A number in hexadecimal digits. -/
def hexF : Nat → Nat → List UInt8
  | 0, _ => []
  | k + 1, n => if n < 16 then [hexc n] else hexF k (n / 16) ++ [hexc (n % 16)]
def hexD (n : Nat) : List UInt8 := hexF 16 n
/-- With zeros ahead, so many digits in all. -/
def hexP (k n : Nat) : List UInt8 := List.replicate (k - (hexD n).length) 48 ++ hexD n

/-- What stands for the character at the head, and how many bytes it takes. -/
def encStep (ascii : Bool) (l : List UInt8) : List UInt8 × Nat :=
  let r := (dec l).1
  let n := (dec l).2
  if r = 65533 ∧ n = 1 then (92 :: 120 :: hexP 2 (gd l 0), 1)
  else if r = 34 ∨ r = 92 then ([92, UInt8.ofNat r], n)
  else if r = 10 then ([92, 110], n)
  else if r = 13 then ([92, 114], n)
  else if r = 9 then ([92, 116], n)
  else if r < 32 ∨ r = 127 then (92 :: 120 :: hexP 2 r, n)
  else if 128 ≤ r ∧ (ascii = true ∨ r ≤ 159) then
    (if r ≤ 65535 then 92 :: 117 :: hexP 4 r else 92 :: 85 :: hexP 8 r, n)
  else (l.take (n + pre (l.drop n)), n + pre (l.drop n))

def encF (ascii : Bool) : Nat → List UInt8 → List UInt8
  | 0, _ => []
  | k + 1, l => if l.length = 0 then [] else (encStep ascii l).1 ++ encF ascii k (l.drop (encStep ascii l).2)

/-- What stands between the quotes. -/
def enc (ascii : Bool) (l : List UInt8) : List UInt8 := l.take (pre l) ++ encF ascii l.length (l.drop (pre l))
/-- A string as the text form writes it. -/
def quote (ascii : Bool) (l : List UInt8) : List UInt8 := 34 :: (enc ascii l ++ [34])

theorem gd_lt (l : List UInt8) (i : Nat) : gd l i < 256 := (l.getD i 0).toNat_lt
theorem dec_le (l : List UInt8) (h : l.length ≠ 0) : 1 ≤ (dec l).2 ∧ (dec l).2 ≤ l.length := by
  unfold dec
  rw [if_neg h]
  exact ⟨Lib.decodeN_ge1 _ _ _ _ _, Lib.decodeN_width_le _ _ _ _ _ (by omega)⟩
theorem dec_four (l : List UInt8) : (dec l).2 ≤ 4 := by
  unfold dec
  split
  · simp
  · exact (Lib.decodeN_conts _ _ _ _ _).2.2.2
theorem dec_rune (l : List UInt8) : (dec l).1 ≤ 1114111 := by
  unfold dec
  split
  · simp
  · have := Lib.decodeN_valid l.length (gd l 0) (gd l 1) (gd l 2) (gd l 3) (gd_lt l 0)
    omega
/-- A character below 128 is its one byte. -/
theorem dec_ascii (l : List UInt8) (h : l.length ≠ 0) : ((dec l).1 < 128 ↔ gd l 0 < 128) ∧ (gd l 0 < 128 → dec l = (gd l 0, 1)) := by
  unfold dec
  rw [if_neg h]
  unfold Lib.decodeN
  by_cases h0 : gd l 0 < 128
  · rw [if_pos h0]; exact ⟨by simp, fun _ => rfl⟩
  · rw [if_neg h0]
    refine ⟨⟨fun h1 => ?_, fun h1 => absurd h1 h0⟩, fun h1 => absurd h1 h0⟩
    exfalso
    revert h1
    repeat' split
    all_goals (simp only; omega)

theorem encStep_le (ascii : Bool) (l : List UInt8) (h : l.length ≠ 0) : 1 ≤ (encStep ascii l).2 ∧ (encStep ascii l).2 ≤ l.length := by
  have h1 := dec_le l h
  unfold encStep
  simp only
  repeat' split
  all_goals (try simp only)
  all_goals (try omega)
  have : pre (l.drop (dec l).2) ≤ (l.drop (dec l).2).length := (List.takeWhile_sublist _).length_le
  rw [List.length_drop] at this
  omega

theorem encF_more (ascii : Bool) : ∀ (k j : Nat) (l : List UInt8), l.length ≤ k → l.length ≤ j → encF ascii k l = encF ascii j l
  | 0, 0, _, _, _ => rfl
  | 0, j + 1, l, hk, _ => by have : l.length = 0 := by omega
                             simp [encF, this]
  | k + 1, 0, l, _, hj => by have : l.length = 0 := by omega
                             simp [encF, this]
  | k + 1, j + 1, l, hk, hj => by
    unfold encF
    by_cases h0 : l.length = 0
    · rw [if_pos h0, if_pos h0]
    · rw [if_neg h0, if_neg h0]
      have := encStep_le ascii l h0
      rw [encF_more ascii k j (l.drop (encStep ascii l).2) (by rw [List.length_drop]; omega) (by rw [List.length_drop]; omega)]

/-- What stands for the rest of a string. -/
def encL (ascii : Bool) (l : List UInt8) : List UInt8 := encF ascii l.length l
theorem encL_nil (ascii : Bool) : encL ascii [] = [] := rfl
theorem encL_step (ascii : Bool) (l : List UInt8) (h : l.length ≠ 0) : encL ascii l = (encStep ascii l).1 ++ encL ascii (l.drop (encStep ascii l).2) := by
  have := encStep_le ascii l h
  unfold encL
  conv => lhs; rw [show l.length = (l.length - 1) + 1 by omega]
  rw [encF, if_neg h, encF_more ascii (l.length - 1) (l.drop (encStep ascii l).2).length _ (by rw [List.length_drop]; omega) (Nat.le_refl _)]
theorem enc_eq (ascii : Bool) (l : List UInt8) : enc ascii l = l.take (pre l) ++ encL ascii (l.drop (pre l)) := by
  unfold enc encL
  rw [encF_more ascii l.length (l.drop (pre l)).length _ (by rw [List.length_drop]; omega) (Nat.le_refl _)]

theorem hexF_len : ∀ k n, (hexF k n).length ≤ k
  | 0, _ => by simp [hexF]
  | k + 1, n => by
    unfold hexF
    split
    · simp
    · rw [List.length_append]; have := hexF_len k (n / 16); simp; omega

theorem hexF_le : ∀ (k j n : Nat), 1 ≤ j → n < 16 ^ j → (hexF k n).length ≤ j
  | 0, j, _, h, _ => by simp [hexF]
  | k + 1, j, n, h, hn => by
    unfold hexF
    split
    · simpa using h
    · cases j with
      | zero => omega
      | succ j =>
        cases j with
        | zero => simp at hn; omega
        | succ j =>
          rw [List.length_append]
          have := hexF_le k (j + 1) (n / 16) (by omega) (Nat.div_lt_of_lt_mul (by rw [Nat.pow_succ, Nat.mul_comm] at hn; exact hn))
          simp; omega
theorem hexD_le (j n : Nat) (h : 1 ≤ j) (hn : n < 16 ^ j) : (hexD n).length ≤ j := hexF_le 16 j n h hn

theorem enc_next {ascii : Bool} {r bs o o' T : List UInt8} {N : Nat} (h0 : r.length ≠ 0) (he : encStep ascii r = (bs, N)) (hT : o ++ encL ascii r = T) (ho : o' = o ++ bs) : o' ++ encL ascii (r.drop N) = T := by
  rw [encL_step ascii r h0, he] at hT
  rw [ho, ← hT, List.append_assoc]

theorem encStep_eq (ascii : Bool) (l : List UInt8) {R N c : Nat} (hR : (dec l).1 = R) (hN : (dec l).2 = N) (hc : gd l 0 = c) : encStep ascii l =
    if R = 65533 ∧ N = 1 then (92 :: 120 :: hexP 2 c, 1)
    else if R = 34 ∨ R = 92 then ([92, UInt8.ofNat R], N)
    else if R = 10 then ([92, 110], N)
    else if R = 13 then ([92, 114], N)
    else if R = 9 then ([92, 116], N)
    else if R < 32 ∨ R = 127 then (92 :: 120 :: hexP 2 R, N)
    else if 128 ≤ R ∧ (ascii = true ∨ R ≤ 159) then (if R ≤ 65535 then 92 :: 117 :: hexP 4 R else 92 :: 85 :: hexP 8 R, N)
    else (l.take (N + pre (l.drop N)), N + pre (l.drop N)) := by
  subst hR; subst hN; subst hc; rfl

end Go.Proofs.YtdckklmhnhbpiaaGreatDoor
