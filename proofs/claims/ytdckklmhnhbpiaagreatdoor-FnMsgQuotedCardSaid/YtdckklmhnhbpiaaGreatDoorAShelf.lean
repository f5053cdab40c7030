/-
  The contracts of Go's library that the texts use, in these texts' own words.
-/
import Derived.Test.YtdckklmhnhbpiaaGreatDoorABase
import Derived.Test.YtdckklmhnhbpiaaGreatDoorAStr
import Derived.Test.YtdckklmhnhbpiaaGreatDoorALays
namespace Go.Proofs.YtdckklmhnhbpiaaGreatDoor
open Go.RowKit

/-- The tables of Go's library hold what their initialisers lay. -/
structure Tabs (w : World) : Prop where
  utf8 : Lib.Utf8Tabs 4 5 w
  bruijn : TabAt 13 Lib.deBruijn64tab w
  size : 19 ≤ w.heap.size

theorem Tabs.keeps {S : Nat → Prop} {w w' : World} (h : Tabs w) (hk : Keeps S w w') (hS : ∀ k, k < 19 → ¬ S k) : Tabs w' :=
  ⟨⟨fun c hc => hk.cell (h.utf8.1 c hc) (hS 4 (by decide)), fun i hi => ⟨hk.cell (h.utf8.2 i hi).1 (hS 5 (by decide)), hk.cell (h.utf8.2 i hi).2 (hS 5 (by decide))⟩⟩,
    fun j hj => hk.cell (h.bruijn j hj) (hS 13 (by decide)), Nat.le_trans h.size hk.size⟩

theorem decodeGo_mk (l : List UInt8) : Lib.decodeGo (mk l) = dec l := by
  unfold Lib.decodeGo dec
  rw [mk_size]
  split
  · rfl
  · have hg : ∀ i, (mk l).get! i = l.getD i 0 := by
      intro i
      by_cases hi : i < l.length
      · rw [Utf8W.get!_of_lt (mk l) i (by rw [mk_size]; exact hi), mk_get, List.getD, List.getElem?_eq_getElem hi]
        rfl
      · rw [List.getD, List.getElem?_eq_none (by omega)]
        unfold ByteArray.get! mk
        simp only
        rw [getElem!_neg _ _ (by simpa using hi)]
        rfl
    rw [Lib.decode_at, mk_size, hg, hg, hg, hg]
    rfl

theorem dec_string (l : List UInt8) (w : World) (hT : Tabs w) :
    Calls Tryz.prog 40 #[.string (mk l)] w fun e w' => e = .returned (.tuple #[.int .i32 ((dec l).1 : Nat), .int .i64 ((dec l).2 : Nat)]) ∧ Keeps (fun _ => False) w w' := by
  have h := Any.utf8_DecodeRuneInString Tryz.lays197 (mk l) w hT.utf8
  rw [decodeGo_mk] at h
  exact h.mono fun e w' ⟨he, hb⟩ => ⟨he, Keeps.of_below hb⟩

theorem dec_bytes (v : Value) (l : List UInt8) (w : World) (hT : Tabs w) (hv : BytesAt w v l) (hn : l ≠ []) :
    Calls Tryz.prog 44 #[v] w fun e w' => e = .returned (.tuple #[.int .i32 ((dec l).1 : Nat), .int .i64 ((dec l).2 : Nat)]) ∧ Keeps (fun _ => False) w w' := by
  obtain ⟨a, c, rfl, hc, hm, hx'⟩ := hv
  obtain ⟨b, off, rfl, hx⟩ := hx'.resolve_left hn
  have h := Any7.utf8_DecodeRune Tryz.laysx32 (mk l) b off c w hT.utf8 (fun j hj => by
    rw [Utf8W.get!_of_lt (mk l) j hj, mk_get]
    exact hx j hj)
  rw [decodeGo_mk] at h
  exact h.mono fun e w' ⟨he, hb⟩ => ⟨he, Keeps.of_below hb⟩

theorem hexF_length : ∀ (k n : Nat), k < 16 → n < 16 ^ (k + 1) → ((hexF (k + 1) n).length : Int) = 1 + ((Lib.bitLen n : Int) - 1).tdiv 4
  | k, n, hk, h => by
    by_cases h16 : n < 16
    · rw [hexF, if_pos h16]
      have : n = 0 ∨ n = 1 ∨ n = 2 ∨ n = 3 ∨ n = 4 ∨ n = 5 ∨ n = 6 ∨ n = 7 ∨ n = 8 ∨ n = 9 ∨ n = 10 ∨ n = 11 ∨ n = 12 ∨ n = 13 ∨ n = 14 ∨ n = 15 := by omega
      rcases this with rfl | rfl | rfl | rfl | rfl | rfl | rfl | rfl | rfl | rfl | rfl | rfl | rfl | rfl | rfl | rfl <;> decide
    · rw [hexF, if_neg h16]
      cases k with
      | zero => simp at h; omega
      | succ k =>
        have h64 : n < 2 ^ 64 := Nat.lt_of_lt_of_le h (by
          rw [show (2 : Nat) ^ 64 = 16 ^ 16 from by decide]
          exact Nat.pow_le_pow_right (by decide) (by omega))
        have hd : n / 16 < 16 ^ (k + 1) := by
          rw [Nat.pow_succ] at h
          exact Nat.div_lt_of_lt_mul (by rw [Nat.mul_comm]; exact h)
        have ih := hexF_length k (n / 16) (by omega) hd
        have hb := Lib.bitLen_shift 4 n (by omega) h64
        have hp : 1 ≤ Lib.bitLen (n / 16) := by
          rw [Lib.bitLen_half (n / 16) (by omega) (Nat.lt_of_le_of_lt (Nat.div_le_self _ _) h64)]; omega
        rw [List.length_append, List.length_singleton, hb]
        rw [show (2 : Nat) ^ 4 = 16 from rfl]
        rw [Int.tdiv_eq_ediv_of_nonneg (by omega)] at ih ⊢
        omega

/-- How many hexadecimal digits a number has, as the text form reckons it. -/
theorem len32_hex (x : Nat) (w : World) (h1 : x ≤ 4294967295) :
    Calls Tryz.prog 41 #[.int .u32 x] w fun e w' => (∃ b K : Nat, e = .returned (.int .i64 b) ∧ wrap64 (1 + ((b : Int) - 1).tdiv 4) = (K : Int) ∧ K = (hexD x).length ∧ b ≤ 32) ∧ w = w' := by
  have h := Any.bits_Len32 Tryz.lays128 x w (by omega) (by omega)
  refine h.mono fun e w' ⟨he, hb⟩ => ⟨⟨_, _, he, ?_, rfl, ?_⟩, hb.symm⟩
  · rw [Int.toNat_natCast, hexD, hexF_length 15 x (by decide) (by omega)]
    rw [← hexF_length 15 x (by decide) (by omega)]
    have := hexF_len (15 + 1) x
    unfold wrap64
    omega
  · rw [Int.toNat_natCast]
    exact Lib.bitLen_le _ 32 (by decide) (by simp; omega)

/-- Zeros ahead: what is left of a constant of k zeros behind the first K. -/
theorem pad_from (k K : Nat) (h : K ≤ k) (w : World) : (Instr.slice 9 (.string ⟨(List.replicate k (48 : UInt8)).toArray⟩) (some (.int .i64 (K : Int))) none none).run Tryz.prog w = .ok (.string (mk (List.replicate (k - K) 48))) w := by
  have h0 := run_from (List.replicate k 48) K (by simpa using h) w
  rw [List.drop_replicate] at h0
  exact h0

theorem pad2 (K : Nat) (h : K ≤ 2) (w : World) : (Instr.slice 9 (.string { data := #[48, 48] }) (some (.int .i64 (K : Int))) none none).run Tryz.prog w = .ok (.string (mk (List.replicate (2 - K) 48))) w := pad_from 2 K h w
theorem pad4 (K : Nat) (h : K ≤ 4) (w : World) : (Instr.slice 9 (.string { data := #[48, 48, 48, 48] }) (some (.int .i64 (K : Int))) none none).run Tryz.prog w = .ok (.string (mk (List.replicate (4 - K) 48))) w := pad_from 4 K h w
theorem pad8 (K : Nat) (h : K ≤ 8) (w : World) : (Instr.slice 9 (.string { data := #[48, 48, 48, 48, 48, 48, 48, 48] }) (some (.int .i64 (K : Int))) none none).run Tryz.prog w = .ok (.string (mk (List.replicate (8 - K) 48))) w := pad_from 8 K h w

end Go.Proofs.YtdckklmhnhbpiaaGreatDoor
