/-
  consume of the text form, at input whose first byte behind the blanks opens no comment; (*Decoder).consume.
-/
import Derived.Test.YtdckklmhnhbpiaaGreatDoorAConv
namespace Go.Proofs.YtdckklmhnhbpiaaGreatDoor
open Go.RowKit

/-- A blank. -/
def isSp (c : UInt8) : Bool := c.toNat == 32 || c.toNat == 10 || c.toNat == 13 || c.toNat == 9
/-- The bytes behind the blanks. -/
def skip (l : List UInt8) : List UInt8 := l.dropWhile isSp
theorem skip_cons (x : UInt8) (l : List UInt8) : skip (x :: l) = if isSp x then skip l else x :: l := by
  unfold skip
  rw [List.dropWhile_cons]

/-- V lies in v's block, or in none. -/
def Within (v V : Value) : Prop := ∀ k, V.ownBlock = some k → v.ownBlock = some k
theorem Within.refl (v : Value) : Within v v := fun _ h => h
theorem Within.trans {a b c : Value} (h : Within a b) (h' : Within b c) : Within a c := fun k hk => h k (h' k hk)
theorem within_from (a : Option Addr) (n c k : Nat) : Within (.slice a n c) (sliceFrom a n c k) := by
  intro b hb
  unfold sliceFrom at hb
  cases a with
  | none => simp [Value.ownBlock] at hb
  | some a =>
    split at hb
    · exact hb
    · by_cases h0 : k = 0 <;> simpa [Value.ownBlock, Addr.add, h0] using hb
theorem within_len (a : Option Addr) (n c n' c' : Nat) : Within (.slice a n c) (.slice a n' c') := by
  intro b hb
  cases a with
  | none => simp [Value.ownBlock] at hb
  | some a => exact hb

/-- The slice from k on, as a value of its own. -/
theorem BytesAt.from {w : World} {v : Value} {l : List UInt8} (h : BytesAt w v l) (k : Nat) (hk : k ≤ l.length) :
    ∃ V, (∀ w', (Instr.slice 24 v (some (.int .i64 (k : Int))) none none).run Tryz.prog w' = .ok V w') ∧ BytesAt w V (l.drop k) ∧ Within v V := by
  obtain ⟨a, c, rfl, hc, hm, _⟩ := id h
  exact ⟨_, fun w' => run_sfrom a _ c k hk w', h.drop k hk, within_from _ _ _ _⟩
/-- The slice from k to j. -/
theorem BytesAt.mid {w : World} {v : Value} {l : List UInt8} (h : BytesAt w v l) (k j : Nat) (hk : k ≤ j) (hj : j ≤ l.length) :
    ∃ V, (∀ w', (Instr.slice 24 v (some (.int .i64 (k : Int))) (some (.int .i64 (j : Int))) none).run Tryz.prog w' = .ok V w') ∧ BytesAt w V ((l.take j).drop k) := by
  obtain ⟨a, c, rfl, hc, hm, _⟩ := id h
  have h2 := (h.take j c hj (by omega) (Nat.le_refl _)).drop k (by rw [List.length_take]; omega)
  refine ⟨_, fun w' => ?_, h2⟩
  obtain ⟨i0, hi, hz0, hz1, hz2⟩ := info_parts info5
  have h1 := run_sliceBound (P := Tryz.prog) w' .i64 (j : Int) c .sliceAcap (by omega) (by omega)
  have h3 := run_sliceBound (P := Tryz.prog) w' .i64 (k : Int) j .sliceB (by omega) (by omega)
  simp [Instr.slice, Instr.sliceBounds, run_underlying Tryz.underlying24, h1, h3, sizeOf, typeInfo, hi, hz1, sliceFrom]
theorem BytesAt.form {w : World} {v : Value} {l : List UInt8} (h : BytesAt w v l) : ∃ a c, v = .slice a l.length c ∧ l.length ≤ c ∧ c ≤ maxLen := by
  obtain ⟨a, c, h1, h2, h3, _⟩ := h
  exact ⟨a, c, h1, h2, h3⟩

set_option maxRecDepth 100000 in
set_option maxHeartbeats 400000 in
theorem consume_any (v : Value) (l : List UInt8) (n : Nat) (hn : n ≤ l.length) (w : World) (hv : BytesAt w v l) (hs : ∀ r, skip (l.drop n) ≠ 35 :: r) :
    Calls Tryz.prog 78 #[v, .int .i64 n] w fun e w' => (∃ V, e = .returned V ∧ BytesAt w V (skip (l.drop n)) ∧ Within v V) ∧ w = w' := by
  obtain ⟨V0, hV0, hb0, hi0⟩ := hv.from n hn
  have HN := Lib.hid hs
  have HB0 := Lib.hid hb0
  have HI0 := Lib.hid hi0
  clear hs hv hb0 hi0
  go_enter Tryz.func78, Tryz.ntmps78
  go_wp2
  go_loop [0] (fun s => ∃ r, BytesAt w s r ∧ Within v s ∧ skip r = skip (l.drop n)) (fun s => lenOf s)
  case atStart => exact ⟨_, HB0.out, HI0.out, rfl⟩
  case round =>
    obtain ⟨r, hr, hi, he⟩ := hrel
    have HS : Hid (skip r = skip (l.drop n)) := he
    have HI := Lib.hid hi
    clear he hi
    cases r with
    | nil =>
      obtain ⟨a', c', rfl, hc', hm', _⟩ := id hr
      have HR := Lib.hid hr
      clear hr
      go_wp2
      go_ret
      exact ⟨⟨_, rfl, by rw [← HS.out]; exact HR.out, HI.out⟩, rfl⟩
    | cons x r =>
      obtain ⟨V1, hV1, hb1, hi1⟩ := hr.from 1 (by simp)
      obtain ⟨b, off, c', rfl, hc', hm', hx⟩ := hr.cons
      have HR := Lib.hid hr
      have HD := Lib.hid hb1
      have HI1 := Lib.hid hi1
      have hV1' : ∀ w', (Instr.slice 24 (.slice (some ⟨b, off, none⟩) (r.length + 1) c') (some (.int .i64 1)) none none).run Tryz.prog w' = .ok V1 w' := hV1
      obtain ⟨a1, c1, hf1, _, _⟩ := hb1.form
      have HF1 := Lib.hid hf1
      clear hr hb1 hi1 hV1 hf1
      cases hx32 : isSp x with
      | true =>
        have H32 := Lib.hid hx32
        have hsp : x.toNat = 32 ∨ x.toNat = 10 ∨ x.toNat = 13 ∨ x.toNat = 9 := by simpa [isSp, or_assoc] using hx32
        clear hx32
        rcases hsp with hsp | hsp | hsp | hsp
        all_goals
          have H1 := Lib.hid hsp
          rw [hsp] at hx
          clear hsp
          go_wp2
          go_round
          case rel => exact ⟨r, by simpa using HD.out, HI.out.trans HI1.out, by rw [← HS.out, skip_cons, if_pos H32.out]⟩
          case measure => rw [HF1.out]; simp [lenOf]
      | false =>
        have H32 := Lib.hid hx32
        have hne : x.toNat ≠ 35 := by
          intro h
          refine HN.out r ?_
          rw [← HS.out, skip_cons, hx32, if_neg (by simp)]
          rw [show x = 35 from UInt8.toNat_inj.1 h]
        have h0 : ((x.toNat : Int) == 32) = false := by simp [isSp] at hx32; simp; omega
        have h1 : ((x.toNat : Int) == 10) = false := by simp [isSp] at hx32; simp; omega
        have h2 : ((x.toNat : Int) == 13) = false := by simp [isSp] at hx32; simp; omega
        have h3 : ((x.toNat : Int) == 9) = false := by simp [isSp] at hx32; simp; omega
        have h4 : ((x.toNat : Int) == 35) = false := by simp; omega
        clear hx32 hne hV1'
        go_wp2
        go_ret
        exact ⟨⟨_, rfl, by rw [← HS.out, skip_cons, H32.out, if_neg (by simp)]; exact HR.out, HI.out⟩, rfl⟩

/-- d.consume(n): the decoder's row gets the shorter input. -/
theorem dconsume (D : Nat) (cur : Array Value) (v : Value) (l : List UInt8) (n : Nat) (hn : n ≤ l.length) (w : World) (hrow : w.heap[D]? = some (.cells cur 68 (0, 0))) (hin : cur[10]? = some v)
    (hv : BytesAt w v l) (hs : ∀ r, skip (l.drop n) ≠ 35 :: r) :
    Calls Tryz.prog 46 #[.pointer (some ⟨D, 0, none⟩), .int .i64 n] w fun e w' =>
      e = .returned (.tuple #[]) ∧ ∃ V, BytesAt w V (skip (l.drop n)) ∧ Within v V ∧ w' = w.setCell ⟨D, 10, none⟩ V := by
  have hc : w.cell? ⟨D, 10, none⟩ = some v := (cell_row hrow).trans hin
  have hf : w.frozen? ⟨D, 10, none⟩ = false := frozen_row hrow
  go_enter Tryz.func46, Tryz.ntmps46
  go_wp2_with (go_at_call 78; refine (consume_any v l n hn w hv hs).mono ?_; rintro e w1 ⟨⟨V, rfl, hb, hi⟩, rfl⟩; obtain ⟨a1, c1, rfl, _, _⟩ := hb.form)
  (try simp only [Exit.inBlock, Exit.then]); refine bodyPost_ret (results_none rfl _ _ _) rfl ?_
  exact ⟨rfl, _, hb, hi, rfl⟩
end Go.Proofs.YtdckklmhnhbpiaaGreatDoor
