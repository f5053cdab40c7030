/-
  What a Decoder of the text form meets: names with a colon, quoted strings, one digit, the end. No program in sight.
-/
import Derived.Test.YtdckklmhnhbpiaaGreatDoorAIdent
import Derived.Test.YtdckklmhnhbpiaaGreatDoorAUnq
namespace Go.Proofs.YtdckklmhnhbpiaaGreatDoor
open Go.RowKit

/-- A token as plain data: its kind, its name's kind, whether a colon follows, its bytes, its name. -/
structure TT where
  kind : Nat
  nk : Nat
  sep : Bool
  raw : List UInt8
  str : List UInt8

/-- The tokens that a Decoder reads from bytes, where k is the kind of the token ahead (0: none). -/
inductive Reads : Nat → List UInt8 → List TT → Prop
  | eof (k : Nat) (hk : k = 0 ∨ k = 3) : Reads k [] []
  | name (k : Nat) (nm T : List UInt8) (ts : List TT) (hk : k = 0 ∨ k = 3) (h0 : nm ≠ []) (hl : ∀ c ∈ nm, Letter c) (hn : nm.length ≤ 1000000) (hs : ∀ r, skip T ≠ 35 :: r) (h : Reads 2 (skip T) ts) :
      Reads k (nm ++ 58 :: T) (⟨2, 1, true, nm, nm⟩ :: ts)
  | str (l T : List UInt8) (ts : List TT) (hl : l.length ≤ 1000000) (hs : ∀ r, skip T ≠ 35 :: r) (hq : ∀ c r, skip T = c :: r → c.toNat ≠ 34 ∧ c.toNat ≠ 39) (h : Reads 3 (skip T) ts) :
      Reads 2 (quote false l ++ T) (⟨3, 0, false, (quote false l ++ T).take ((quote false l ++ T).length - (skip T).length), []⟩ :: ts)
  | one : Reads 2 [49] [⟨3, 0, false, [49], []⟩]

theorem letter_skip {x : UInt8} (h : Letter x) (l : List UInt8) : skip (x :: l) = x :: l := by
  rw [skip_cons]
  have : isSp x = false := by
    unfold isSp
    rcases h with h | h | h <;> simp <;> omega
  rw [this]; rfl
theorem letter_ne35 {x : UInt8} (h : Letter x) : x ≠ 35 := by
  intro e; subst e
  rcases h with h | h | h <;> simp at h
theorem letter_nq {x : UInt8} (h : Letter x) : x.toNat ≠ 34 ∧ x.toNat ≠ 39 := by
  rcases h with h | h | h <;> omega

/-- A message of texts, written by hand. -/
def msgB : List (List UInt8 × List UInt8) → List UInt8
  | [] => []
  | (n, t) :: r => n ++ 58 :: (32 :: (quote false t ++ 10 :: msgB r))
/-- Its tokens. -/
def msgT : List (List UInt8 × List UInt8) → List TT
  | [] => []
  | (n, t) :: r => ⟨2, 1, true, n, n⟩ :: ⟨3, 0, false, quote false t ++ [10], []⟩ :: msgT r
def MsgOk (fs : List (List UInt8 × List UInt8)) : Prop := ∀ p ∈ fs, p.1 ≠ [] ∧ (∀ c ∈ p.1, Letter c) ∧ p.1.length ≤ 1000000 ∧ p.2.length ≤ 1000000

/-- A message begins with a letter, or is empty. -/
theorem msg_head : ∀ fs, MsgOk fs → msgB fs = [] ∨ ∃ x r, msgB fs = x :: r ∧ Letter x := by
  intro fs h
  cases fs with
  | nil => exact .inl rfl
  | cons p r =>
    obtain ⟨n, t⟩ := p
    obtain ⟨h0, hl, _, _⟩ := h _ List.mem_cons_self
    cases n with
    | nil => exact absurd rfl h0
    | cons x n => exact .inr ⟨x, _, rfl, hl x (by simp)⟩
theorem msg_skip (fs : List (List UInt8 × List UInt8)) (h : MsgOk fs) : skip (10 :: msgB fs) = msgB fs := by
  rw [skip_cons]
  have : isSp 10 = true := by decide
  rw [this]
  rcases msg_head fs h with e | ⟨x, r, e, hx⟩
  · rw [e]; rfl
  · rw [e]; exact letter_skip hx r
theorem quote_skip (l T : List UInt8) : skip (32 :: (quote false l ++ T)) = quote false l ++ T := by
  rw [skip_cons]
  have : isSp 32 = true := by decide
  rw [this]
  show skip (34 :: _) = 34 :: _
  rw [skip_cons]
  have : isSp 34 = false := by decide
  rw [this]; rfl

theorem msg_reads : ∀ (fs : List (List UInt8 × List UInt8)) (k : Nat), (k = 0 ∨ k = 3) → MsgOk fs → Reads k (msgB fs) (msgT fs) := by
  intro fs
  induction fs with
  | nil => intro k hk _; exact .eof k hk
  | cons p r ih =>
    intro k hk h
    obtain ⟨n, t⟩ := p
    obtain ⟨h0, hl, hn, ht⟩ := h _ List.mem_cons_self
    have hr : MsgOk r := fun q hq => h q (List.mem_cons_of_mem _ hq)
    have hsk := msg_skip r hr
    have h2 : Reads 2 (quote false t ++ 10 :: msgB r) (⟨3, 0, false, quote false t ++ [10], []⟩ :: msgT r) := by
      have e : (quote false t ++ 10 :: msgB r).take ((quote false t ++ 10 :: msgB r).length - (skip (10 :: msgB r)).length) = quote false t ++ [10] := by
        rw [hsk]
        have e2 : quote false t ++ 10 :: msgB r = (quote false t ++ [10]) ++ msgB r := by simp
        rw [e2, List.length_append, Nat.add_sub_cancel, List.take_left]
      rw [← e]
      refine .str t (10 :: msgB r) _ ht ?_ ?_ (by rw [hsk]; exact ih 3 (.inr rfl) hr)
      · rw [hsk]
        intro z hz
        rcases msg_head r hr with e | ⟨x, y, e, hx⟩
        · rw [e] at hz; cases hz
        · rw [e] at hz; cases hz; exact letter_ne35 hx rfl
      · rw [hsk]
        intro c z hz
        rcases msg_head r hr with e | ⟨x, y, e, hx⟩
        · rw [e] at hz; cases hz
        · rw [e] at hz; cases hz; exact letter_nq hx
    refine .name k n (32 :: (quote false t ++ 10 :: msgB r)) _ hk h0 hl hn ?_ (by rw [quote_skip]; exact h2)
    rw [quote_skip]
    intro z hz
    cases hz

theorem one_reads : Reads 0 [97, 58, 32, 49] [⟨2, 1, true, [97], [97]⟩, ⟨3, 0, false, [49], []⟩] := by
  refine .name 0 [97] [32, 49] _ (.inl rfl) (by simp) (by intro c hc; simp at hc; subst hc; exact .inr (.inl (by decide))) (by simp) ?_ ?_
  · rw [show skip [32, 49] = [49] from by decide]
    intro r hr
    cases hr
  · rw [show skip [32, 49] = [49] from by decide]
    exact .one

theorem msgT_length (fs : List (List UInt8 × List UInt8)) : (msgT fs).length = 2 * fs.length := by
  induction fs with
  | nil => rfl
  | cons p r ih => obtain ⟨n, t⟩ := p; simp only [msgT, List.length_cons, ih]; omega
theorem msgT_get : ∀ (fs : List (List UInt8 × List UInt8)) (i : Nat) (n t : List UInt8), fs[i]? = some (n, t) →
    (msgT fs)[2 * i]? = some ⟨2, 1, true, n, n⟩ ∧ (msgT fs)[2 * i + 1]? = some ⟨3, 0, false, quote false t ++ [10], []⟩ := by
  intro fs
  induction fs with
  | nil => intro i n t h; simp at h
  | cons p r ih =>
    intro i n t h
    obtain ⟨a, b⟩ := p
    cases i with
    | zero => simp at h; obtain ⟨rfl, rfl⟩ := h; exact ⟨rfl, rfl⟩
    | succ i =>
      have h2 := ih i n t (by simpa using h)
      exact h2
end Go.Proofs.YtdckklmhnhbpiaaGreatDoor
