/-
  What the text form's parser meets in a quoted string: plain functions on lists of bytes; no program is named here.
  What a Decoder of the text form meets: names with a colon, quoted strings, one digit, the end. No program in sight.
  The plain law of FnMsgQuoted: how long a quoted text is, the message of the fields so far, its tokens. No program in sight.
  Each operation that fits says what it appends: the texts of a list of operations.
  The operations of a message: a plain function of the schema and the message; how many, and that they fit.
-/
import Derived.Test.YtmijjppjodpagaaGreatDoorM15
import Derived.Test.YtmijjppjodpagaaGreatDoorM28
import Derived.Lib.MapLaws
import Derived.Test.YtmijjppjodpagaaGreatDoorM27
import Derived.Test.YtmijjppjodpagaaGreatDoorM26
set_option linter.unusedVariables false
set_option linter.unusedSimpArgs false
namespace Go.Proofs.YtmijjppjodpagaaGreatDoor

theorem encF_one (k : Nat) (d : Nat) (h : d < 16) : hexF (k + 1) d = [hexc d] := by rw [hexF, if_pos h]
theorem hexD_small (n : Nat) (h : n < 16) : hexD n = [hexc n] := encF_one 15 n h
theorem hexD_two (n : Nat) (h : 16 ≤ n) (h2 : n < 256) : hexD n = [hexc (n / 16), hexc (n % 16)] := by
  unfold hexD
  rw [hexF, if_neg (by omega), encF_one 14 (n / 16) (by omega)]
  rfl
/-- Two digits. -/
theorem hexP_two (n : Nat) (h : n < 256) : hexP 2 n = hexB [n / 16, n % 16] := by
  unfold hexP
  by_cases h16 : n < 16
  · rw [hexD_small n h16, show n / 16 = 0 by omega, show n % 16 = n by omega]
    rfl
  · rw [hexD_two n (by omega) h]
    rfl
theorem hexP_four (n : Nat) (h : n < 256) (h16 : 16 ≤ n) : hexP 4 n = hexB [0, 0, n / 16, n % 16] := by
  unfold hexP
  rw [hexD_two n h16 h]
  rfl

/-- What the parser meets behind the plain bytes: the next piece of the string, or the closing quote. -/
inductive Meets (T : List UInt8) : List UInt8 → List UInt8 → Prop
  | close : Meets T [] (34 :: T)
  | esc (c d : UInt8) (r : List UInt8) (h : (c, d) ∈ [((34 : UInt8), (34 : UInt8)), (92, 92), (110, 10), (114, 13), (116, 9)]) : Meets T (d :: r) (92 :: c :: (encL false r ++ 34 :: T))
  | hex (n : Nat) (hn : n < 256) (r : List UInt8) : Meets T (UInt8.ofNat n :: r) (92 :: 120 :: (hexB [n / 16, n % 16] ++ (encL false r ++ 34 :: T)))
  | uni (n : Nat) (h1 : 128 ≤ n) (h2 : n ≤ 159) (r : List UInt8) : Meets T (UInt8.ofNat 194 :: UInt8.ofNat n :: r) (92 :: 117 :: (hexB [0, 0, n / 16, n % 16] ++ (encL false r ++ 34 :: T)))
  | plain (r : List UInt8) (R n : Nat) (h0 : r ≠ []) (hR : R ≠ 0 ∧ R ≠ 10 ∧ R ≠ 34 ∧ R ≠ 92 ∧ ¬ (R = 65533 ∧ n = 1)) (hR2 : R ≤ 1114111) (hn : 1 ≤ n ∧ n ≤ 4)
      (hd : dec (r.take (n + pre (r.drop n)) ++ (encL false (r.drop (n + pre (r.drop n))) ++ 34 :: T)) = (R, n)) (hN : n + pre (r.drop n) ≤ r.length)
      (hp : pre ((r.take (n + pre (r.drop n)) ++ (encL false (r.drop (n + pre (r.drop n))) ++ 34 :: T)).drop n) = pre (r.drop n)) :
      Meets T r (r.take (n + pre (r.drop n)) ++ (encL false (r.drop (n + pre (r.drop n))) ++ 34 :: T))

/-- The i-th byte does not depend on what follows. -/
theorem gd_append {a b : List UInt8} {i : Nat} (h : i < a.length) : gd (a ++ b) i = gd a i := by
  unfold gd
  rw [List.getD, List.getD, List.getElem?_append_left h]
theorem gd_take {a : List UInt8} {i k : Nat} (h : i < k) : gd (a.take k) i = gd a i := by
  unfold gd
  rw [List.getD, List.getD, List.getElem?_take_of_lt h]

/-- A character that was decoded is decoded again, whatever follows its bytes. -/
theorem dec_stable (r X : List UInt8) (N : Nat) (h0 : r ≠ []) (hv : ¬ ((dec r).1 = 65533 ∧ (dec r).2 = 1)) (hN : (dec r).2 ≤ N) (hN2 : N ≤ r.length) : dec (r.take N ++ X) = dec r := by
  have hl : 0 < r.length := List.length_pos_iff.2 h0
  have hle := dec_le r (by omega)
  have hlen : (r.take N).length = N := by rw [List.length_take]; omega
  have hlen2 : (r.take N ++ X).length ≠ 0 := by rw [List.length_append, hlen]; omega
  have hg : ∀ i, i < N → gd (r.take N ++ X) i = gd r i := fun i hi => by rw [gd_append (by omega), gd_take hi]
  have hge : N ≤ (r.take N ++ X).length := by rw [List.length_append, hlen]; omega
  unfold dec at hv hN ⊢
  rw [if_neg (show ¬ r.length = 0 by omega)] at hv hN ⊢
  rw [if_neg hlen2]
  generalize (r.take N ++ X).length = L at *
  rcases Lib.decodeN_shape r.length (gd r 0) (gd r 1) (gd r 2) (gd r 3) with ⟨c, e⟩ | ⟨c1, c2, c3, cv, e⟩ | ⟨c1, c2, c3, c4, cv, cs, e⟩ | ⟨c1, c2, c3, c4, c5, cv, cw, e⟩ | e
  · rw [e] at hN ⊢
    rw [hg 0 (by simp only at hN; omega)]
    unfold Lib.decodeN
    rw [if_pos c]
  · rw [e] at hN ⊢
    simp only at hN
    rw [hg 0 (by omega), hg 1 (by omega)]
    unfold Lib.decodeN
    rw [if_neg (by omega), if_pos ⟨c1, by omega, c3⟩, if_pos cv]
  · rw [e] at hN ⊢
    simp only at hN
    rw [hg 0 (by omega), hg 1 (by omega), hg 2 (by omega)]
    unfold Lib.decodeN
    rw [if_neg (by omega), if_neg (by omega), if_pos ⟨c1, ⟨by omega, c3⟩, by omega, c4⟩, if_pos ⟨cv, by omega⟩]
  · rw [e] at hN ⊢
    simp only at hN
    rw [hg 0 (by omega), hg 1 (by omega), hg 2 (by omega), hg 3 (by omega)]
    unfold Lib.decodeN
    rw [if_neg (by omega), if_neg (by omega), if_neg (by omega), if_pos ⟨c1, ⟨by omega, c3⟩, ⟨by omega, c4⟩, by omega, c5⟩, if_pos ⟨cv, by omega⟩]
  · rw [e] at hv
    exact absurd ⟨rfl, rfl⟩ hv

/-- How many plain bytes are at the head of plain bytes and more. -/
theorem pre_app : ∀ (p : List UInt8) (X : List UInt8), (∀ c ∈ p, plainC c = true) → (∀ c X', X = c :: X' → plainC c = false) → pre (p ++ X) = p.length
  | [], X, _, h => by
    cases X with
    | nil => rfl
    | cons c X => rw [List.nil_append, pre_drop_cons, h c X rfl]; rfl
  | c :: p, X, hp, h => by
    rw [List.cons_append, pre_drop_cons, hp c (by simp), if_pos rfl, pre_app p X (fun c hc => hp c (by simp [hc])) h]
    rfl
theorem pre_all : ∀ (l : List UInt8), ∀ c ∈ l.take (pre l), plainC c = true
  | [], c, h => by simp at h
  | x :: l, c, h => by
    rw [pre_drop_cons] at h
    split at h
    · rename_i hx
      rw [List.take_succ_cons, List.mem_cons] at h
      rcases h with rfl | h
      · exact hx
      · exact pre_all l c h
    · simp at h
theorem pre_next (l : List UInt8) (c : UInt8) (X : List UInt8) (h : l.drop (pre l) = c :: X) : plainC c = false := by
  have hlt : pre l < l.length := by
    rcases Nat.lt_or_ge (pre l) l.length with h1 | h1
    · exact h1
    · rw [List.drop_eq_nil_of_le h1] at h; cases h
  have := (pre_step l (pre l) hlt (Nat.le_refl _))
  rw [List.drop_eq_getElem_cons hlt] at h
  cases h
  cases hp : plainC l[pre l] with
  | false => rfl
  | true => have := this.1 hp; omega

theorem encL_head (r T : List UInt8) (hr : ∀ c X, r = c :: X → plainC c = false) : ∀ c X, encL false r ++ 34 :: T = c :: X → plainC c = false := by
  intro c X h
  by_cases h0 : r.length = 0
  · obtain rfl : r = [] := List.eq_nil_of_length_eq_zero h0
    rw [encL_nil] at h
    cases h
    rfl
  · rw [encL_step false r h0] at h
    have hle := dec_le r h0
    obtain ⟨x, X', rfl⟩ : ∃ x X', r = x :: X' := by cases r with
      | nil => simp at h0
      | cons x X' => exact ⟨x, X', rfl⟩
    have hx := hr x X' rfl
    revert h
    unfold encStep
    simp only
    repeat' split
    all_goals (simp only [List.cons_append]; intro h)
    all_goals first
      | (cases h; rfl)
      | (obtain ⟨k, hk⟩ : ∃ k, (dec (x :: X')).2 + pre ((x :: X').drop (dec (x :: X')).2) = k + 1 := ⟨(dec (x :: X')).2 + pre ((x :: X').drop (dec (x :: X')).2) - 1, by omega⟩
         rw [hk, List.take_succ_cons, List.cons_append, List.cons_append] at h
         cases h
         exact hx)
/-- What stands for the rest of a string, and the closing quote, is the parser's next piece. -/
theorem meets (r T : List UInt8) : Meets T r (encL false r ++ 34 :: T) := by
  by_cases h0 : r.length = 0
  · obtain rfl : r = [] := List.eq_nil_of_length_eq_zero h0
    exact .close
  · have hle := dec_le r h0
    have h4 := dec_four r
    have hR := dec_rune r
    have hasc := dec_ascii r h0
    obtain ⟨x, t, rfl⟩ : ∃ x t, r = x :: t := by cases r with
      | nil => simp at h0
      | cons x t => exact ⟨x, t, rfl⟩
    have hgx : gd (x :: t) 0 = x.toNat := rfl
    have hx256 : x.toNat < 256 := x.toNat_lt
    have hne : (x :: t) ≠ [] := by simp
    rw [hgx] at hasc
    rw [encL_step false (x :: t) h0]
    obtain ⟨R, hRe⟩ : ∃ R, (dec (x :: t)).1 = R := ⟨_, rfl⟩
    obtain ⟨N, hNe⟩ : ∃ N, (dec (x :: t)).2 = N := ⟨_, rfl⟩
    have hpair : dec (x :: t) = (R, N) := by rw [← hRe, ← hNe]
    have one : R < 128 → x.toNat = R ∧ N = 1 := fun h => by
      have h1 := hasc.1.1 (by rw [hRe]; exact h)
      have h2 := hasc.2 h1
      rw [hpair] at h2
      exact ⟨(congrArg Prod.fst h2).symm, congrArg Prod.snd h2⟩
    rw [encStep_eq false (x :: t) hRe hNe hgx]
    rw [hNe] at hle h4
    rw [hRe] at hR
    have hxe : ∀ n, x.toNat = n → x = UInt8.ofNat n := fun n h => by rw [← h]; simp
    by_cases a1 : R = 65533 ∧ N = 1
    · rw [if_pos a1]
      rw [hexP_two _ hx256]
      have := Meets.hex (T := T) x.toNat hx256 t
      simpa using this
    · rw [if_neg a1]
      have single : ∀ c, R < 128 → R = c → (x = UInt8.ofNat c ∧ (x :: t).drop N = t) := fun c h hc => by
        obtain ⟨h1, h2⟩ := one h
        rw [h2]
        exact ⟨hxe c (by omega), rfl⟩
      by_cases a2 : R = 34 ∨ R = 92
      · rw [if_pos a2]
        rcases a2 with a2 | a2
        · obtain ⟨h1, h2⟩ := single 34 (by omega) a2
          simp only [h2]
          rw [h1, a2]
          exact Meets.esc 34 34 t (by decide)
        · obtain ⟨h1, h2⟩ := single 92 (by omega) a2
          simp only [h2]
          rw [h1, a2]
          exact Meets.esc 92 92 t (by decide)
      · rw [if_neg a2]
        by_cases a3 : R = 10
        · rw [if_pos a3]
          obtain ⟨h1, h2⟩ := single 10 (by omega) a3
          simp only [h2]
          rw [h1]
          exact Meets.esc 110 10 t (by decide)
        · rw [if_neg a3]
          by_cases a4 : R = 13
          · rw [if_pos a4]
            obtain ⟨h1, h2⟩ := single 13 (by omega) a4
            simp only [h2]
            rw [h1]
            exact Meets.esc 114 13 t (by decide)
          · rw [if_neg a4]
            by_cases a5 : R = 9
            · rw [if_pos a5]
              obtain ⟨h1, h2⟩ := single 9 (by omega) a5
              simp only [h2]
              rw [h1]
              exact Meets.esc 116 9 t (by decide)
            · rw [if_neg a5]
              by_cases a6 : R < 32 ∨ R = 127
              · rw [if_pos a6]
                obtain ⟨h1, h2⟩ := single R (by omega) rfl
                rw [hexP_two _ (by omega)]
                simp only [h2]
                rw [h1]
                have := Meets.hex (T := T) R (by omega) t
                simpa using this
              · rw [if_neg a6]
                by_cases a7 : 128 ≤ R ∧ (false = true ∨ R ≤ 159)
                · rw [if_pos a7]
                  have b1 : 128 ≤ R := a7.1
                  have b2 : R ≤ 159 := by rcases a7.2 with h | h; cases h; exact h
                  rw [if_pos (by omega), hexP_four R (by omega) (by omega)]
                  -- two bytes
                  have hv : ¬ ((Lib.decodeL (x :: t)).1 = 65533 ∧ (Lib.decodeL (x :: t)).2 = 1) := by
                    rw [Lib.decodeL_N]
                    have : Lib.decodeN (x :: t).length (gd (x :: t) 0) (gd (x :: t) 1) (gd (x :: t) 2) (gd (x :: t) 3) = (R, N) := by
                      rw [← hpair]; unfold dec; rw [if_neg h0]
                    unfold gd at this
                    rw [this]
                    exact a1
                  have hd0 : Lib.decodeN (x :: t).length (gd (x :: t) 0) (gd (x :: t) 1) (gd (x :: t) 2) (gd (x :: t) 3) = (R, N) := by
                    rw [← hpair]; unfold dec; rw [if_neg h0]
                  have he := Lib.encode_decode (x :: t) hne hv
                  have hd1 : Lib.decodeL (x :: t) = (R, N) := by rw [Lib.decodeL_N]; unfold gd at hd0; exact hd0
                  rw [hd1] at he
                  unfold Lib.encodeRune at he
                  rw [Lib.encodeRuneZ_two (by omega) (by omega)] at he
                  have hl2 := congrArg List.length he
                  simp only [List.map_cons, List.map_nil, List.length_cons, List.length_nil, List.length_take] at hl2
                  have hle' : N ≤ t.length + 1 := by simpa using hle.2
                  have hN2 : N = 2 := by omega
                  subst hN2
                  obtain ⟨y, t', rfl⟩ : ∃ y t', t = y :: t' := by cases t with
                    | nil => simp at hle
                    | cons y t' => exact ⟨y, t', rfl⟩
                  simp only [List.map_cons, List.map_nil, List.take_succ_cons, List.take_zero, List.cons.injEq, and_true] at he
                  obtain ⟨e1, e2⟩ := he
                  have x1 : x = UInt8.ofNat 194 := by rw [← e1]; congr 1; omega
                  have y1 : y = UInt8.ofNat R := by rw [← e2]; congr 1; omega
                  have := Meets.uni (T := T) R b1 b2 t'
                  rw [← x1, ← y1] at this
                  simpa using this
                · rw [if_neg a7]
                  have hN' : N + pre ((x :: t).drop N) ≤ (x :: t).length := by
                    have := pre_le ((x :: t).drop N)
                    rw [List.length_drop] at this
                    omega
                  rw [List.append_assoc]
                  refine Meets.plain (x :: t) R N hne ⟨by omega, a3, by omega, by omega, a1⟩ hR ⟨hle.1, h4⟩ ?_ hN' ?_
                  · rw [dec_stable (x :: t) _ _ hne (by rw [hRe, hNe]; exact a1) (by rw [hNe]; omega) hN', hpair]
                  · rw [List.drop_append_of_le_length (by rw [List.length_take]; omega), List.drop_take, Nat.add_sub_cancel_left]
                    rw [pre_app _ _ (pre_all _) ?_, List.length_take, List.length_drop]
                    · have := pre_le ((x :: t).drop N)
                      rw [List.length_drop] at this
                      omega
                    · refine encL_head _ T fun c X h => ?_
                      rw [← List.drop_drop] at h
                      exact pre_next _ c X h
end Go.Proofs.YtmijjppjodpagaaGreatDoor

namespace Go.Proofs.YtmijjppjodpagaaGreatDoor
open Go.RowKit

/-- A token as plain data: its kind, its name's kind, whether a colon follows, its bytes, its name. -/
structure TT where
  kind : Nat
  nk : Nat
  sep : Bool
  raw : List UInt8
  str : List UInt8

/-- The tokens that a Decoder reads from bytes, where k is the kind of the token ahead (0: none). -/
inductive Reads : Nat → List UInt8 → List TT → Prop
  | eof (k : Nat) (hk : k = 0 ∨ k = 3) : Reads k [] []
  | name (k : Nat) (nm T : List UInt8) (ts : List TT) (hk : k = 0 ∨ k = 3) (h0 : nm ≠ []) (hl : ∀ c ∈ nm, Letter c) (hn : nm.length ≤ 1000000) (hs : ∀ r, skip T ≠ 35 :: r) (h : Reads 2 (skip T) ts) :
      Reads k (nm ++ 58 :: T) (⟨2, 1, true, nm, nm⟩ :: ts)
  | str (l T : List UInt8) (ts : List TT) (hl : l.length ≤ 1000000) (hs : ∀ r, skip T ≠ 35 :: r) (hq : ∀ c r, skip T = c :: r → c.toNat ≠ 34 ∧ c.toNat ≠ 39) (h : Reads 3 (skip T) ts) :
      Reads 2 (quote false l ++ T) (⟨3, 0, false, (quote false l ++ T).take ((quote false l ++ T).length - (skip T).length), []⟩ :: ts)
  | one : Reads 2 [49] [⟨3, 0, false, [49], []⟩]

theorem letter_skip {x : UInt8} (h : Letter x) (l : List UInt8) : skip (x :: l) = x :: l := by
  rw [skip_cons]
  have : isSp x = false := by
    unfold isSp
    rcases h with h | h | h <;> simp <;> omega
  rw [this]; rfl
theorem letter_ne35 {x : UInt8} (h : Letter x) : x ≠ 35 := by
  intro e; subst e
  rcases h with h | h | h <;> simp at h
theorem letter_nq {x : UInt8} (h : Letter x) : x.toNat ≠ 34 ∧ x.toNat ≠ 39 := by
  rcases h with h | h | h <;> omega

/-- A message of texts, written by hand. -/
def msgB : List (List UInt8 × List UInt8) → List UInt8
  | [] => []
  | (n, t) :: r => n ++ 58 :: (32 :: (quote false t ++ 10 :: msgB r))
/-- Its tokens. -/
def msgT : List (List UInt8 × List UInt8) → List TT
  | [] => []
  | (n, t) :: r => ⟨2, 1, true, n, n⟩ :: ⟨3, 0, false, quote false t ++ [10], []⟩ :: msgT r
def MsgOk (fs : List (List UInt8 × List UInt8)) : Prop := ∀ p ∈ fs, p.1 ≠ [] ∧ (∀ c ∈ p.1, Letter c) ∧ p.1.length ≤ 1000000 ∧ p.2.length ≤ 1000000

/-- A message begins with a letter, or is empty. -/
theorem msg_head : ∀ fs, MsgOk fs → msgB fs = [] ∨ ∃ x r, msgB fs = x :: r ∧ Letter x := by
  intro fs h
  cases fs with
  | nil => exact .inl rfl
  | cons p r =>
    obtain ⟨n, t⟩ := p
    obtain ⟨h0, hl, _, _⟩ := h _ List.mem_cons_self
    cases n with
    | nil => exact absurd rfl h0
    | cons x n => exact .inr ⟨x, _, rfl, hl x (by simp)⟩
theorem msg_skip (fs : List (List UInt8 × List UInt8)) (h : MsgOk fs) : skip (10 :: msgB fs) = msgB fs := by
  rw [skip_cons]
  have : isSp 10 = true := by decide
  rw [this]
  rcases msg_head fs h with e | ⟨x, r, e, hx⟩
  · rw [e]; rfl
  · rw [e]; exact letter_skip hx r
theorem quote_skip (l T : List UInt8) : skip (32 :: (quote false l ++ T)) = quote false l ++ T := by
  rw [skip_cons]
  have : isSp 32 = true := by decide
  rw [this]
  show skip (34 :: _) = 34 :: _
  rw [skip_cons]
  have : isSp 34 = false := by decide
  rw [this]; rfl

theorem msg_reads : ∀ (fs : List (List UInt8 × List UInt8)) (k : Nat), (k = 0 ∨ k = 3) → MsgOk fs → Reads k (msgB fs) (msgT fs) := by
  intro fs
  induction fs with
  | nil => intro k hk _; exact .eof k hk
  | cons p r ih =>
    intro k hk h
    obtain ⟨n, t⟩ := p
    obtain ⟨h0, hl, hn, ht⟩ := h _ List.mem_cons_self
    have hr : MsgOk r := fun q hq => h q (List.mem_cons_of_mem _ hq)
    have hsk := msg_skip r hr
    have h2 : Reads 2 (quote false t ++ 10 :: msgB r) (⟨3, 0, false, quote false t ++ [10], []⟩ :: msgT r) := by
      have e : (quote false t ++ 10 :: msgB r).take ((quote false t ++ 10 :: msgB r).length - (skip (10 :: msgB r)).length) = quote false t ++ [10] := by
        rw [hsk]
        have e2 : quote false t ++ 10 :: msgB r = (quote false t ++ [10]) ++ msgB r := by simp
        rw [e2, List.length_append, Nat.add_sub_cancel, List.take_left]
      rw [← e]
      refine .str t (10 :: msgB r) _ ht ?_ ?_ (by rw [hsk]; exact ih 3 (.inr rfl) hr)
      · rw [hsk]
        intro z hz
        rcases msg_head r hr with e | ⟨x, y, e, hx⟩
        · rw [e] at hz; cases hz
        · rw [e] at hz; cases hz; exact letter_ne35 hx rfl
      · rw [hsk]
        intro c z hz
        rcases msg_head r hr with e | ⟨x, y, e, hx⟩
        · rw [e] at hz; cases hz
        · rw [e] at hz; cases hz; exact letter_nq hx
    refine .name k n (32 :: (quote false t ++ 10 :: msgB r)) _ hk h0 hl hn ?_ (by rw [quote_skip]; exact h2)
    rw [quote_skip]
    intro z hz
    cases hz

theorem one_reads : Reads 0 [97, 58, 32, 49] [⟨2, 1, true, [97], [97]⟩, ⟨3, 0, false, [49], []⟩] := by
  refine .name 0 [97] [32, 49] _ (.inl rfl) (by simp) (by intro c hc; simp at hc; subst hc; exact .inr (.inl (by decide))) (by simp) ?_ ?_
  · rw [show skip [32, 49] = [49] from by decide]
    intro r hr
    cases hr
  · rw [show skip [32, 49] = [49] from by decide]
    exact .one

theorem msgT_length (fs : List (List UInt8 × List UInt8)) : (msgT fs).length = 2 * fs.length := by
  induction fs with
  | nil => rfl
  | cons p r ih => obtain ⟨n, t⟩ := p; simp only [msgT, List.length_cons, ih]; omega
theorem msgT_get : ∀ (fs : List (List UInt8 × List UInt8)) (i : Nat) (n t : List UInt8), fs[i]? = some (n, t) →
    (msgT fs)[2 * i]? = some ⟨2, 1, true, n, n⟩ ∧ (msgT fs)[2 * i + 1]? = some ⟨3, 0, false, quote false t ++ [10], []⟩ := by
  intro fs
  induction fs with
  | nil => intro i n t h; simp at h
  | cons p r ih =>
    intro i n t h
    obtain ⟨a, b⟩ := p
    cases i with
    | zero => simp at h; obtain ⟨rfl, rfl⟩ := h; exact ⟨rfl, rfl⟩
    | succ i =>
      have h2 := ih i n t (by simpa using h)
      exact h2
end Go.Proofs.YtmijjppjodpagaaGreatDoor

namespace Go.Proofs.YtmijjppjodpagaaGreatDoor

theorem hexP_le (k n : Nat) (h : k ≤ 16) : (hexP k n).length ≤ 16 := by
  unfold hexP
  rw [List.length_append, List.length_replicate]
  have h1 : (hexD n).length ≤ 16 := hexF_len 16 n
  omega
theorem encStep_len (ascii : Bool) (l : List UInt8) (h : l.length ≠ 0) : (encStep ascii l).1.length ≤ 18 * (encStep ascii l).2 := by
  have h1 := dec_le l h
  have p2 := fun n => hexP_le 2 n (by omega)
  have p4 := fun n => hexP_le 4 n (by omega)
  have p8 := fun n => hexP_le 8 n (by omega)
  unfold encStep
  simp only
  repeat' split
  all_goals simp only [List.length_cons, List.length_nil, List.length_take]
  · have := p2 (gd l 0); omega
  · omega
  · omega
  · omega
  · omega
  · have := p2 (dec l).1; omega
  · have := p4 (dec l).1; omega
  · have := p8 (dec l).1; omega
  · omega
theorem encL_len (ascii : Bool) : ∀ (k : Nat) (l : List UInt8), l.length ≤ k → (encL ascii l).length ≤ 18 * l.length
  | 0, l, h => by
    have : l = [] := List.eq_nil_of_length_eq_zero (by omega)
    subst this
    simp [encL_nil]
  | k + 1, l, h => by
    by_cases h0 : l.length = 0
    · have : l = [] := List.eq_nil_of_length_eq_zero h0
      subst this
      simp [encL_nil]
    · have hs := encStep_le ascii l h0
      rw [encL_step ascii l h0, List.length_append]
      have h1 := encStep_len ascii l h0
      have h2 := encL_len ascii k (l.drop (encStep ascii l).2) (by rw [List.length_drop]; omega)
      rw [List.length_drop] at h2
      omega
theorem quote_len (ascii : Bool) (l : List UInt8) : (quote ascii l).length ≤ 18 * l.length + 2 := by
  unfold quote
  rw [enc_eq]
  have hp := pre_le l
  have h1 := encL_len ascii _ (l.drop (pre l)) (Nat.le_refl _)
  rw [List.length_drop] at h1
  simp only [List.length_cons, List.length_append, List.length_nil, List.length_take]
  omega

/-- A field that the law speaks of. -/
def QOk (p : List UInt8 × List UInt8) : Prop := p.1 ≠ [] ∧ (∀ c ∈ p.1, Letter c) ∧ p.1.length ≤ 100 ∧ p.2.length ≤ 1000
theorem msgOk_of {fs : List (List UInt8 × List UInt8)} (h : ∀ p ∈ fs, QOk p) : MsgOk fs := fun p hp => ⟨(h p hp).1, (h p hp).2.1, by have := (h p hp).2.2.1; omega, by have := (h p hp).2.2.2; omega⟩
theorem msgB_append : ∀ (a b : List (List UInt8 × List UInt8)), msgB (a ++ b) = msgB a ++ msgB b
  | [], b => rfl
  | (n, t) :: r, b => by
    simp only [List.cons_append, msgB, msgB_append r b, List.append_assoc, List.cons_append]
theorem msgB_one (n t : List UInt8) : msgB [(n, t)] = ((n ++ [58, 32]) ++ quote false t) ++ [10] := by simp [msgB]
theorem msgB_len : ∀ (fs : List (List UInt8 × List UInt8)), (∀ p ∈ fs, QOk p) → (msgB fs).length ≤ 18200 * fs.length
  | [], _ => by simp [msgB]
  | (n, t) :: r, h => by
    have h1 := h (n, t) List.mem_cons_self
    have h2 := msgB_len r (fun p hp => h p (List.mem_cons_of_mem _ hp))
    have h3 := quote_len false t
    have h4 := h1.2.2.1
    have h5 := h1.2.2.2
    simp only at h4 h5
    simp only [msgB, List.length_append, List.length_cons]
    omega
/-- The fields: names beside texts. -/
theorem zip_get {ns ts : List (List UInt8)} (hl : ns.length = ts.length) (k : Nat) (hk : k < ns.length) : (ns.zip ts)[k]? = some (ns[k], ts[k]'(by omega)) := by
  rw [List.getElem?_eq_getElem (by rw [List.length_zip]; omega), List.getElem_zip]
theorem zip_take {ns ts : List (List UInt8)} (hl : ns.length = ts.length) (k : Nat) (hk : k < ns.length) : (ns.zip ts).take (k + 1) = (ns.zip ts).take k ++ [(ns[k], ts[k]'(by omega))] := by
  rw [List.take_add_one, zip_get hl k hk]
  rfl
theorem zip_all {ns ts : List (List UInt8)} (hl : ns.length = ts.length) : (ns.zip ts).take ns.length = ns.zip ts := by
  rw [List.take_of_length_le (by rw [List.length_zip]; omega)]
end Go.Proofs.YtmijjppjodpagaaGreatDoor

namespace Go.Proofs.YtmijjppjodpagaaGreatDoor
open Go.RowKit
/-- An operation of the nine, with numbers of their kinds. -/
structure OpFit (o : OpV) : Prop where
  op : 1 ≤ o.op ∧ o.op ≤ 9
  s : o.s.size ≤ 1048576
  i : -9223372036854775808 ≤ o.i ∧ o.i ≤ 9223372036854775807
  u : o.u < 18446744073709551616
  f : o.f < 18446744073709551616
  size : o.op = 4 → o.size = 64 ∨ (o.size = 32 ∧ FOk o.f)
theorem opSay_ex (PT : Nat → Nat × Nat) (hPT : ∀ i, i < 696 → (PT i).1 < 18446744073709551616 ∧ (PT i).2 < 18446744073709551616) (o : OpV) (h : OpFit o) :
    ∃ x : Nat × List UInt8, OpSay PT o x.1 x.2 ∧ x.2.length ≤ 20000000 ∧ (o.op = 1 → x.2 ≠ []) := by
  obtain ⟨h1, h2, h3, h4, h5, h6⟩ := h
  obtain ⟨op, s, b, i, u, f, size⟩ := o
  obtain ⟨s, rfl⟩ : ∃ l, s = mk l := ⟨s.data.toList, (mk_of s).symm⟩
  simp only [mk_size] at h1 h2 h3 h4 h5 h6
  have hop : op = 1 ∨ op = 2 ∨ op = 3 ∨ op = 4 ∨ op = 5 ∨ op = 6 ∨ op = 7 ∨ op = 8 ∨ op = 9 := by omega
  rcases hop with rfl | rfl | rfl | rfl | rfl | rfl | rfl | rfl | rfl
  · exact ⟨(1, s ++ [58]), do_1 PT s b i u f size h2, by simp; omega, fun _ => by simp⟩
  · have hl : ∀ b : Bool, (if b then ([116, 114, 117, 101] : List UInt8) else [102, 97, 108, 115, 101]).length ≤ 20000000 := by
      intro b
      cases b <;> decide
    exact ⟨(2, if b then [116, 114, 117, 101] else [102, 97, 108, 115, 101]), do_2 PT s b i u f size, hl b, fun h => by cases h⟩
  · exact ⟨(2, quote false s), do_3 PT s b i u f size h2, by have := quote_len false s; show (quote false s).length ≤ 20000000; omega, fun h => by cases h⟩
  · rcases h6 rfl with rfl | ⟨rfl, hf⟩
    · obtain ⟨T, hT, hs⟩ := appendFloat64_ex PT hPT f h5
      exact ⟨(2, T), do_4 PT s b i u f 64 T (by omega) hs, by show T.length ≤ 20000000; omega, fun h => by cases h⟩
    · obtain ⟨T, hT, hs⟩ := appendFloat32_ex PT hPT f hf
      exact ⟨(2, T), do_4 PT s b i u f 32 T (by omega) hs, by show T.length ≤ 20000000; omega, fun h => by cases h⟩
  · obtain ⟨T, hT, hs⟩ := appendInt_ex i h3.1 h3.2
    exact ⟨(2, T), do_5 PT s b i u f size T (by omega) hs, by show T.length ≤ 20000000; omega, fun h => by cases h⟩
  · obtain ⟨T, hT, hs⟩ := appendUint_ex u h4
    exact ⟨(2, T), do_6 PT s b i u f size T (by omega) hs, by show T.length ≤ 20000000; omega, fun h => by cases h⟩
  · exact ⟨(2, s), do_7 PT s b i u f size h2, by show s.length ≤ 20000000; omega, fun h => by cases h⟩
  · exact ⟨(4, _), do_8 PT s b i u f size, by simp, fun h => by cases h⟩
  · exact ⟨(8, _), do_9 PT s b i u f size, by simp, fun h => by cases h⟩
/-- The texts of a list of operations. -/
theorem allSay_ex (PT : Nat → Nat × Nat) (hPT : ∀ i, i < 696 → (PT i).1 < 18446744073709551616 ∧ (PT i).2 < 18446744073709551616) : ∀ (ops : List OpV), (∀ o ∈ ops, OpFit o) → ops.length ≤ 10000 → ∃ rs, AllSay PT ops rs ∧ ∀ j (h : j < ops.length) (h' : j < rs.length), ops[j].op = 1 → (rs[j]).2 ≠ []
  | [], _, _ => ⟨[], ⟨rfl, fun j h => absurd h (by simp), fun x hx => (by cases hx), (by simp)⟩, fun j h => absurd h (by simp)⟩
  | o :: ops, h, hl => by
    obtain ⟨rs, hr, hn⟩ := allSay_ex PT hPT ops (fun x hx => h x (List.mem_cons_of_mem _ hx)) (by simp at hl; omega)
    obtain ⟨x, hx, hx2, hx3⟩ := opSay_ex PT hPT o (h o List.mem_cons_self)
    refine ⟨x :: rs, ⟨by simp [hr.len], fun j h1 h2 => ?_, fun y hy => ?_, by rw [List.length_cons, ← hr.len]; simpa using hl⟩, fun j h1 h2 ho => ?_⟩
    · cases j with
      | zero => exact hx
      | succ j => exact hr.say j (by simpa using h1) (by simpa using h2)
    · rcases List.mem_cons.1 hy with rfl | hy
      · exact hx2
      · exact hr.small y hy
    · cases j with
      | zero => exact hx3 ho
      | succ j => exact hn j (by simpa using h1) (by simpa using h2) ho
/-- What is written is empty exactly where there is no operation (the first is a name). -/
theorem emit_ne {PT : Nat → Nat × Nat} {ops : List OpV} {rs : List (Nat × List UInt8)} (hr : AllSay PT ops rs) (hn : ∀ j (h : j < ops.length) (h' : j < rs.length), ops[j].op = 1 → (rs[j]).2 ≠ []) (h0 : 0 < ops.length) (h1 : ops[0].op = 1) : 0 < (emit 0 rs).length := by
  have hl := hr.len
  cases rs with
  | nil => simp at hl; rw [hl] at h0; simp at h0
  | cons x rs =>
    have h2 := hn 0 h0 (by simp) h1
    obtain ⟨nx, T⟩ := x
    simp only [List.getElem_cons_zero] at h2
    have h3 : 0 < T.length := List.length_pos_iff.2 h2
    simp only [emit, List.length_append]
    omega
end Go.Proofs.YtmijjppjodpagaaGreatDoor

namespace Go.Proofs.YtmijjppjodpagaaGreatDoor
open Go.RowKit
/-- The type of a field of the message type t. -/
def ftOf (S : Sch) (t at_ : Int) : Option FT := (S.msgs[t.toNat]?).bind fun M => M.fields[at_.toNat]?
def valsOf (inner : Int → List (Int × List PV) → List OpV) (S : Sch) (f : FT) : PV → List OpV
  | .mk b i u g s msg => nameOp f :: valOps inner S f.kind f.type b i u g s msg
def fieldOps (inner : Int → List (Int × List PV) → List OpV) (S : Sch) (t : Int) (q : Int × List PV) : List OpV :=
  match ftOf S t q.1 with
  | none => []
  | some f => (q.2.map (valsOf inner S f)).flatten
/-- The operations of a message of the type t, on d levels. -/
def opsM (S : Sch) : Nat → Int → List (Int × List PV) → List OpV
  | 0, _, _ => []
  | d + 1, t, fs => (fs.map (fieldOps (opsM S d) S t)).flatten
theorem opsM_take (S : Sch) (d : Nat) (t : Int) (fs : List (Int × List PV)) (k : Nat) : opsM S (d + 1) t (fs.take k) <+: opsM S (d + 1) t fs := by
  refine ⟨opsM S (d + 1) t (fs.drop k), ?_⟩
  simp only [opsM]
  rw [← List.flatten_append, ← List.map_append, List.take_append_drop]
theorem opsM_succ (S : Sch) (d : Nat) (t : Int) (fs : List (Int × List PV)) (k : Nat) (hk : k < fs.length) : opsM S (d + 1) t (fs.take (k + 1)) = opsM S (d + 1) t (fs.take k) ++ fieldOps (opsM S d) S t fs[k] := by
  simp only [opsM]
  rw [List.take_succ_eq_append_getElem hk, List.map_append, List.flatten_append]
  simp
theorem valOps_len (inner : Int → List (Int × List PV) → List OpV) (S : Sch) (kind type : Int) (b : Bool) (i : Int) (u g : Nat) (s : ByteArray) (msg : List (Int × List PV)) : (valOps inner S kind type b i u g s msg).length ≤ 2 + (inner type msg).length := by
  unfold valOps
  by_cases h8 : kind = 8
  · rw [if_pos h8]; show 1 ≤ _; omega
  rw [if_neg h8]
  by_cases h9 : kind = 9
  · rw [if_pos h9]; show 1 ≤ _; omega
  rw [if_neg h9]
  by_cases h12 : kind = 12
  · rw [if_pos h12]; show 1 ≤ _; omega
  rw [if_neg h12]
  by_cases h2 : kind = 2
  · rw [if_pos h2]; show 1 ≤ _; omega
  rw [if_neg h2]
  by_cases h1 : kind = 1
  · rw [if_pos h1]; show 1 ≤ _; omega
  rw [if_neg h1]
  by_cases h13 : kind = 13
  · rw [if_pos h13]; show 1 ≤ _; omega
  rw [if_neg h13]
  by_cases h4 : kind = 4
  · rw [if_pos h4]; show 1 ≤ _; omega
  rw [if_neg h4]
  by_cases h7 : kind = 7
  · rw [if_pos h7]; show 1 ≤ _; omega
  rw [if_neg h7]
  by_cases h6 : kind = 6
  · rw [if_pos h6]; show 1 ≤ _; omega
  rw [if_neg h6]
  by_cases h14 : kind = 14
  · rw [if_pos h14]
    by_cases he : (enumOf S type i).toList = []
    · rw [if_pos he]; show 1 ≤ _; omega
    · rw [if_neg he]; show 1 ≤ _; omega
  rw [if_neg h14]
  by_cases h11 : kind = 11
  · rw [if_pos h11, List.length_cons, List.length_append]
    show (inner type msg).length + 1 + 1 ≤ _
    omega
  rw [if_neg h11]
  show 1 ≤ _
  omega
theorem opsM_len (S : Sch) : ∀ (d : Nat) (t : Int) (fs : List (Int × List PV)), (opsM S d t fs).length ≤ 3 * cntM d fs
  | 0, _, _ => Nat.zero_le _
  | d + 1, t, fs => by
    have hv : ∀ (f : FT) (p : PV), (valsOf (opsM S d) S f p).length ≤ 3 * (1 + cntM d p.msg) := fun f p => by
      obtain ⟨b, i, u, g, s, msg⟩ := p
      have h1 := valOps_len (opsM S d) S f.kind f.type b i u g s msg
      have h2 := opsM_len S d f.type msg
      show (nameOp f :: valOps (opsM S d) S f.kind f.type b i u g s msg).length ≤ 3 * (1 + cntM d msg)
      rw [List.length_cons]
      omega
    have hf : ∀ q : Int × List PV, (fieldOps (opsM S d) S t q).length ≤ 3 * (q.2.map fun p => 1 + cntM d p.msg).sum := fun q => by
      unfold fieldOps
      cases ftOf S t q.1 with
      | none => simp
      | some f =>
        simp only
        induction q.2 with
        | nil => simp
        | cons p ps ih =>
          rw [List.map_cons, List.flatten_cons, List.length_append, List.map_cons, List.sum_cons]
          have := hv f p
          omega
    rw [cntM_succ]
    simp only [opsM]
    induction fs with
    | nil => simp
    | cons q qs ih =>
      rw [List.map_cons, List.flatten_cons, List.length_append, List.map_cons, List.sum_cons]
      have := hf q
      omega
end Go.Proofs.YtmijjppjodpagaaGreatDoor
