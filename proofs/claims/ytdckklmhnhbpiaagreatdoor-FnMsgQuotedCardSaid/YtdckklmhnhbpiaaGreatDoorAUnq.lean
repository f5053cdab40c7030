/-
  What the text form's parser meets in a quoted string: plain functions on lists of bytes; no program is named here.
-/
import Derived.Test.YtdckklmhnhbpiaaGreatDoorAStr
import Derived.Test.YtdckklmhnhbpiaaGreatDoorAParse
import Derived.Test.YtdckklmhnhbpiaaGreatDoorAPre
import Derived.Lib.MapLaws
namespace Go.Proofs.YtdckklmhnhbpiaaGreatDoor

theorem encF_one (k : Nat) (d : Nat) (h : d < 16) : hexF (k + 1) d = [hexc d] := by rw [hexF, if_pos h]
theorem hexD_small (n : Nat) (h : n < 16) : hexD n = [hexc n] := encF_one 15 n h
theorem hexD_two (n : Nat) (h : 16 ≤ n) (h2 : n < 256) : hexD n = [hexc (n / 16), hexc (n % 16)] := by
  unfold hexD
  rw [hexF, if_neg (by omega), encF_one 14 (n / 16) (by omega)]
  rfl
/-- Two digits. -/
theorem hexP_two (n : Nat) (h : n < 256) : hexP 2 n = hexB [n / 16, n % 16] := by
  unfold hexP
  by_cases h16 : n < 16
  · rw [hexD_small n h16, show n / 16 = 0 by omega, show n % 16 = n by omega]
    rfl
  · rw [hexD_two n (by omega) h]
    rfl
theorem hexP_four (n : Nat) (h : n < 256) (h16 : 16 ≤ n) : hexP 4 n = hexB [0, 0, n / 16, n % 16] := by
  unfold hexP
  rw [hexD_two n h16 h]
  rfl

/-- What the parser meets behind the plain bytes: the next piece of the string, or the closing quote. -/
inductive Meets (T : List UInt8) : List UInt8 → List UInt8 → Prop
  | close : Meets T [] (34 :: T)
  | esc (c d : UInt8) (r : List UInt8) (h : (c, d) ∈ [((34 : UInt8), (34 : UInt8)), (92, 92), (110, 10), (114, 13), (116, 9)]) : Meets T (d :: r) (92 :: c :: (encL false r ++ 34 :: T))
  | hex (n : Nat) (hn : n < 256) (r : List UInt8) : Meets T (UInt8.ofNat n :: r) (92 :: 120 :: (hexB [n / 16, n % 16] ++ (encL false r ++ 34 :: T)))
  | uni (n : Nat) (h1 : 128 ≤ n) (h2 : n ≤ 159) (r : List UInt8) : Meets T (UInt8.ofNat 194 :: UInt8.ofNat n :: r) (92 :: 117 :: (hexB [0, 0, n / 16, n % 16] ++ (encL false r ++ 34 :: T)))
  | plain (r : List UInt8) (R n : Nat) (h0 : r ≠ []) (hR : R ≠ 0 ∧ R ≠ 10 ∧ R ≠ 34 ∧ R ≠ 92 ∧ ¬ (R = 65533 ∧ n = 1)) (hR2 : R ≤ 1114111) (hn : 1 ≤ n ∧ n ≤ 4)
      (hd : dec (r.take (n + pre (r.drop n)) ++ (encL false (r.drop (n + pre (r.drop n))) ++ 34 :: T)) = (R, n)) (hN : n + pre (r.drop n) ≤ r.length)
      (hp : pre ((r.take (n + pre (r.drop n)) ++ (encL false (r.drop (n + pre (r.drop n))) ++ 34 :: T)).drop n) = pre (r.drop n)) :
      Meets T r (r.take (n + pre (r.drop n)) ++ (encL false (r.drop (n + pre (r.drop n))) ++ 34 :: T))

/-- The i-th byte does not depend on what follows. -/
theorem gd_append {a b : List UInt8} {i : Nat} (h : i < a.length) : gd (a ++ b) i = gd a i := by
  unfold gd
  rw [List.getD, List.getD, List.getElem?_append_left h]
theorem gd_take {a : List UInt8} {i k : Nat} (h : i < k) : gd (a.take k) i = gd a i := by
  unfold gd
  rw [List.getD, List.getD, List.getElem?_take_of_lt h]

/-- A character that was decoded is decoded again, whatever follows its bytes. -/
theorem dec_stable (r X : List UInt8) (N : Nat) (h0 : r ≠ []) (hv : ¬ ((dec r).1 = 65533 ∧ (dec r).2 = 1)) (hN : (dec r).2 ≤ N) (hN2 : N ≤ r.length) : dec (r.take N ++ X) = dec r := by
  have hl : 0 < r.length := List.length_pos_iff.2 h0
  have hle := dec_le r (by omega)
  have hlen : (r.take N).length = N := by rw [List.length_take]; omega
  have hlen2 : (r.take N ++ X).length ≠ 0 := by rw [List.length_append, hlen]; omega
  have hg : ∀ i, i < N → gd (r.take N ++ X) i = gd r i := fun i hi => by rw [gd_append (by omega), gd_take hi]
  have hge : N ≤ (r.take N ++ X).length := by rw [List.length_append, hlen]; omega
  unfold dec at hv hN ⊢
  rw [if_neg (show ¬ r.length = 0 by omega)] at hv hN ⊢
  rw [if_neg hlen2]
  generalize (r.take N ++ X).length = L at *
  rcases Lib.decodeN_shape r.length (gd r 0) (gd r 1) (gd r 2) (gd r 3) with ⟨c, e⟩ | ⟨c1, c2, c3, cv, e⟩ | ⟨c1, c2, c3, c4, cv, cs, e⟩ | ⟨c1, c2, c3, c4, c5, cv, cw, e⟩ | e
  · rw [e] at hN ⊢
    rw [hg 0 (by simp only at hN; omega)]
    unfold Lib.decodeN
    rw [if_pos c]
  · rw [e] at hN ⊢
    simp only at hN
    rw [hg 0 (by omega), hg 1 (by omega)]
    unfold Lib.decodeN
    rw [if_neg (by omega), if_pos ⟨c1, by omega, c3⟩, if_pos cv]
  · rw [e] at hN ⊢
    simp only at hN
    rw [hg 0 (by omega), hg 1 (by omega), hg 2 (by omega)]
    unfold Lib.decodeN
    rw [if_neg (by omega), if_neg (by omega), if_pos ⟨c1, ⟨by omega, c3⟩, by omega, c4⟩, if_pos ⟨cv, by omega⟩]
  · rw [e] at hN ⊢
    simp only at hN
    rw [hg 0 (by omega), hg 1 (by omega), hg 2 (by omega), hg 3 (by omega)]
    unfold Lib.decodeN
    rw [if_neg (by omega), if_neg (by omega), if_neg (by omega), if_pos ⟨c1, ⟨by omega, c3⟩, ⟨by omega, c4⟩, by omega, c5⟩, if_pos ⟨cv, by omega⟩]
  · rw [e] at hv
    exact absurd ⟨rfl, rfl⟩ hv

/-- How many plain bytes are at the head of plain bytes and more. -/
theorem pre_app : ∀ (p : List UInt8) (X : List UInt8), (∀ c ∈ p, plainC c = true) → (∀ c X', X = c :: X' → plainC c = false) → pre (p ++ X) = p.length
  | [], X, _, h => by
    cases X with
    | nil => rfl
    | cons c X => rw [List.nil_append, pre_drop_cons, h c X rfl]; rfl
  | c :: p, X, hp, h => by
    rw [List.cons_append, pre_drop_cons, hp c (by simp), if_pos rfl, pre_app p X (fun c hc => hp c (by simp [hc])) h]
    rfl
theorem pre_all : ∀ (l : List UInt8), ∀ c ∈ l.take (pre l), plainC c = true
  | [], c, h => by simp at h
  | x :: l, c, h => by
    rw [pre_drop_cons] at h
    split at h
    · rename_i hx
      rw [List.take_succ_cons, List.mem_cons] at h
      rcases h with rfl | h
      · exact hx
      · exact pre_all l c h
    · simp at h
theorem pre_next (l : List UInt8) (c : UInt8) (X : List UInt8) (h : l.drop (pre l) = c :: X) : plainC c = false := by
  have hlt : pre l < l.length := by
    rcases Nat.lt_or_ge (pre l) l.length with h1 | h1
    · exact h1
    · rw [List.drop_eq_nil_of_le h1] at h; cases h
  have := (pre_step l (pre l) hlt (Nat.le_refl _))
  rw [List.drop_eq_getElem_cons hlt] at h
  cases h
  cases hp : plainC l[pre l] with
  | false => rfl
  | true => have := this.1 hp; omega

theorem encL_head (r T : List UInt8) (hr : ∀ c X, r = c :: X → plainC c = false) : ∀ c X, encL false r ++ 34 :: T = c :: X → plainC c = false := by
  intro c X h
  by_cases h0 : r.length = 0
  · obtain rfl : r = [] := List.eq_nil_of_length_eq_zero h0
    rw [encL_nil] at h
    cases h
    rfl
  · rw [encL_step false r h0] at h
    have hle := dec_le r h0
    obtain ⟨x, X', rfl⟩ : ∃ x X', r = x :: X' := by cases r with
      | nil => simp at h0
      | cons x X' => exact ⟨x, X', rfl⟩
    have hx := hr x X' rfl
    revert h
    unfold encStep
    simp only
    repeat' split
    all_goals (simp only [List.cons_append]; intro h)
    all_goals first
      | (cases h; rfl)
      | (obtain ⟨k, hk⟩ : ∃ k, (dec (x :: X')).2 + pre ((x :: X').drop (dec (x :: X')).2) = k + 1 := ⟨(dec (x :: X')).2 + pre ((x :: X').drop (dec (x :: X')).2) - 1, by omega⟩
         rw [hk, List.take_succ_cons, List.cons_append, List.cons_append] at h
         cases h
         exact hx)
/-- What stands for the rest of a string, and the closing quote, is the parser's next piece. -/
theorem meets (r T : List UInt8) : Meets T r (encL false r ++ 34 :: T) := by
  by_cases h0 : r.length = 0
  · obtain rfl : r = [] := List.eq_nil_of_length_eq_zero h0
    exact .close
  · have hle := dec_le r h0
    have h4 := dec_four r
    have hR := dec_rune r
    have hasc := dec_ascii r h0
    obtain ⟨x, t, rfl⟩ : ∃ x t, r = x :: t := by cases r with
      | nil => simp at h0
      | cons x t => exact ⟨x, t, rfl⟩
    have hgx : gd (x :: t) 0 = x.toNat := rfl
    have hx256 : x.toNat < 256 := x.toNat_lt
    have hne : (x :: t) ≠ [] := by simp
    rw [hgx] at hasc
    rw [encL_step false (x :: t) h0]
    obtain ⟨R, hRe⟩ : ∃ R, (dec (x :: t)).1 = R := ⟨_, rfl⟩
    obtain ⟨N, hNe⟩ : ∃ N, (dec (x :: t)).2 = N := ⟨_, rfl⟩
    have hpair : dec (x :: t) = (R, N) := by rw [← hRe, ← hNe]
    have one : R < 128 → x.toNat = R ∧ N = 1 := fun h => by
      have h1 := hasc.1.1 (by rw [hRe]; exact h)
      have h2 := hasc.2 h1
      rw [hpair] at h2
      exact ⟨(congrArg Prod.fst h2).symm, congrArg Prod.snd h2⟩
    rw [encStep_eq false (x :: t) hRe hNe hgx]
    rw [hNe] at hle h4
    rw [hRe] at hR
    have hxe : ∀ n, x.toNat = n → x = UInt8.ofNat n := fun n h => by rw [← h]; simp
    by_cases a1 : R = 65533 ∧ N = 1
    · rw [if_pos a1]
      rw [hexP_two _ hx256]
      have := Meets.hex (T := T) x.toNat hx256 t
      simpa using this
    · rw [if_neg a1]
      have single : ∀ c, R < 128 → R = c → (x = UInt8.ofNat c ∧ (x :: t).drop N = t) := fun c h hc => by
        obtain ⟨h1, h2⟩ := one h
        rw [h2]
        exact ⟨hxe c (by omega), rfl⟩
      by_cases a2 : R = 34 ∨ R = 92
      · rw [if_pos a2]
        rcases a2 with a2 | a2
        · obtain ⟨h1, h2⟩ := single 34 (by omega) a2
          simp only [h2]
          rw [h1, a2]
          exact Meets.esc 34 34 t (by decide)
        · obtain ⟨h1, h2⟩ := single 92 (by omega) a2
          simp only [h2]
          rw [h1, a2]
          exact Meets.esc 92 92 t (by decide)
      · rw [if_neg a2]
        by_cases a3 : R = 10
        · rw [if_pos a3]
          obtain ⟨h1, h2⟩ := single 10 (by omega) a3
          simp only [h2]
          rw [h1]
          exact Meets.esc 110 10 t (by decide)
        · rw [if_neg a3]
          by_cases a4 : R = 13
          · rw [if_pos a4]
            obtain ⟨h1, h2⟩ := single 13 (by omega) a4
            simp only [h2]
            rw [h1]
            exact Meets.esc 114 13 t (by decide)
          · rw [if_neg a4]
            by_cases a5 : R = 9
            · rw [if_pos a5]
              obtain ⟨h1, h2⟩ := single 9 (by omega) a5
              simp only [h2]
              rw [h1]
              exact Meets.esc 116 9 t (by decide)
            · rw [if_neg a5]
              by_cases a6 : R < 32 ∨ R = 127
              · rw [if_pos a6]
                obtain ⟨h1, h2⟩ := single R (by omega) rfl
                rw [hexP_two _ (by omega)]
                simp only [h2]
                rw [h1]
                have := Meets.hex (T := T) R (by omega) t
                simpa using this
              · rw [if_neg a6]
                by_cases a7 : 128 ≤ R ∧ (false = true ∨ R ≤ 159)
                · rw [if_pos a7]
                  have b1 : 128 ≤ R := a7.1
                  have b2 : R ≤ 159 := by rcases a7.2 with h | h; cases h; exact h
                  rw [if_pos (by omega), hexP_four R (by omega) (by omega)]
                  -- two bytes
                  have hv : ¬ ((Lib.decodeL (x :: t)).1 = 65533 ∧ (Lib.decodeL (x :: t)).2 = 1) := by
                    rw [Lib.decodeL_N]
                    have : Lib.decodeN (x :: t).length (gd (x :: t) 0) (gd (x :: t) 1) (gd (x :: t) 2) (gd (x :: t) 3) = (R, N) := by
                      rw [← hpair]; unfold dec; rw [if_neg h0]
                    unfold gd at this
                    rw [this]
                    exact a1
                  have hd0 : Lib.decodeN (x :: t).length (gd (x :: t) 0) (gd (x :: t) 1) (gd (x :: t) 2) (gd (x :: t) 3) = (R, N) := by
                    rw [← hpair]; unfold dec; rw [if_neg h0]
                  have he := Lib.encode_decode (x :: t) hne hv
                  have hd1 : Lib.decodeL (x :: t) = (R, N) := by rw [Lib.decodeL_N]; unfold gd at hd0; exact hd0
                  rw [hd1] at he
                  unfold Lib.encodeRune at he
                  rw [Lib.encodeRuneZ_two (by omega) (by omega)] at he
                  have hl2 := congrArg List.length he
                  simp only [List.map_cons, List.map_nil, List.length_cons, List.length_nil, List.length_take] at hl2
                  have hle' : N ≤ t.length + 1 := by simpa using hle.2
                  have hN2 : N = 2 := by omega
                  subst hN2
                  obtain ⟨y, t', rfl⟩ : ∃ y t', t = y :: t' := by cases t with
                    | nil => simp at hle
                    | cons y t' => exact ⟨y, t', rfl⟩
                  simp only [List.map_cons, List.map_nil, List.take_succ_cons, List.take_zero, List.cons.injEq, and_true] at he
                  obtain ⟨e1, e2⟩ := he
                  have x1 : x = UInt8.ofNat 194 := by rw [← e1]; congr 1; omega
                  have y1 : y = UInt8.ofNat R := by rw [← e2]; congr 1; omega
                  have := Meets.uni (T := T) R b1 b2 t'
                  rw [← x1, ← y1] at this
                  simpa using this
                · rw [if_neg a7]
                  have hN' : N + pre ((x :: t).drop N) ≤ (x :: t).length := by
                    have := pre_le ((x :: t).drop N)
                    rw [List.length_drop] at this
                    omega
                  rw [List.append_assoc]
                  refine Meets.plain (x :: t) R N hne ⟨by omega, a3, by omega, by omega, a1⟩ hR ⟨hle.1, h4⟩ ?_ hN' ?_
                  · rw [dec_stable (x :: t) _ _ hne (by rw [hRe, hNe]; exact a1) (by rw [hNe]; omega) hN', hpair]
                  · rw [List.drop_append_of_le_length (by rw [List.length_take]; omega), List.drop_take, Nat.add_sub_cancel_left]
                    rw [pre_app _ _ (pre_all _) ?_, List.length_take, List.length_drop]
                    · have := pre_le ((x :: t).drop N)
                      rw [List.length_drop] at this
                      omega
                    · refine encL_head _ T fun c X h => ?_
                      rw [← List.drop_drop] at h
                      exact pre_next _ c X h
end Go.Proofs.YtdckklmhnhbpiaaGreatDoor
