/-
  Floats, plain: what the shortest format picks rounds back to the float.
-/
import Derived.Test.YtonegoemmologaaGreatDoorM03
set_option linter.unusedVariables false
set_option linter.unusedSimpArgs false
namespace Go.Proofs.YtonegoemmologaaGreatDoor.Fl
/-! What the shortest format hands back lies in the numbers that round to the float. -/
theorem ceil_even (n d q : Nat) (hd : 0 < d) (h : (unr (4 * n) d + 3) / 4 ≤ q) : n ≤ q * d := by
 have hq : unr (4 * n) d ≤ 4 * q := by omega
 rcases unr_cases (4 * n) d hd with c | ⟨c1, c2, c3, c4⟩
 · have := Nat.mul_le_mul_right d hq
   rw [← c, Nat.mul_assoc] at this; omega
 · have : (unr (4 * n) d + 1) * d ≤ 4 * q * d := Nat.mul_le_mul_right d (by omega)
   rw [Nat.mul_assoc] at this; omega
theorem ceil_odd (n d q : Nat) (hd : 0 < d) (h : (unr (4 * n) d + 1 + 3) / 4 ≤ q) : n < q * d := by
 have hq : unr (4 * n) d < 4 * q := by omega
 rcases unr_cases (4 * n) d hd with c | ⟨c1, c2, c3, c4⟩
 · have := Nat.mul_lt_mul_of_pos_right hq hd
   rw [← c, Nat.mul_assoc] at this; omega
 · have : (unr (4 * n) d + 1) * d ≤ 4 * q * d := Nat.mul_le_mul_right d (by omega)
   rw [Nat.mul_assoc] at this; omega
theorem floor_even (n d q : Nat) (hd : 0 < d) (h : q ≤ unr (4 * n) d / 4) : q * d ≤ n := by
 have hq : 2 * (2 * q) ≤ unr (4 * n) d := by omega
 have := le_of_unr hd hq
 rw [Nat.mul_assoc, Nat.mul_assoc] at this; omega
theorem floor_odd (n d q : Nat) (hd : 0 < d) (hq0 : 1 ≤ q) (h : q ≤ (unr (4 * n) d - 1) / 4) : q * d < n := by
 have hq : 4 * q < unr (4 * n) d := by omega
 rcases unr_cases (4 * n) d hd with c | ⟨c1, c2, c3, c4⟩
 · have := Nat.mul_lt_mul_of_pos_right hq hd
   rw [← c, Nat.mul_assoc] at this; omega
 · have : 4 * q * d ≤ (unr (4 * n) d - 1) * d := Nat.mul_le_mul_right d (by omega)
   rw [Nat.mul_assoc] at this; omega
theorem ceil_even' (n d q : Nat) (hd : 0 < d) (h : n ≤ q * d) : (unr (4 * n) d + 3) / 4 ≤ q := by
 have : unr (4 * n) d ≤ 4 * q := unr_le hd (by rw [Nat.mul_assoc]; omega)
 omega
theorem ceil_odd' (n d q : Nat) (hd : 0 < d) (h : n < q * d) : (unr (4 * n) d + 1 + 3) / 4 ≤ q := by
 have : unr (4 * n) d < 4 * q := by
  rcases unr_cases (4 * n) d hd with c | ⟨c1, c2, c3, c4⟩
  · have : unr (4 * n) d * d < 4 * q * d := by rw [← c, Nat.mul_assoc]; omega
    exact Nat.lt_of_mul_lt_mul_right this
  · have : (unr (4 * n) d - 1) * d < 4 * q * d := by rw [Nat.mul_assoc]; omega
    have := Nat.lt_of_mul_lt_mul_right this
    omega
 omega
theorem floor_even' (n d q : Nat) (hd : 0 < d) (h : q * d ≤ n) : q ≤ unr (4 * n) d / 4 := by
 have : 4 * q ≤ unr (4 * n) d := le_unr hd (by rw [Nat.mul_assoc]; omega)
 omega
theorem floor_odd' (n d q : Nat) (hd : 0 < d) (h : q * d < n) : q ≤ (unr (4 * n) d - 1) / 4 := by
 have : 4 * q < unr (4 * n) d := by
  rcases unr_cases (4 * n) d hd with c | ⟨c1, c2, c3, c4⟩
  · have : 4 * q * d < unr (4 * n) d * d := by rw [← c, Nat.mul_assoc]; omega
    exact Nat.lt_of_mul_lt_mul_right this
  · have : 4 * q * d < (unr (4 * n) d + 1) * d := by rw [Nat.mul_assoc]; omega
    have := Nat.lt_of_mul_lt_mul_right this
    omega
 omega
structure Ends where
 lo : Nat
 mid : Nat
 hi : Nat
 d : Nat
 odd : Bool
def Ends.dmin (E : Ends) : Nat := (unr (4 * E.lo) E.d + E.odd.toNat + 3) / 4
def Ends.dmax (E : Ends) : Nat := (unr (4 * E.hi) E.d - E.odd.toNat) / 4
def Ends.has (E : Ends) (q : Nat) : Prop := if E.odd then E.lo < q * E.d ∧ q * E.d < E.hi else E.lo ≤ q * E.d ∧ q * E.d ≤ E.hi
structure Ends.Ok (E : Ends) : Prop where
 pos : 0 < E.d
 lo : E.lo < E.mid
 hi : E.mid < E.hi
 mid : E.mid - E.lo = E.hi - E.mid ∨ (E.odd = false ∧ 2 * (E.mid - E.lo) = E.hi - E.mid)
 wide : E.lo + E.d ≤ E.hi
 tie : E.odd = true → E.lo + E.d = E.hi → E.lo % E.d ≠ 0
theorem Ends.Ok.has_of {E : Ends} (h : E.Ok) {q : Nat} (h1 : E.dmin ≤ q) (h2 : q ≤ E.dmax) : E.has q := by
 unfold dmin at h1
 unfold dmax at h2
 unfold has
 cases ho : E.odd
 · rw [ho] at h1 h2
   simp only [Bool.toNat_false, Nat.add_zero, Nat.sub_zero] at h1 h2
   exact ⟨ceil_even _ _ _ h.pos h1, floor_even _ _ _ h.pos h2⟩
 · rw [ho] at h1 h2
   simp only [Bool.toNat_true] at h1 h2
   have a := ceil_odd _ _ _ h.pos h1
   refine ⟨a, floor_odd _ _ _ h.pos ?_ h2⟩
   rcases Nat.eq_zero_or_pos q with rfl | g
   · simp at a
   · exact g
theorem Ends.Ok.of_has {E : Ends} (h : E.Ok) {q : Nat} (hq : E.has q) : E.dmin ≤ q ∧ q ≤ E.dmax := by
 unfold dmin dmax
 unfold has at hq
 cases ho : E.odd
 · rw [ho] at hq
   simp only [Bool.toNat_false, Nat.add_zero, Nat.sub_zero]
   exact ⟨ceil_even' _ _ _ h.pos hq.1, floor_even' _ _ _ h.pos hq.2⟩
 · rw [ho] at hq
   simp only [Bool.toNat_true]
   exact ⟨ceil_odd' _ _ _ h.pos hq.1, floor_odd' _ _ _ h.pos hq.2⟩
theorem Ends.Ok.some {E : Ends} (h : E.Ok) : ∃ q, E.has q := by
 have h1 := Nat.div_add_mod E.lo E.d
 have h2 := Nat.mod_lt E.lo h.pos
 have hw := h.wide
 rw [Nat.mul_comm] at h1
 unfold has
 cases ho : E.odd
 · by_cases c : E.lo % E.d = 0
   · refine ⟨E.lo / E.d, ?_⟩
     simp only [Bool.false_eq_true, if_false]
     omega
   · refine ⟨E.lo / E.d + 1, ?_⟩
     simp only [Bool.false_eq_true, if_false]
     rw [Nat.add_mul]
     omega
 · refine ⟨E.lo / E.d + 1, ?_⟩
   simp only [if_true]
   have := h.tie ho
   rw [Nat.add_mul]
   omega
theorem Ends.Ok.le {E : Ends} (h : E.Ok) : E.dmin ≤ E.dmax := by
 obtain ⟨q, hq⟩ := h.some
 have := h.of_has hq
 omega
theorem rnd_two (n d : Nat) (hd : 0 < d) : 2 * n ≤ 2 * (rnd (unr (4 * n) d) * d) + d ∧ 2 * (rnd (unr (4 * n) d) * d) ≤ 2 * n + d := by
 have k := rnd_unr n d hd
 generalize rnd (unr (4 * n) d) = m at *
 have e1 : (2 * m + 1) * d = 2 * (m * d) + d := by grind
 refine ⟨by have := k.1; omega, ?_⟩
 rcases Nat.eq_zero_or_pos m with rfl | g
 · simp
 · obtain ⟨t, rfl⟩ : ∃ t, m = t + 1 := ⟨m - 1, by omega⟩
   have k2 := (k.2.2 (by omega)).1
   have e2 : (2 * (t + 1) - 1) * d + d = 2 * ((t + 1) * d) := by rw [show 2 * (t + 1) - 1 = 2 * t + 1 by omega]; grind
   omega
theorem Ends.Ok.near {E : Ends} (h : E.Ok) (h2 : E.dmin < E.dmax) : E.has (rnd (unr (4 * E.mid) E.d)) := by
 have a := h.has_of (q := E.dmin) (Nat.le_refl _) (by omega)
 have b := h.has_of (q := E.dmax) (by omega) (Nat.le_refl _)
 have k := rnd_two E.mid E.d h.pos
 generalize hr : rnd (unr (4 * E.mid) E.d) = r at *
 have hm := h.mid
 have hlo := h.lo
 have hhi := h.hi
 have hd := h.pos
 obtain ⟨g, hg⟩ : ∃ g, E.dmax = E.dmin + 1 + g := ⟨E.dmax - E.dmin - 1, by omega⟩
 rw [hg] at b
 have e : (E.dmin + 1 + g) * E.d = E.dmin * E.d + E.d + g * E.d := by rw [Nat.add_mul, Nat.add_mul, Nat.one_mul]
 have c1 : r < E.dmin → r * E.d + E.d ≤ E.dmin * E.d := fun c => by
  have := Nat.mul_le_mul_right E.d (show r + 1 ≤ E.dmin from c); rwa [Nat.add_mul, Nat.one_mul] at this
 have c2 : E.dmax < r → E.dmin * E.d + E.d + g * E.d + E.d ≤ r * E.d := fun c => by
  have := Nat.mul_le_mul_right E.d (show E.dmin + 1 + g + 1 ≤ r by omega)
  rwa [Nat.add_mul, e, Nat.one_mul] at this
 refine h.has_of ?_ ?_
 · refine Nat.le_of_not_lt fun c => ?_
   have w : ¬ E.has r := fun q => by have := (h.of_has q).1; omega
   have := c1 c
   unfold has at a b w
   rw [e] at b
   generalize r * E.d = R at *
   generalize E.dmin * E.d = A at *
   generalize g * E.d = G at *
   cases ho : E.odd <;> rw [ho] at a b w hm <;> simp only [Bool.false_eq_true, if_false, if_true] at a b w <;> omega
 · refine Nat.le_of_not_lt fun c => ?_
   have w : ¬ E.has r := fun q => by have := (h.of_has q).2; omega
   have := c2 c
   unfold has at a b w
   rw [e] at b
   generalize r * E.d = R at *
   generalize E.dmin * E.d = A at *
   generalize g * E.d = G at *
   cases ho : E.odd <;> rw [ho] at a b w hm <;> simp only [Bool.false_eq_true, if_false, if_true] at a b w <;> omega
def Ends.pick (E : Ends) : Nat × Bool :=
 if E.dmin ≤ E.dmax / 10 * 10 then (E.dmax / 10, true)
 else if E.dmin < E.dmax then (rnd (unr (4 * E.mid) E.d), false) else (E.dmin, false)
theorem Ends.Ok.pick {E : Ends} (h : E.Ok) : E.has (if E.pick.2 then 10 * E.pick.1 else E.pick.1) := by
 unfold Ends.pick
 have := h.le
 by_cases c : E.dmin ≤ E.dmax / 10 * 10
 · rw [if_pos c]
   exact h.has_of (by simp only [if_true]; omega) (by simp only [if_true]; omega)
 · rw [if_neg c]
   by_cases c2 : E.dmin < E.dmax
   · rw [if_pos c2]; exact h.near c2
   · rw [if_neg c2]; exact h.has_of (Nat.le_refl _) (by simp only [Bool.false_eq_true, if_false]; omega)
end Go.Proofs.YtonegoemmologaaGreatDoor.Fl
namespace Go.Proofs.YtonegoemmologaaGreatDoor.Fl
def lg2 (x : Int) : Int := x * 78913 / 262144
def lgs (x : Int) : Int := (x * 631305 - 261663) / 2097152
def shP (skew : Bool) (x : Int) : Int := if skew then -lgs x else -lg2 x
def scW (x p : Int) : Nat := 10 ^ p.toNat * 2 ^ x.toNat
def scD (x p : Int) : Nat := 10 ^ (-p).toNat * 2 ^ (-x).toNat
def wideR (x : Int) : Bool := decide (scD x (shP false x) ≤ scW x (shP false x)) && decide (-320 ≤ shP false x) && decide (shP false x ≤ 335)
 && decide (-3 ≤ -x - lgp (shP false x)) && decide (-x - lgp (shP false x) ≤ 0)
def wideS (x : Int) : Bool := decide (4 * scD x (shP true x) ≤ 3 * scW x (shP true x)) && decide (-320 ≤ shP true x) && decide (shP true x ≤ 335)
 && decide (-3 ≤ -x - lgp (shP true x)) && decide (-x - lgp (shP true x) ≤ 0)
theorem wideR_all : (List.range 2046).all (fun i => wideR ((i : Int) - 1074)) = true := by decide +kernel
theorem wideS_all : (List.range 2046).all (fun i => wideS ((i : Int) - 1074)) = true := by decide +kernel
end Go.Proofs.YtonegoemmologaaGreatDoor.Fl
namespace Go.Proofs.YtonegoemmologaaGreatDoor.Fl
def skewed (mb mant j : Nat) : Bool := decide (mant = 2 ^ mb ∧ 1 ≤ j)
def endsOf (mb top mant j : Nat) : Ends :=
 let x : Int := (j : Int) - top
 let p := shP (skewed mb mant j) x
 { lo := (if skewed mb mant j then 4 * mant - 1 else 4 * mant - 2) * scW x p
   mid := 4 * mant * scW x p
   hi := (4 * mant + 2) * scW x p
   d := 4 * scD x p
   odd := decide (mant % 2 = 1) }
theorem scD_pos (x p : Int) : 0 < scD x p := Nat.mul_pos (Nat.pow_pos (by omega)) (Nat.two_pow_pos _)
theorem scW_pos (x p : Int) : 0 < scW x p := Nat.mul_pos (Nat.pow_pos (by omega)) (Nat.two_pow_pos _)
theorem wide_of (skew : Bool) (x : Int) (h1 : -1074 ≤ x) (h2 : x ≤ 971) :
 (if skew then 4 * scD x (shP skew x) ≤ 3 * scW x (shP skew x) else scD x (shP skew x) ≤ scW x (shP skew x))
 ∧ -320 ≤ shP skew x ∧ shP skew x ≤ 335 ∧ -3 ≤ -x - lgp (shP skew x) ∧ -x - lgp (shP skew x) ≤ 0 := by
 cases skew
 · have := in_all wideR_all x (by omega) (by omega)
   simp only [wideR, Bool.and_eq_true, decide_eq_true_eq] at this
   exact ⟨by simpa using this.1.1.1.1, this.1.1.1.2, this.1.1.2, this.1.2, this.2⟩
 · have := in_all wideS_all x (by omega) (by omega)
   simp only [wideS, Bool.and_eq_true, decide_eq_true_eq] at this
   exact ⟨by simpa using this.1.1.1.1, this.1.1.1.2, this.1.1.2, this.1.2, this.2⟩
theorem endsOf_ok (mb top mant j : Nat) (hm : 0 < mant) (hmb : 1 ≤ mb) (h1 : -1074 ≤ (j : Int) - top) (h2 : (j : Int) - top ≤ 971) : (endsOf mb top mant j).Ok := by
 have w := (wide_of (skewed mb mant j) _ h1 h2).1
 have hD := scD_pos ((j : Int) - top) (shP (skewed mb mant j) ((j : Int) - top))
 have hW := scW_pos ((j : Int) - top) (shP (skewed mb mant j) ((j : Int) - top))
 have ev : skewed mb mant j = true → mant % 2 = 0 := by
  intro h
  unfold skewed at h
  have := (of_decide_eq_true h).1
  obtain ⟨t, rfl⟩ : ∃ t, mb = t + 1 := ⟨mb - 1, by omega⟩
  rw [this, Nat.pow_succ]; omega
 unfold endsOf
 dsimp only
 generalize scD ((j : Int) - top) (shP (skewed mb mant j) ((j : Int) - top)) = D at *
 generalize scW ((j : Int) - top) (shP (skewed mb mant j) ((j : Int) - top)) = W at *
 obtain ⟨t, rfl⟩ : ∃ t, mant = t + 1 := ⟨mant - 1, by omega⟩
 have e1 : 4 * (t + 1) * W = 4 * (t * W) + 4 * W := by grind
 have e2 : (4 * (t + 1) + 2) * W = 4 * (t * W) + 6 * W := by grind
 have e3 : (4 * (t + 1) - 1) * W = 4 * (t * W) + 3 * W := by rw [show 4 * (t + 1) - 1 = 4 * t + 3 by omega]; grind
 have e4 : (4 * (t + 1) - 2) * W = 4 * (t * W) + 2 * W := by rw [show 4 * (t + 1) - 2 = 4 * t + 2 by omega]; grind
 cases hs : skewed mb (t + 1) j
 · rw [hs] at w
   simp only [Bool.false_eq_true, if_false] at w
   refine ⟨by dsimp only; omega, ?_, ?_, ?_, ?_, ?_⟩ <;> dsimp only <;> (try simp only [Bool.false_eq_true, if_false])
   · rw [e1, e4]; omega
   · rw [e1, e2]; omega
   · left; rw [e1, e2, e4]; omega
   · rw [e4, e2]; omega
   · intro _ h
     rw [e4, e2] at h
     have : D = W := by omega
     subst this
     rw [e4, show 4 * (t * D) = 4 * D * t by grind, Nat.mul_add_mod, Nat.mod_eq_of_lt (by omega)]
     omega
 · rw [hs] at w
   simp only [if_true] at w
   have := ev hs
   refine ⟨by dsimp only; omega, ?_, ?_, ?_, ?_, ?_⟩ <;> dsimp only <;> (try simp only [if_true])
   · rw [e1, e3]; omega
   · rw [e1, e2]; omega
   · right; rw [e1, e2, e3]; exact ⟨by simp only [decide_eq_false_iff_not]; omega, by omega⟩
   · rw [e3, e2]; omega
   · intro h; simp only [decide_eq_true_eq] at h; omega
end Go.Proofs.YtonegoemmologaaGreatDoor.Fl
namespace Go.Proofs.YtonegoemmologaaGreatDoor.Fl
theorem usc_ends (mb top mant j c hi lo : Nat) (hm : 0 < mant) (hmb : mb ≤ 52) (hm2 : mant < 2 ^ (mb + 1)) (h1 : -1074 ≤ (j : Int) - top) (h2 : (j : Int) - top ≤ 971)
 (hc : 0 < c) (hc2 : c * 2 ^ (62 - len mant) < 2 ^ 64)
 (hM : hi * 2 ^ 64 = powM (shP (skewed mb mant j) ((j : Int) - top)) + lo) (hlo : lo < 2 ^ 64) :
 usc (c * 2 ^ (62 - len mant)) hi lo (64 - (len mant : Int) - ((j : Int) - top) - lgp (shP (skewed mb mant j) ((j : Int) - top)) - 3).toNat
  = unr (4 * (c * scW ((j : Int) - top) (shP (skewed mb mant j) ((j : Int) - top)))) (4 * scD ((j : Int) - top) (shP (skewed mb mant j) ((j : Int) - top))) := by
 obtain ⟨-, w1, w2, w3, w4⟩ := wide_of (skewed mb mant j) _ h1 h2
 have hl : len mant ≤ 53 := by
  unfold len
  have : mant.log2 < mb + 1 := (Nat.log2_lt (by omega)).2 hm2
  omega
 generalize skewed mb mant j = sk at *
 generalize (j : Int) - top = x at *
 generalize len mant = b at *
 rw [usc_format _ hi lo _ (shP sk x) w1 w2 hM hlo hc2 (Nat.mul_pos hc (Nat.two_pow_pos _)) ?_ (by omega)]
 · refine unr_ratio (Nat.mul_pos (powB_pos _) (Nat.two_pow_pos _)) (Nat.mul_pos (by omega) (scD_pos _ _)) ?_
   unfold powA powB scW scD
   generalize shP sk x = p at *
   generalize lgp p = l at *
   have key : 2 ^ (62 - b) * 2 ^ (127 - l).toNat * 4 * 2 ^ (-x).toNat = 4 * 2 ^ x.toNat * (2 ^ (l - 127).toNat * 2 ^ (128 + (64 - (b : Int) - x - l - 3).toNat)) := by
    rw [show (4 : Nat) = 2 ^ 2 from rfl]
    simp only [← Nat.pow_add]
    congr 1
    omega
   generalize 2 ^ (62 - b) = a1 at *
   generalize 2 ^ (127 - l).toNat = a2 at *
   generalize 2 ^ (-x).toNat = a3 at *
   generalize 2 ^ x.toNat = a4 at *
   generalize 2 ^ (l - 127).toNat = a5 at *
   generalize 2 ^ (128 + (64 - (b : Int) - x - l - 3).toNat) = a6 at *
   generalize 10 ^ p.toNat = c1 at *
   generalize 10 ^ (-p).toNat = c2 at *
   have : c * a1 * (c1 * a2) * (4 * (c2 * a3)) = c * c1 * c2 * (a1 * a2 * 4 * a3) := by grind
   rw [this, key]
   grind
 · obtain ⟨t, ht⟩ : ∃ t, 62 - b = 9 + t := ⟨62 - b - 9, by omega⟩
   rw [ht, Nat.pow_add, show c * (2 ^ 9 * 2 ^ t) = 512 * (c * 2 ^ t) by grind]
   omega
theorem has_near (mb top mant j q : Nat) (hm : 0 < mant) (hmb : 1 ≤ mb) (h : 2 ^ mb ≤ mant ∨ j = 0) (hm2 : mant < 2 ^ (mb + 1))
 (hq : (endsOf mb top mant j).has q) :
 Near mb (mant + j * 2 ^ mb) (decN top q (-(shP (skewed mb mant j) ((j : Int) - top)))) (decD (-(shP (skewed mb mant j) ((j : Int) - top)))) := by
 unfold Ends.has endsOf at hq
 dsimp only at hq
 generalize hp : shP (skewed mb mant j) ((j : Int) - top) = p at *
 have hp0 : 0 < mant := hm
 have tr : ∀ c : Nat, (c * scW ((j : Int) - top) p ≤ q * (4 * scD ((j : Int) - top) p) ↔ c * (decD (-p) * 2 ^ j) ≤ 4 * decN top q (-p))
  ∧ (q * (4 * scD ((j : Int) - top) p) ≤ c * scW ((j : Int) - top) p ↔ 4 * decN top q (-p) ≤ c * (decD (-p) * 2 ^ j)) := by
  intro c
  unfold scW scD decN decD
  have key : 2 ^ ((j : Int) - top).toNat * 2 ^ top = 2 ^ (-((j : Int) - top)).toNat * 2 ^ j := by
   rw [← Nat.pow_add, ← Nat.pow_add]; congr 1; omega
  rw [show -(-p) = p by omega]
  have g1 : 0 < 2 ^ ((j : Int) - top).toNat := Nat.two_pow_pos _
  have g2 : 0 < 2 ^ (-((j : Int) - top)).toNat := Nat.two_pow_pos _
  have g3 : 0 < 2 ^ top := Nat.two_pow_pos _
  have g4 : 0 < 2 ^ j := Nat.two_pow_pos _
  generalize 2 ^ ((j : Int) - top).toNat = a1 at *
  generalize 2 ^ (-((j : Int) - top)).toNat = a2 at *
  generalize 2 ^ top = a3 at *
  generalize 2 ^ j = a4 at *
  generalize 10 ^ p.toNat = c1
  generalize 10 ^ (-p).toNat = c2
  have e1 : c * (c1 * a4) * a1 * a3 = c * (c1 * a1) * (a4 * a3) := by grind
  have e2 : 4 * (q * c2 * a3) * a1 * a3 = q * (4 * (c2 * a2)) * (a4 * a3) := by
   have : 4 * (q * c2 * a3) * a1 * a3 = 4 * q * c2 * a3 * (a1 * a3) := by grind
   rw [this, key]; grind
  have g5 : 0 < a1 * a3 := Nat.mul_pos g1 g3
  have g6 : 0 < a4 * a3 := Nat.mul_pos g4 g3
  rw [Nat.mul_assoc _ a1 a3] at e1 e2
  constructor
  · rw [← Nat.mul_le_mul_right_iff g6, ← e1, ← e2, Nat.mul_le_mul_right_iff g5]
  · rw [← Nat.mul_le_mul_right_iff g6, ← e1, ← e2, Nat.mul_le_mul_right_iff g5]
 have tl := fun c => (tr c).1
 have tg := fun c => (tr c).2
 generalize hN : decN top q (-p) = N at *
 generalize hD : decD (-p) * 2 ^ j = D at *
 have key : (if skewed mb mant j then (4 * mant - 1) * D else (4 * mant - 2) * D) ≤ 4 * N ∧ 4 * N ≤ (4 * mant + 2) * D
  ∧ (mant % 2 = 1 → (4 * mant - 2) * D < 4 * N ∧ 4 * N < (4 * mant + 2) * D) := by
  by_cases ho : mant % 2 = 1
  · simp only [ho, decide_true, if_true] at hq
    have hs : skewed mb mant j = false := by
     cases hs : skewed mb mant j
     · rfl
     · unfold skewed at hs
       have := (of_decide_eq_true hs).1
       obtain ⟨t, rfl⟩ : ∃ t, mb = t + 1 := ⟨mb - 1, by omega⟩
       rw [this, Nat.pow_succ] at ho; omega
    rw [hs] at hq ⊢
    simp only [Bool.false_eq_true, if_false] at hq ⊢
    have a1 := (tl _).1 (Nat.le_of_lt hq.1)
    have a2 := (tg _).1 (Nat.le_of_lt hq.2)
    have a3 : ¬ 4 * N ≤ (4 * mant - 2) * D := fun h => by have := (tg _).2 h; omega
    have a4 : ¬ (4 * mant + 2) * D ≤ 4 * N := fun h => by have := (tl _).2 h; omega
    exact ⟨a1, a2, fun _ => ⟨by omega, by omega⟩⟩
  · simp only [ho, decide_false, Bool.false_eq_true, if_false] at hq
    refine ⟨?_, (tg _).1 hq.2, fun h => absurd h ho⟩
    cases hs : skewed mb mant j
    · rw [hs] at hq
      simp only [Bool.false_eq_true, if_false] at hq ⊢
      exact (tl _).1 hq.1
    · rw [hs] at hq
      simp only [if_true] at hq ⊢
      exact (tl _).1 hq.1
 obtain ⟨k1, k2, k3⟩ := key
 obtain ⟨t, rfl⟩ : ∃ t, mant = t + 1 := ⟨mant - 1, by omega⟩
 have e1 : (4 * (t + 1) + 2) * D = 2 * ((2 * (t + 1) + 1) * D) := by grind
 have e4 : (4 * (t + 1) - 2) * D = 2 * ((2 * (t + 1) - 1) * D) := by
  rw [show 4 * (t + 1) - 2 = 4 * t + 2 by omega, show 2 * (t + 1) - 1 = 2 * t + 1 by omega]; grind
 have e3 : (4 * (t + 1) - 2) * D ≤ (4 * (t + 1) - 1) * D := Nat.mul_le_mul_right D (by omega)
 have k1' : (4 * (t + 1) - 2) * D ≤ 4 * N := by
  cases hs : skewed mb (t + 1) j
  · rw [hs] at k1; simpa using k1
  · rw [hs] at k1; simp only [if_true] at k1; omega
 refine near_of mb (t + 1) j N (decD (-p)) hmb h hm2 ?_ ?_ ?_ ?_
 · rw [hD]; omega
 · rw [hD]; intro he
   rcases Nat.mod_two_eq_zero_or_one (t + 1) with g | g
   · exact g
   · have := k3 g; omega
 · rw [hD]
   intro _
   refine ⟨by omega, fun he => ?_⟩
   rcases Nat.mod_two_eq_zero_or_one (t + 1) with g | g
   · exact g
   · have := k3 g; omega
 · intro hj
   obtain ⟨i, rfl⟩ : ∃ i, j = i + 1 := ⟨j - 1, by omega⟩
   have eD : D = 2 * (decD (-p) * 2 ^ i) := by rw [← hD, Nat.pow_succ]; grind
   rw [show i + 1 - 1 = i by omega]
   by_cases hs : t + 1 = 2 ^ mb
   · have : skewed mb (t + 1) (i + 1) = true := by unfold skewed; simp [hs]
     rw [this] at k1
     simp only [if_true] at k1
     rw [← hs]
     rw [eD] at k1
     have : (4 * (t + 1) - 1) * (2 * (decD (-p) * 2 ^ i)) = 2 * ((4 * (t + 1) - 1) * (decD (-p) * 2 ^ i)) := by grind
     omega
   · have g : 2 ^ mb + 1 ≤ t + 1 := by omega
     have : (4 * 2 ^ mb - 1) * (decD (-p) * 2 ^ i) ≤ (4 * (t + 1) - 2) * (decD (-p) * 2 ^ i) := Nat.mul_le_mul_right _ (by omega)
     rw [eD] at k1'
     have e5 : (4 * (t + 1) - 2) * (2 * (decD (-p) * 2 ^ i)) = 2 * ((4 * (t + 1) - 2) * (decD (-p) * 2 ^ i)) := by
      generalize 4 * (t + 1) - 2 = y; grind
     omega
end Go.Proofs.YtonegoemmologaaGreatDoor.Fl
namespace Go.Proofs.YtonegoemmologaaGreatDoor.Fl
def shortD (mb top mant j hi lo : Nat) : Nat × Int :=
 let x : Int := (j : Int) - top
 let p := shP (skewed mb mant j) x
 let s := (64 - (len mant : Int) - x - lgp p - 3).toNat
 let mn := usc (mant * 2 ^ (64 - len mant) - (if skewed mb mant j then 2 ^ (62 - len mant) else 2 ^ (63 - len mant))) hi lo s
 let mx := usc (mant * 2 ^ (64 - len mant) + 2 ^ (63 - len mant)) hi lo s
 let md := usc (mant * 2 ^ (64 - len mant)) hi lo s
 let dmin := (mn + mant % 2 + 3) / 4
 let dmax := (mx - mant % 2) / 4
 if dmin ≤ dmax / 10 * 10 then (dmax / 10, 1 - p)
 else if dmin < dmax then (rnd md, -p) else (dmin, -p)
theorem len_bound {mb mant : Nat} (hm : 0 < mant) (hm2 : mant < 2 ^ (mb + 1)) (hmb : mb ≤ 52) : len mant ≤ 53 ∧ mant < 2 ^ len mant := by
 refine ⟨?_, (len_bounds hm).2⟩
 unfold len
 have : mant.log2 < mb + 1 := (Nat.log2_lt (by omega)).2 hm2
 omega
theorem shortD_pick (mb top mant j hi lo : Nat) (hm : 0 < mant) (hmb : mb ≤ 52) (hm2 : mant < 2 ^ (mb + 1)) (h1 : -1074 ≤ (j : Int) - top) (h2 : (j : Int) - top ≤ 971)
 (hM : hi * 2 ^ 64 = powM (shP (skewed mb mant j) ((j : Int) - top)) + lo) (hlo : lo < 2 ^ 64) :
 shortD mb top mant j hi lo = ((endsOf mb top mant j).pick.1, (if (endsOf mb top mant j).pick.2 then 1 else 0) - shP (skewed mb mant j) ((j : Int) - top)) := by
 have hl := len_bound hm hm2 hmb
 have u := fun c hc hc2 => usc_ends mb top mant j c hi lo hm hmb hm2 h1 h2 hc hc2 hM hlo
 have hx : ∀ c, c ≤ 4 * mant + 2 → c * 2 ^ (62 - len mant) < 2 ^ 64 := by
  intro c hc
  have a1 : c * 2 ^ (62 - len mant) ≤ (4 * mant + 2) * 2 ^ (62 - len mant) := Nat.mul_le_mul_right _ hc
  have a2 : (4 * mant + 2) * 2 ^ (62 - len mant) < (4 * 2 ^ len mant) * 2 ^ (62 - len mant) := Nat.mul_lt_mul_of_pos_right (by omega) (Nat.two_pow_pos _)
  have a3 : (4 * 2 ^ len mant) * 2 ^ (62 - len mant) = 2 ^ 64 := by
   rw [Nat.mul_assoc, ← Nat.pow_add, show len mant + (62 - len mant) = 62 by omega]
  omega
 have b1 : 2 ^ (63 - len mant) = 2 * 2 ^ (62 - len mant) := by rw [show 63 - len mant = 62 - len mant + 1 by omega, Nat.pow_succ]; omega
 have b2 : 2 ^ (64 - len mant) = 4 * 2 ^ (62 - len mant) := by rw [show 64 - len mant = 62 - len mant + 2 by omega, Nat.pow_add]; omega
 have c1 : mant * 2 ^ (64 - len mant) = 4 * mant * 2 ^ (62 - len mant) := by rw [b2]; grind
 have c2 : mant * 2 ^ (64 - len mant) + 2 ^ (63 - len mant) = (4 * mant + 2) * 2 ^ (62 - len mant) := by rw [b2, b1]; grind
 have c3 : mant * 2 ^ (64 - len mant) - 2 ^ (63 - len mant) = (4 * mant - 2) * 2 ^ (62 - len mant) := by rw [c1, b1, ← Nat.sub_mul]
 have c4 : mant * 2 ^ (64 - len mant) - 2 ^ (62 - len mant) = (4 * mant - 1) * 2 ^ (62 - len mant) := by
  rw [c1, Nat.sub_mul, Nat.one_mul]
 have ho : (decide (mant % 2 = 1)).toNat = mant % 2 := by
  rcases Nat.mod_two_eq_zero_or_one mant with g | g <;> simp [g]
 have u1 := u (4 * mant) (by omega) (hx _ (by omega))
 have u2 := u (4 * mant + 2) (by omega) (hx _ (by omega))
 have u3 := u (4 * mant - 2) (by omega) (hx _ (by omega))
 have u4 := u (4 * mant - 1) (by omega) (hx _ (by omega))
 unfold shortD
 dsimp only
 rw [c2, u2]
 have e1 : usc (mant * 2 ^ (64 - len mant) - (if skewed mb mant j = true then 2 ^ (62 - len mant) else 2 ^ (63 - len mant))) hi lo (64 - (len mant : Int) - ((j : Int) - top) - lgp (shP (skewed mb mant j) ((j : Int) - top)) - 3).toNat
  = unr (4 * (endsOf mb top mant j).lo) (endsOf mb top mant j).d := by
  unfold endsOf
  dsimp only
  cases hs : skewed mb mant j
  · rw [hs] at u3
    simp only [Bool.false_eq_true, if_false]
    rw [c3, u3]
  · rw [hs] at u4
    simp only [if_true]
    rw [c4, u4]
 rw [e1, c1, u1]
 unfold Ends.pick Ends.dmin Ends.dmax
 have e2 : (endsOf mb top mant j).odd.toNat = mant % 2 := ho
 rw [e2]
 have e3 : (endsOf mb top mant j).hi = (4 * mant + 2) * scW ((j : Int) - top) (shP (skewed mb mant j) ((j : Int) - top)) := rfl
 have e4 : (endsOf mb top mant j).d = 4 * scD ((j : Int) - top) (shP (skewed mb mant j) ((j : Int) - top)) := rfl
 have e5 : (endsOf mb top mant j).mid = 4 * mant * scW ((j : Int) - top) (shP (skewed mb mant j) ((j : Int) - top)) := rfl
 rw [e3, e4, e5]
 split
 · rfl
 · split
   · simp
   · simp
theorem shortD_near (mb top mant j hi lo : Nat) (hm : 0 < mant) (hmb : 1 ≤ mb ∧ mb ≤ 52) (h : 2 ^ mb ≤ mant ∨ j = 0) (hm2 : mant < 2 ^ (mb + 1))
 (h1 : -1074 ≤ (j : Int) - top) (h2 : (j : Int) - top ≤ 971)
 (hM : hi * 2 ^ 64 = powM (shP (skewed mb mant j) ((j : Int) - top)) + lo) (hlo : lo < 2 ^ 64) :
 Near mb (mant + j * 2 ^ mb) (decN top (shortD mb top mant j hi lo).1 (shortD mb top mant j hi lo).2) (decD (shortD mb top mant j hi lo).2) := by
 rw [shortD_pick mb top mant j hi lo hm hmb.2 hm2 h1 h2 hM hlo]
 dsimp only
 have k := (endsOf_ok mb top mant j hm hmb.1 h1 h2).pick
 have n := has_near mb top mant j _ hm hmb.1 h hm2 k
 cases hp : (endsOf mb top mant j).pick.2
 · rw [hp] at n
   simpa using n
 · rw [hp] at n
   simp only [if_true] at n ⊢
   generalize shP (skewed mb mant j) ((j : Int) - top) = p at *
   refine n.scale (decD_pos _) (decD_pos _) ?_
   unfold decN decD
   rw [show -(-p) = p by omega, show -(1 - p) = p - 1 by omega]
   have key : 10 * 10 ^ (-p).toNat * 10 ^ (p - 1).toNat = 10 ^ (1 - p).toNat * 10 ^ p.toNat := by
    rw [← Nat.pow_succ', ← Nat.pow_add, ← Nat.pow_add]; congr 1; omega
   generalize (endsOf mb top mant j).pick.1 = q
   generalize 2 ^ top = z
   generalize 10 ^ (-p).toNat = a at *
   generalize 10 ^ (p - 1).toNat = b at *
   generalize 10 ^ (1 - p).toNat = c at *
   generalize 10 ^ p.toNat = d at *
   have : 10 * q * a * z * b = q * z * (10 * a * b) := by grind
   rw [this, key]; grind
end Go.Proofs.YtonegoemmologaaGreatDoor.Fl
namespace Go.Proofs.YtonegoemmologaaGreatDoor.Fl
theorem usc_bounds (x hi lo s : Nat) (hx : x < 2 ^ 64) (hhi : hi < 2 ^ 64) (hs : 2 ≤ s) (h1 : 2 ^ 64 ≤ x * hi) : 1 ≤ usc x hi lo s ∧ usc x hi lo s < 2 ^ 63 := by
 have ha1 : 1 ≤ x * hi / 2 ^ 64 := (Nat.le_div_iff_mul_le (by omega)).2 (by omega)
 have ha2 : x * hi / 2 ^ 64 < 2 ^ 64 := by
  refine (Nat.div_lt_iff_lt_mul (by omega)).2 ?_
  exact Nat.lt_of_le_of_lt (Nat.mul_le_mul_right hi (Nat.le_of_lt hx)) (Nat.mul_lt_mul_of_pos_left hhi (by omega))
 unfold usc
 generalize x * hi / 2 ^ 64 = a at *
 generalize x * hi % 2 ^ 64 = b at *
 generalize x * lo / 2 ^ 64 = g at *
 have hp : 4 ≤ 2 ^ s := by
  have := Nat.pow_le_pow_right (show 0 < 2 by omega) hs
  omega
 have hq : ∀ c, c ≤ a → c / 2 ^ s ≤ 2 ^ 62 := by
  intro c hc
  have h2 : c / 2 ^ s ≤ c / 4 := Nat.div_le_div_left hp (by omega)
  omega
 have q1 := hq a (Nat.le_refl _)
 have q2 := hq (a - 1) (by omega)
 by_cases c1 : a % 2 ^ s ≠ 0
 · rw [if_pos c1]
   generalize a / 2 ^ s = q at *
   omega
 · rw [if_neg c1]
   by_cases c2 : b < g
   · rw [if_pos c2]
     generalize (a - 1) / 2 ^ s = q at *
     omega
   · rw [if_neg c2]
     by_cases c3 : 1 < b - g
     · rw [if_pos c3]
       generalize a / 2 ^ s = q at *
       omega
     · rw [if_neg c3]
       have h3 := Nat.div_add_mod a (2 ^ s)
       have : a / 2 ^ s ≠ 0 := by
        intro h0
        rw [h0] at h3
        omega
       generalize a / 2 ^ s = q at *
       omega
def shV (PT : Nat → Nat × Nat) (mn mx m od : Nat) (P e : Int) : Nat × Int :=
 let i := (P + 348).toNat
 let s := (-(e + lgp P + 3)).toNat
 let dmin := (usc mn (PT i).1 (PT i).2 s + od + 3) / 4
 let dmax := (usc mx (PT i).1 (PT i).2 s - od) / 4
 if dmin ≤ dmax / 10 * 10 then (dmax / 10, 1 - P)
 else if dmin < dmax then (rnd (usc m (PT i).1 (PT i).2 s), -P) else (dmin, -P)
def shZ (mb : Nat) (minE e : Int) : Nat := (if minE ≤ e then (63 - mb : Int) else 63 - mb + (minE - e)).toNat
def shSk (minE : Int) (m : Nat) (e : Int) : Bool := decide (m = 2 ^ 63 ∧ minE < e)
def shPow (mb : Nat) (minE : Int) (m : Nat) (e : Int) : Int := if shSk minE m e then -lgs (e + shZ mb minE e) else -lg2 (e + shZ mb minE e)
def shX (PT : Nat → Nat × Nat) (mb : Nat) (minE : Int) (m : Nat) (e : Int) : Nat × Int :=
 shV PT (if shSk minE m e then m - 2 ^ (shZ mb minE e - 2) else m - 2 ^ (shZ mb minE e - 1)) (m + 2 ^ (shZ mb minE e - 1)) m (m / 2 ^ shZ mb minE e % 2) (shPow mb minE m e) e
structure ShGood (PT : Nat → Nat × Nat) (mb : Nat) (minE : Int) (m : Nat) (e : Int) : Prop where
 tab : ∀ i, i < 696 → 2 ^ 63 ≤ (PT i).1 ∧ (PT i).1 < 2 ^ 64
 z : shZ mb minE e ≤ 63
 hi : m + 2 ^ (shZ mb minE e - 1) < 2 ^ 64
 s : 2 ≤ -(e + lgp (shPow mb minE m e) + 3) ∧ -(e + lgp (shPow mb minE m e) + 3) ≤ 63
theorem shV_of {PT : Nat → Nat × Nat} {mn mx m od i a1 a2 dmin a3 a4 dmax a5 dr : Nat} {P e lp OD : Int} (htab : 2 ^ 63 ≤ (PT i).1 ∧ (PT i).1 < 2 ^ 64) (hP : P = (i : Int) - 348) (hlp : ((i : Int) - 348) * 108853 / 32768 = lp)
 (hs : 2 ≤ -(e + lgp P + 3) ∧ -(e + lgp P + 3) ≤ 63) (hod : OD = (od : Int)) (hod1 : od ≤ 1) (hmn : 2 ≤ mn) (hmn2 : mn < 2 ^ 64) (hmx : 2 ≤ mx) (hmx2 : mx < 2 ^ 64) (hm : 2 ≤ m) (hm2 : m < 2 ^ 64)
 (v1 : 18446744073709551616 ≤ mn * (PT i).1 → a1 = usc mn (PT i).1 (PT i).2 ((-(e + lp + 3)) % 64).toNat)
 (v2 : 0 ≤ (a1 : Int) + OD → (a1 : Int) + OD < 18446744073709551616 → (a2 : Int) = (a1 : Int) + OD)
 (v3 : a2 + 3 < 18446744073709551616 → dmin = (a2 + 3) / 4)
 (v4 : 18446744073709551616 ≤ mx * (PT i).1 → a3 = usc mx (PT i).1 (PT i).2 ((-(e + lp + 3)) % 64).toNat)
 (v5 : 0 ≤ (a3 : Int) + -OD → (a3 : Int) + -OD < 18446744073709551616 → (a4 : Int) = (a3 : Int) + -OD)
 (v6 : dmax = a4 / 4)
 (v7 : 18446744073709551616 ≤ m * (PT i).1 → a5 = usc m (PT i).1 (PT i).2 ((-(e + lp + 3)) % 64).toNat)
 (v8 : a5 + 2 < 18446744073709551616 → dr = rnd a5) :
 shV PT mn mx m od P e = if dmin ≤ dmax / 10 * 10 then (dmax / 10, 1 - P) else if dmin < dmax then (dr, -P) else (dmin, -P) := by
 have big : ∀ x, 2 ≤ x → 2 ^ 64 ≤ x * (PT i).1 := by
  intro x hx
  have := Nat.mul_le_mul hx htab.1
  omega
 have elp : lp = lgp P := by rw [← hlp, hP]; rfl
 rw [elp] at v1 v4 v7
 have es : ((-(e + lgp P + 3)) % 64).toNat = (-(e + lgp P + 3)).toNat := by omega
 rw [es] at v1 v4 v7
 have hi : (P + 348).toNat = i := by omega
 have w1 := v1 (big mn hmn)
 have w4 := v4 (big mx hmx)
 have w7 := v7 (big m hm)
 have hss : 2 ≤ (-(e + lgp P + 3)).toNat := by omega
 have b1 := usc_bounds mn (PT i).1 (PT i).2 _ hmn2 htab.2 hss (big mn hmn)
 have b4 := usc_bounds mx (PT i).1 (PT i).2 _ hmx2 htab.2 hss (big mx hmx)
 have b7 := usc_bounds m (PT i).1 (PT i).2 _ hm2 htab.2 hss (big m hm)
 rw [← w1] at b1
 rw [← w4] at b4
 rw [← w7] at b7
 have w2 := v2 (by omega) (by omega)
 have w3 := v3 (by omega)
 have w5 := v5 (by omega) (by omega)
 have w8 := v8 (by omega)
 unfold shV
 dsimp only
 rw [hi, ← w1, ← w4, ← w7]
 have d1 : (a1 + od + 3) / 4 = dmin := by rw [w3]; omega
 have d2 : (a3 - od) / 4 = dmax := by rw [v6]; omega
 rw [d1, d2, ← w8]
theorem shX_short (PT : Nat → Nat × Nat) (mb top mant j : Nat) (hm : 0 < mant) (hmb : 1 ≤ mb ∧ mb ≤ 52) (h : 2 ^ mb ≤ mant ∨ j = 0) (hm2 : mant < 2 ^ (mb + 1)) (h1 : -1074 ≤ (j : Int) - top) (h2 : (j : Int) - top ≤ 971)
 (htab : ∀ i, i < 696 → 2 ^ 63 ≤ (PT i).1 ∧ (PT i).1 < 2 ^ 64) :
 ShGood PT mb (-(top + 63 - mb : Int)) (mant * 2 ^ (64 - len mant)) ((j : Int) - top - (64 - len mant : Nat))
 ∧ shPow mb (-(top + 63 - mb : Int)) (mant * 2 ^ (64 - len mant)) ((j : Int) - top - (64 - len mant : Nat)) = shP (skewed mb mant j) ((j : Int) - top)
 ∧ shX PT mb (-(top + 63 - mb : Int)) (mant * 2 ^ (64 - len mant)) ((j : Int) - top - (64 - len mant : Nat))
  = shortD mb top mant j (PT (shP (skewed mb mant j) ((j : Int) - top) + 348).toNat).1 (PT (shP (skewed mb mant j) ((j : Int) - top) + 348).toNat).2 := by
 have hl := len_bound hm hm2 hmb.2
 have lb := len_bounds hm
 have hl1 : 1 ≤ len mant := by unfold len; omega
 have hlm : len mant ≤ mb + 1 := by
  unfold len
  have : mant.log2 < mb + 1 := (Nat.log2_lt (by omega)).2 hm2
  omega
 have hlj : 1 ≤ j → len mant = mb + 1 := by
  intro hj
  have hge : 2 ^ mb ≤ mant := by
   rcases h with h | h
   · exact h
   · omega
  have : mb ≤ mant.log2 := (Nat.le_log2 (by omega)).2 hge
  unfold len at *; omega
 have hz : shZ mb (-(top + 63 - mb : Int)) ((j : Int) - top - (64 - len mant : Nat)) = 64 - len mant := by
  unfold shZ
  split
  · rename_i hc
    by_cases hj : 1 ≤ j
    · have := hlj hj; omega
    · omega
  · rename_i hc
    by_cases hj : 1 ≤ j
    · have := hlj hj; omega
    · omega
 have hp64 : ∀ a, mant = a → a * 2 ^ (64 - len mant) = a * 2 ^ (64 - len mant) := fun _ _ => rfl
 have hsk : shSk (-(top + 63 - mb : Int)) (mant * 2 ^ (64 - len mant)) ((j : Int) - top - (64 - len mant : Nat)) = skewed mb mant j := by
  unfold shSk skewed
  rw [decide_eq_decide]
  have e63 : (2 : Nat) ^ 63 = 2 ^ (len mant - 1) * 2 ^ (64 - len mant) := by rw [← Nat.pow_add]; congr 1; omega
  constructor
  · rintro ⟨a, b⟩
    rw [e63] at a
    have a' := Nat.eq_of_mul_eq_mul_right (Nat.two_pow_pos _) a
    have hj : 1 ≤ j := by
     rcases Nat.eq_zero_or_pos j with hj | hj
     · omega
     · exact hj
    rw [hlj hj] at a'
    exact ⟨by simpa using a', hj⟩
  · rintro ⟨a, b⟩
    have := hlj b
    refine ⟨?_, by omega⟩
    rw [e63, this, a]; simp
 have hpow : shPow mb (-(top + 63 - mb : Int)) (mant * 2 ^ (64 - len mant)) ((j : Int) - top - (64 - len mant : Nat)) = shP (skewed mb mant j) ((j : Int) - top) := by
  unfold shPow shP
  rw [hsk, hz, show (j : Int) - top - (64 - len mant : Nat) + (64 - len mant : Nat) = (j : Int) - top by omega]
 obtain ⟨-, w1, w2, w3, w4⟩ := wide_of (skewed mb mant j) _ h1 h2
 refine ⟨⟨htab, by rw [hz]; omega, ?_, ?_⟩, hpow, ?_⟩
 · rw [hz]
   have a1 : (2 * mant + 1) * 2 ^ (63 - len mant) < (2 * 2 ^ len mant) * 2 ^ (63 - len mant) := Nat.mul_lt_mul_of_pos_right (by omega) (Nat.two_pow_pos _)
   have a2 : (2 * 2 ^ len mant) * 2 ^ (63 - len mant) = 2 ^ 64 := by
    rw [Nat.mul_assoc, ← Nat.pow_add, show len mant + (63 - len mant) = 63 by omega]
   have a3 : mant * 2 ^ (64 - len mant) + 2 ^ (64 - len mant - 1) = (2 * mant + 1) * 2 ^ (63 - len mant) := by
    rw [show 64 - len mant - 1 = 63 - len mant by omega, show 64 - len mant = (63 - len mant) + 1 by omega, Nat.pow_succ]; grind
   omega
 · rw [hpow]; omega
 · unfold shX shortD shV
   rw [hpow, hsk, hz]
   dsimp only
   have s1 : (-((j : Int) - top - (64 - len mant : Nat) + lgp (shP (skewed mb mant j) ((j : Int) - top)) + 3)).toNat = (64 - (len mant : Int) - ((j : Int) - top) - lgp (shP (skewed mb mant j) ((j : Int) - top)) - 3).toNat := by omega
   have s2 : 64 - len mant - 2 = 62 - len mant := by omega
   have s3 : 64 - len mant - 1 = 63 - len mant := by omega
   have s4 : mant * 2 ^ (64 - len mant) / 2 ^ (64 - len mant) = mant := Nat.mul_div_cancel _ (Nat.two_pow_pos _)
   rw [s1, s2, s3, s4]
   have s5 : (if skewed mb mant j = true then mant * 2 ^ (64 - len mant) - 2 ^ (62 - len mant) else mant * 2 ^ (64 - len mant) - 2 ^ (63 - len mant)) = mant * 2 ^ (64 - len mant) - (if skewed mb mant j = true then 2 ^ (62 - len mant) else 2 ^ (63 - len mant)) := by split <;> rfl
   rw [s5]
end Go.Proofs.YtonegoemmologaaGreatDoor.Fl
