/-
  A number of 64 bits that equals one of 32 bits is finite as one of 32 bits: of the format alone, no function of the program is named.
  shortFloat: where it says yes of a number, its conversion to 32 bits draws nothing.
  appendFloat of the text form: total, and a function of the bits and the size.
-/
import Derived.Test.YtmijjppjodpagaaGreatDoorM01
import Derived.Test.YtmijjppjodpagaaGreatDoorM13
import Derived.Test.YtmijjppjodpagaaGreatDoorM11
set_option linter.unusedVariables false
set_option linter.unusedSimpArgs false
namespace Go.Proofs.YtmijjppjodpagaaGreatDoor
open Ieee

theorem flt_cut_zero (n : Nat) (s : Bool) : Toward.even.cut s n 0 = n := by
  unfold Toward.cut
  simp [Nat.mod_one]
theorem flt_log2_shift (m : Nat) (h : m ≠ 0) (h2 : m.log2 ≤ 52) : 2 ^ 52 ≤ m <<< (52 - m.log2) ∧ m <<< (52 - m.log2) < 2 ^ 53 := by
  rw [Nat.shiftLeft_eq]
  have h3 := Nat.log2_self_le h
  have h4 := @Nat.lt_log2_self m
  constructor
  · calc 2 ^ 52 = 2 ^ m.log2 * 2 ^ (52 - m.log2) := by rw [← Nat.pow_add]; congr 1; omega
      _ ≤ _ := Nat.mul_le_mul_right _ h3
  · calc m * 2 ^ (52 - m.log2) < 2 ^ (m.log2 + 1) * 2 ^ (52 - m.log2) := Nat.mul_lt_mul_of_pos_right h4 (Nat.two_pow_pos _)
      _ = 2 ^ 53 := by rw [← Nat.pow_add]; congr 1; omega
theorem flt_read_word (s : Bool) (r : Nat) (h0 : 2 ^ 52 ≤ r) (h : r < 2047 * 2 ^ 52) :
    double.read (double.word s r) = .number s (2 ^ 52 + r % 2 ^ 52) (-1074 + ((r / 2 ^ 52 - 1 : Nat) : Int)) := by
  have hw : double.signWeight = 2 ^ 63 := rfl
  have hb : double.binade = 2 ^ 52 := rfl
  have hi : double.infRung = 2047 * 2 ^ 52 := rfl
  have hl : double.leastPlace = -1074 := rfl
  have hr : r < 2 ^ 63 := by omega
  have h1 : double.word s r / double.signWeight % 2 = (if s then 1 else 0) := by
    rw [hw]; unfold Format.word; rw [hw]
    cases s
    · simp; omega
    · simp only [if_true]; omega
  have h2 : double.word s r % double.signWeight = r := by
    rw [hw]; unfold Format.word; rw [hw]
    cases s
    · simp; omega
    · simp only [if_true]; omega
  unfold Format.read
  simp only [h1, h2, hb, hi, hl]
  rw [if_neg (by omega), if_pos h]
  cases s <;> simp
theorem flt_wide (s : Bool) (m : Nat) (e : Int) (hm : m ≠ 0) (hm2 : m < 2 ^ 24) (he : -149 ≤ e) (he2 : e ≤ 104) :
    double.read (double.nearest s m e) = .number s (m <<< (52 - m.log2)) (e + m.log2 - 52) := by
  have hlg : m.log2 ≤ 23 := by have := (Nat.log2_lt hm (k := 24)).2 hm2; omega
  obtain ⟨b1, b2⟩ := flt_log2_shift m hm (by omega)
  have hb : double.binade = 2 ^ 52 := rfl
  have hi : double.infRung = 2047 * 2 ^ 52 := rfl
  have hl : double.leastPlace = -1074 := rfl
  have hf : double.fractionBits = 52 := rfl
  unfold Format.nearest
  rw [if_neg hm]
  simp only [hb, hi, hl, hf]
  have hmax : max (e + (m.log2 : Int) - ((52 : Nat) : Int)) (-1074) = e + m.log2 - 52 := by omega
  rw [hmax]
  have e1 : (e - (e + (m.log2 : Int) - 52)).toNat = 52 - m.log2 := by omega
  have e2 : ((e + (m.log2 : Int) - 52) - e).toNat = 0 := by omega
  rw [e1, e2, flt_cut_zero]
  obtain ⟨k, hk⟩ : ∃ k, m <<< (52 - m.log2) = k := ⟨_, rfl⟩
  rw [hk] at b1 b2 ⊢
  obtain ⟨q, hq⟩ : ∃ q : Nat, (e + (m.log2 : Int) - 52 - -1074).toNat = q := ⟨_, rfl⟩
  have hq2 : (q : Int) = e + (m.log2 : Int) - 52 + 1074 := by omega
  have hq3 : q ≤ 1150 := by omega
  have g1 : 2 ^ 52 ≤ q * 2 ^ 52 + k := by clear hk; omega
  have g2 : q * 2 ^ 52 + k < 2047 * 2 ^ 52 := by clear hk hb hi hl hf hmax e1 e2 hq; omega
  have h8 := flt_read_word s (q * 2 ^ 52 + k) g1 g2
  rw [hq]
  have hmin : min (q * 2 ^ 52 + k) (2047 * 2 ^ 52) = q * 2 ^ 52 + k := by
    apply Nat.min_eq_left
    exact Nat.le_of_lt g2
  have h9 : (q * 2 ^ 52 + k) / 2 ^ 52 = q + 1 := by clear hk hb hi hl hf hmax e1 e2 hq hmin h8; omega
  have h10 : 2 ^ 52 + (q * 2 ^ 52 + k) % 2 ^ 52 = k := by clear hk hb hi hl hf hmax e1 e2 hq hmin h8 h9; omega
  rw [h9, h10] at h8
  rw [hmin, h8]
  have h11 : -1074 + ((q + 1 - 1 : Nat) : Int) = e + m.log2 - 52 := by clear hk hb hi hl hf hmax e1 e2 hq hmin h8 h9 h10; omega
  rw [h11]



theorem flt_small_read (s : Bool) (r : Nat) (h : r < 255 * 2 ^ 23) : (single.read (single.word s r)).isInfinity = false := by
  have hw : single.signWeight = 2 ^ 31 := rfl
  have hi : single.infRung = 255 * 2 ^ 23 := rfl
  have h2 : single.word s r % single.signWeight = r := by
    rw [hw]; unfold Format.word; rw [hw]
    cases s
    · simp; omega
    · simp only [if_true]; omega
  unfold Format.read
  simp only [h2, hi]
  split
  · rfl
  · first | rfl | (rw [if_pos h]; rfl)

theorem flt_back (s : Bool) (n : Nat) (j : Int) (hm : n ≠ 0) (hm2 : n < 2 ^ 24) (he : -149 ≤ j) (he2 : j ≤ 104) :
    (single.read (single.nearest s (n <<< (52 - n.log2)) (j + n.log2 - 52))).isInfinity = false := by
  have hlg : n.log2 ≤ 23 := by have := (Nat.log2_lt hm (k := 24)).2 hm2; omega
  obtain ⟨b1, b2⟩ := flt_log2_shift n hm (by omega)
  obtain ⟨m, hmk⟩ : ∃ m, n <<< (52 - n.log2) = m := ⟨_, rfl⟩
  have hdiv : 2 ^ 29 ∣ m := by
    rw [← hmk, Nat.shiftLeft_eq]
    exact Nat.dvd_trans (Nat.pow_dvd_pow 2 (by omega)) (Nat.dvd_mul_left _ _)
  rw [hmk] at b1 b2 ⊢
  clear hmk
  have hm0 : m ≠ 0 := by omega
  have hml : m.log2 = 52 := by
    have h1 := (Nat.log2_lt hm0 (k := 53)).2 b2
    have h2 := (Nat.le_log2 hm0 (k := 52)).2 b1
    omega
  obtain ⟨L, hL⟩ : ∃ L, n.log2 = L := ⟨_, rfl⟩
  rw [hL] at hlg ⊢
  clear hL
  have hb : single.binade = 2 ^ 23 := rfl
  have hi : single.infRung = 255 * 2 ^ 23 := rfl
  have hl : single.leastPlace = -149 := rfl
  have hf : single.fractionBits = 23 := rfl
  unfold Format.nearest
  rw [if_neg hm0]
  simp only [hb, hi, hl, hf, hml]
  by_cases hc : -149 ≤ j + L - 23
  · have hmax : max (j + (L : Int) - 52 + ((52 : Nat) : Int) - ((23 : Nat) : Int)) (-149) = j + L - 23 := by omega
    rw [hmax]
    have e1 : (j + (L : Int) - 52 - (j + (L : Int) - 23)).toNat = 0 := by omega
    have e2 : ((j + (L : Int) - 23) - (j + (L : Int) - 52)).toNat = 29 := by omega
    rw [e1, e2]
    have hcut : Toward.even.cut s (m <<< 0) 29 = m / 2 ^ 29 := by
      unfold Toward.cut
      simp only [Nat.shiftLeft_zero, hml]
      have hg : 1 <<< (min 29 (52 + 2)) = 2 ^ 29 := rfl
      rw [hg]
      have h0 : m % 2 ^ 29 = 0 := Nat.mod_eq_zero_of_dvd hdiv
      rw [h0]
      simp
    rw [hcut]
    obtain ⟨q, hq⟩ : ∃ q : Nat, (j + (L : Int) - 23 - -149).toNat = q := ⟨_, rfl⟩
    have hq2 : q ≤ 253 := by omega
    rw [hq]
    have hk : m / 2 ^ 29 < 2 ^ 24 := by clear hb hi hl hf hq e1 e2 hmax hcut; omega
    obtain ⟨k, hkk⟩ : ∃ k, m / 2 ^ 29 = k := ⟨_, rfl⟩
    rw [hkk] at hk ⊢
    have hlt : q * 2 ^ 23 + k < 255 * 2 ^ 23 := by clear hb hi hl hf hq e1 e2 hmax hcut hkk hdiv b1 b2 hml; omega
    rw [Nat.min_eq_left (Nat.le_of_lt hlt)]
    exact flt_small_read s _ hlt
  · have hmax : max (j + (L : Int) - 52 + ((52 : Nat) : Int) - ((23 : Nat) : Int)) (-149) = -149 := by omega
    rw [hmax]
    have e1 : (j + (L : Int) - 52 - -149).toNat = 0 := by omega
    have e3 : ((-149 : Int) - -149).toNat = 0 := rfl
    obtain ⟨D, hD⟩ : ∃ D, ((-149 : Int) - (j + (L : Int) - 52)).toNat = D := ⟨_, rfl⟩
    have hD2 : 30 ≤ D := by omega
    rw [e1, e3, hD, Nat.shiftLeft_zero]
    have hcut : Toward.even.cut s m D ≤ 2 ^ 24 := by
      unfold Toward.cut
      simp only [hml]
      have hg : 2 ^ 30 ≤ 1 <<< (min D (52 + 2)) := by
        rw [Nat.shiftLeft_eq, Nat.one_mul]
        exact Nat.pow_le_pow_right (by omega) (by omega)
      obtain ⟨G, hG⟩ : ∃ G, 1 <<< (min D (52 + 2)) = G := ⟨_, rfl⟩
      rw [hG] at hg ⊢
      have h1 : m / G ≤ m / 2 ^ 30 := Nat.div_le_div_left hg (Nat.two_pow_pos _)
      have h2 : m / 2 ^ 30 < 2 ^ 23 := by clear hb hi hl hf hD e1 e3 hmax hG h1; omega
      have h3 : ∀ b : Bool, b.toNat ≤ 1 := by decide
      have h4 := h3 (decide (G < 2 * (m % G)) || (G == 2 * (m % G) && m / G % 2 == 1))
      obtain ⟨z, hz⟩ : ∃ z, (decide (G < 2 * (m % G)) || (G == 2 * (m % G) && m / G % 2 == 1)).toNat = z := ⟨_, rfl⟩
      rw [hz] at h4 ⊢
      obtain ⟨y, hy⟩ : ∃ y, m / G = y := ⟨_, rfl⟩
      rw [hy] at h1 ⊢
      clear hb hi hl hf hD e1 e3 hmax hG hz hy hdiv
      omega
    obtain ⟨k, hkk⟩ : ∃ k, Toward.even.cut s m D = k := ⟨_, rfl⟩
    rw [hkk] at hcut ⊢
    have hlt : 0 * 2 ^ 23 + k < 255 * 2 ^ 23 := by clear hb hi hl hf hD e1 e3 hmax hkk hdiv b1 b2 hml; omega
    rw [Nat.min_eq_left (Nat.le_of_lt hlt)]
    exact flt_small_read s _ hlt
theorem flt_read32_range {r : Nat} {s : Bool} {m : Nat} {e : Int} (h : single.read r = .number s m e) : m < 2 ^ 24 ∧ -149 ≤ e ∧ e ≤ 104 := by
  have hw : single.signWeight = 2 ^ 31 := rfl
  have hb : single.binade = 2 ^ 23 := rfl
  have hi : single.infRung = 255 * 2 ^ 23 := rfl
  have hl : single.leastPlace = -149 := rfl
  unfold Format.read at h
  simp only [hw, hb, hi, hl] at h
  obtain ⟨g, hg⟩ : ∃ g, r % 2 ^ 31 = g := ⟨_, rfl⟩
  rw [hg] at h
  clear hw hb hi hl hg
  split at h
  · cases h; omega
  · split at h
    · cases h; omega
    · split at h <;> cases h
theorem flt_read64_range {r : Nat} {s : Bool} {m : Nat} {e : Int} (h : double.read r = .number s m e) : m < 2 ^ 53 ∧ (2 ^ 52 ≤ m ∨ e = -1074) := by
  have hw : double.signWeight = 2 ^ 63 := rfl
  have hb : double.binade = 2 ^ 52 := rfl
  have hi : double.infRung = 2047 * 2 ^ 52 := rfl
  have hl : double.leastPlace = -1074 := rfl
  unfold Format.read at h
  simp only [hw, hb, hi, hl] at h
  obtain ⟨g, hg⟩ : ∃ g, r % 2 ^ 63 = g := ⟨_, rfl⟩
  rw [hg] at h
  clear hw hb hi hl hg
  split at h
  · cases h; omega
  · split at h
    · cases h; omega
    · split at h <;> cases h
theorem flt_signed_nat (s : Bool) (m k : Nat) : (signed s m k).natAbs = m <<< k := by
  unfold signed
  cases s
  · exact Int.natAbs_natCast _
  · exact (Int.natAbs_neg _).trans (Int.natAbs_natCast _)
/-- Numbers of which both are as long as can be, and equal: the same number and place. -/
theorem flt_same_place {m n : Nat} {e j : Int} (hm : 2 ^ 52 ≤ m) (hm2 : m < 2 ^ 53) (hn : 2 ^ 52 ≤ n) (hn2 : n < 2 ^ 53)
    (h : m <<< (e - min e j).toNat = n <<< (j - min e j).toNat) : m = n ∧ e = j := by
  rw [Nat.shiftLeft_eq, Nat.shiftLeft_eq] at h
  rcases Int.lt_trichotomy e j with h1 | h1 | h1
  · have e1 : (e - min e j).toNat = 0 := by omega
    obtain ⟨k, hk⟩ : ∃ k, (j - min e j).toNat = k + 1 := ⟨(j - min e j).toNat - 1, by omega⟩
    rw [e1, hk, Nat.pow_succ] at h
    have h2 := Nat.two_pow_pos k
    obtain ⟨z, hz⟩ : ∃ z, 2 ^ k = z := ⟨_, rfl⟩
    rw [hz] at h h2
    have h3 : n * 1 ≤ n * z := Nat.mul_le_mul_left _ h2
    rw [← Nat.mul_assoc] at h
    omega
  · subst h1
    have e1 : (e - min e e).toNat = 0 := by omega
    rw [e1] at h
    exact ⟨by omega, rfl⟩
  · have e1 : (j - min e j).toNat = 0 := by omega
    obtain ⟨k, hk⟩ : ∃ k, (e - min e j).toNat = k + 1 := ⟨(e - min e j).toNat - 1, by omega⟩
    rw [e1, hk, Nat.pow_succ] at h
    have h2 := Nat.two_pow_pos k
    obtain ⟨z, hz⟩ : ∃ z, 2 ^ k = z := ⟨_, rfl⟩
    rw [hz] at h h2
    have h3 : m * 1 ≤ m * z := Nat.mul_le_mul_left _ h2
    rw [← Nat.mul_assoc] at h
    omega
theorem flt_small_place {m n : Nat} {e j : Int} (hm : m < 2 ^ 52) (hn : 2 ^ 52 ≤ n) (he : e ≤ j)
    (h : m <<< (e - min e j).toNat = n <<< (j - min e j).toNat) : False := by
  rw [Nat.shiftLeft_eq, Nat.shiftLeft_eq] at h
  have e1 : (e - min e j).toNat = 0 := by omega
  obtain ⟨k, hk⟩ : ∃ k, (j - min e j).toNat = k := ⟨_, rfl⟩
  rw [e1, hk] at h
  have h2 := Nat.two_pow_pos k
  obtain ⟨z, hz⟩ : ∃ z, 2 ^ k = z := ⟨_, rfl⟩
  rw [hz] at h h2
  have h3 : n * 1 ≤ n * z := Nat.mul_le_mul_left _ h2
  omega
/-- A number of 64 bits that equals one of 32 bits is no infinity of 32 bits. -/
theorem fits32 (x r : Nat) (s : Bool) (m : Nat) (e : Int) (hx : double.read x = .number s m e) (h : double.order x (double.write (single.read r)) = some .eq) :
    (single.read (single.nearest s m e)).isInfinity = false := by
  by_cases hm0 : m = 0
  · subst hm0
    unfold Format.nearest
    rw [if_pos rfl]
    exact flt_small_read s 0 (by decide)
  obtain ⟨x1, x2⟩ := flt_read64_range hx
  unfold Format.order at h
  rw [hx] at h
  cases hr : single.read r with
  | infinity t =>
    rw [hr] at h
    have h5 : double.read (double.write (.infinity t)) = .infinity t := by cases t <;> rfl
    rw [h5] at h
    cases t <;> simp [Datum.order] at h
  | nan t q =>
    rw [hr] at h
    have h5 : ∃ u v, double.read (double.write (.nan t q)) = .nan u v ∨ ∃ u, double.read (double.write (.nan t q)) = .infinity u := by
      have hw : double.signWeight = 2 ^ 63 := rfl
      have hb : double.binade = 2 ^ 52 := rfl
      have hi : double.infRung = 2047 * 2 ^ 52 := rfl
      have hl : double.leastPlace = -1074 := rfl
      unfold Format.write
      simp only [hb]
      have hq : q % 2 ^ 52 < 2 ^ 52 := Nat.mod_lt _ (Nat.two_pow_pos _)
      obtain ⟨y, hy⟩ : ∃ y, q % 2 ^ 52 = y := ⟨_, rfl⟩
      rw [hy] at hq ⊢
      clear hy
      have h2 : double.word t (double.infRung + y) % double.signWeight = 2047 * 2 ^ 52 + y := by
        rw [hw, hi]; unfold Format.word; rw [hw]
        clear hw hb hi hl hr h hx x1 x2
        cases t
        · simp; omega
        · simp only [if_true]; omega
      rw [hi] at h2
      unfold Format.read
      simp only [hb, hi, hl, h2]
      clear hw hb hi hl hr h hx x1 x2 h2
      rw [if_neg (by omega), if_neg (by omega)]
      by_cases hy0 : 2047 * 2 ^ 52 + y = 2047 * 2 ^ 52
      · rw [if_pos hy0]; exact ⟨false, 0, .inr ⟨_, rfl⟩⟩
      · rw [if_neg hy0]; exact ⟨_, _, .inl rfl⟩
    obtain ⟨u, v, h5 | ⟨u, h5⟩⟩ := h5
    · rw [h5] at h; simp [Datum.order] at h
    · rw [h5] at h; cases u <;> simp [Datum.order] at h
  | number t n j =>
    rw [hr] at h
    obtain ⟨r1, r2, r3⟩ := flt_read32_range hr
    simp only [Format.write] at h
    by_cases hn : n = 0
    · subst hn
      have h5 : double.read (double.nearest t 0 j) = .number t 0 (-1074) := by
        unfold Format.nearest
        rw [if_pos rfl]
        cases t <;> rfl
      rw [h5] at h
      simp only [Datum.order, Option.some.injEq] at h
      have h6 := congrArg Int.natAbs (Std.compare_eq_iff_eq.1 h)
      rw [flt_signed_nat, flt_signed_nat, Nat.zero_shiftLeft, Nat.shiftLeft_eq] at h6
      have h7 := Nat.two_pow_pos (e - min e (-1074)).toNat
      rcases Nat.mul_eq_zero.1 h6 with h8 | h8 <;> omega
    · rw [flt_wide t n j hn r1 r2 r3] at h
      simp only [Datum.order, Option.some.injEq] at h
      have h6 := congrArg Int.natAbs (Std.compare_eq_iff_eq.1 h)
      rw [flt_signed_nat, flt_signed_nat] at h6
      have hlg : n.log2 ≤ 23 := by have := (Nat.log2_lt hn (k := 24)).2 r1; omega
      obtain ⟨b1, b2⟩ := flt_log2_shift n hn (by omega)
      have h7 := flt_back s n j hn r1 r2 r3
      obtain ⟨k, hk⟩ : ∃ k, n <<< (52 - n.log2) = k := ⟨_, rfl⟩
      obtain ⟨i, hi⟩ : ∃ i, j + (n.log2 : Int) - 52 = i := ⟨_, rfl⟩
      rw [hk] at h6 b1 b2 h7
      rw [hi] at h6 h7
      by_cases hb : 2 ^ 52 ≤ m
      · obtain ⟨rfl, rfl⟩ := flt_same_place hb x1 b1 b2 h6
        exact h7
      · have he : e ≤ i := by rcases x2 with h8 | h8 <;> omega
        exact absurd (flt_small_place (by omega) b1 he h6) id
end Go.Proofs.YtmijjppjodpagaaGreatDoor

namespace Go.Proofs.YtmijjppjodpagaaGreatDoor
open Go.RowKit

/-- The conversion of b to 32 bits draws nothing. -/
def Short (b : Nat) : Prop := ∃ r, r < 4294967296 ∧ ∀ w, (convert 93 164 (.float .f64 b)).run Tryz.prog w = .ok (.float .f32 r) w
/-- b is no number, or its conversion to 32 bits draws nothing. -/
def FOk (b : Nat) : Prop := (FloatKind.f64.format.order b b != some Ordering.eq) = false → Short b

theorem conv_run (w : World) (b : Nat) (sT dT : TypeId) (sk dk : FloatKind) (v : Value) (hs : (Tryz.prog.underlying sT).isSome = true) (hd : Tryz.prog.underlying dT = some (.float dk)) (w' : World) (h : (Conv.floatToFloat sk b dk).run Tryz.prog w = .ok v w') :
    (convert sT dT (.float sk b)).run Tryz.prog w = .ok v w' := by
  obtain ⟨s, hs'⟩ := Option.isSome_iff_exists.1 hs
  cases s <;> simp [convert, run_underlying hs', run_underlying hd, h]
theorem word32_lt (s : Bool) (r : Nat) (h : r ≤ 255 * 2 ^ 23) : Ieee.single.word s r < 4294967296 := by
  unfold Ieee.Format.word
  have hw : Ieee.single.signWeight = 2 ^ 31 := rfl
  rw [hw]
  split <;> omega
theorem nearest32_lt (s : Bool) (m : Nat) (e : Int) : Ieee.single.nearest s m e < 4294967296 := by
  unfold Ieee.Format.nearest
  split
  · exact word32_lt s 0 (by omega)
  · exact word32_lt s _ (Nat.min_le_right _ _)
theorem order_swap (a b : Nat) (h : Ieee.double.order a b = some .eq) : Ieee.double.order b a = some .eq := by
  unfold Ieee.Format.order at h ⊢
  cases ha : Ieee.double.read a <;> cases hb : Ieee.double.read b <;> rw [ha, hb] at h <;> simp only [Ieee.Datum.order] at h ⊢
  · simp only [Option.some.injEq] at h ⊢
    rename_i s m i t n j
    rw [Int.min_comm i j] at h
    rw [Std.compare_eq_iff_eq] at h ⊢
    exact h.symm
  · split at h <;> cases h
  · cases h
  · split at h <;> cases h
  · simp only [Option.some.injEq] at h ⊢
    rw [Std.compare_eq_iff_eq] at h ⊢
    exact h.symm
  all_goals cases h
/-- What the two conversions of a finite number bring: where the first draws, the number does not come back. -/
theorem short_of_back (f : Nat) (w : World) (hn : (FloatKind.f64.format.order f f != some Ordering.eq) = false) :
    ∃ r1 n1 r2 n2, (convert 93 164 (.float .f64 f)).run Tryz.prog w = .ok (.float .f32 r1) (w.drewN n1) ∧
      (convert 164 93 (.float .f32 r1)).run Tryz.prog (w.drewN n1) = .ok (.float .f64 r2) ((w.drewN n1).drewN n2) ∧ (Ieee.double.order f r2 = some .eq → Short f) := by
  cases hr : FloatKind.f64.decode f with
  | nan s t =>
    exfalso
    have : FloatKind.f64.format.order f f = none := by
      show Ieee.Datum.order (FloatKind.f64.decode f) (FloatKind.f64.decode f) = none
      rw [hr]; rfl
    rw [this] at hn
    cases hn
  | infinity s =>
    have h1 : ∀ w, (convert 93 164 (.float .f64 f)).run Tryz.prog w = .ok (.float .f32 (FloatKind.f32.encode (.infinity s))) w := fun w => by
      refine conv_run w f _ _ .f64 .f32 _ (by kernel_rfl) (by kernel_rfl) _ ?_
      simp [Conv.floatToFloat, hr]
    obtain ⟨r2, n2, h2⟩ := convert_ff 164 93 .f32 .f64 (FloatKind.f32.encode (.infinity s)) w (by kernel_rfl) (by kernel_rfl)
    exact ⟨_, 0, r2, n2, h1 w, h2, fun _ => ⟨_, word32_lt s _ (Nat.le_refl _), h1⟩⟩
  | number s m e =>
    cases hi : (FloatKind.f32.decode (FloatKind.f32.encode (.number s m e))).isInfinity with
    | false =>
      have h1 : ∀ w, (convert 93 164 (.float .f64 f)).run Tryz.prog w = .ok (.float .f32 (FloatKind.f32.encode (.number s m e))) w := fun w => by
        refine conv_run w f _ _ .f64 .f32 _ (by kernel_rfl) (by kernel_rfl) _ ?_
        simp [Conv.floatToFloat, hr, hi]
      obtain ⟨r2, n2, h2⟩ := convert_ff 164 93 .f32 .f64 (FloatKind.f32.encode (.number s m e)) w (by kernel_rfl) (by kernel_rfl)
      exact ⟨_, 0, r2, n2, h1 w, h2, fun _ => ⟨_, nearest32_lt s m e, h1⟩⟩
    | true =>
      obtain ⟨r1, n1, h1⟩ := convert_ff 93 164 .f64 .f32 f w (by kernel_rfl) (by kernel_rfl)
      cases hr1 : FloatKind.f32.decode r1 with
      | nan s1 t1 =>
        have hf : (Question.nanConv .f64 r1).forced = false := rfl
        obtain ⟨r2, hr2, h2⟩ : ∃ r2, (∃ t : Nat, r2 = (t % 2) * 2 ^ 63 + 0x7ff0000000000000 + 1 + (t / 2) % (2 ^ 52 - 1)) ∧ (convert 164 93 (.float .f32 r1)).run Tryz.prog (w.drewN n1) = .ok (.float .f64 r2) ((w.drewN n1).drewN 1) :=
          ⟨_, ⟨_, rfl⟩, conv_run (w.drewN n1) r1 _ _ .f32 .f64 _ (by kernel_rfl) (by kernel_rfl) _ (by simp [Conv.floatToFloat, hr1, hf]; rfl)⟩
        refine ⟨r1, n1, r2, 1, h1, h2, fun h => ?_⟩
        exfalso
        obtain ⟨t, rfl⟩ := hr2
        have hrd : ∃ a b, Ieee.double.read ((t % 2) * 2 ^ 63 + 0x7ff0000000000000 + 1 + (t / 2) % (2 ^ 52 - 1)) = .nan a b := by
          have hw : Ieee.double.signWeight = 2 ^ 63 := rfl
          have hb : Ieee.double.binade = 2 ^ 52 := rfl
          have hi : Ieee.double.infRung = 2047 * 2 ^ 52 := rfl
          have hl : Ieee.double.leastPlace = -1074 := rfl
          have h1 : t / 2 % (2 ^ 52 - 1) < 2 ^ 52 - 1 := Nat.mod_lt _ (by decide)
          obtain ⟨k, hk⟩ : ∃ k, t / 2 % (2 ^ 52 - 1) = k := ⟨_, rfl⟩
          obtain ⟨u, hu⟩ : ∃ u, t % 2 = u := ⟨_, rfl⟩
          rw [hk] at h1 ⊢
          rw [hu]
          have h2 : (u * 2 ^ 63 + 0x7ff0000000000000 + 1 + k) % 2 ^ 63 = 2047 * 2 ^ 52 + 1 + k := by clear hw hb hi hl hk hu; omega
          unfold Ieee.Format.read
          simp only [hw, hb, hi, hl, h2]
          clear hw hb hi hl hk hu h2
          rw [if_neg (by omega), if_neg (by omega), if_neg (by omega)]
          exact ⟨_, _, rfl⟩
        obtain ⟨a, b, hrd⟩ := hrd
        unfold Ieee.Format.order at h
        rw [hrd] at h
        have hr' : Ieee.double.read f = .number s m e := hr
        rw [hr'] at h
        cases h
      | infinity s1 =>
        refine ⟨r1, n1, _, 0, h1, conv_run (w.drewN n1) r1 _ _ .f32 .f64 (.float .f64 (FloatKind.f64.encode (.infinity s1))) (by kernel_rfl) (by kernel_rfl) _ (by simp [Conv.floatToFloat, hr1]), fun h => ?_⟩
        exfalso
        have h5 := fits32 f r1 s m e hr (by rw [show Ieee.single.read r1 = .infinity s1 from hr1]; exact h)
        rw [show FloatKind.f32.decode (FloatKind.f32.encode (.number s m e)) = Ieee.single.read (Ieee.single.nearest s m e) from rfl, h5] at hi
        cases hi
      | number s1 m1 e1 =>
        have hr1' : Ieee.single.read r1 = .number s1 m1 e1 := hr1
        obtain ⟨q1, q2, q3⟩ := flt_read32_range hr1'
        have hfin : (FloatKind.f64.decode (FloatKind.f64.encode (.number s1 m1 e1))).isInfinity = false := by
          show (Ieee.double.read (Ieee.double.nearest s1 m1 e1)).isInfinity = false
          by_cases hm : m1 = 0
          · subst hm
            unfold Ieee.Format.nearest
            rw [if_pos rfl]
            cases s1 <;> rfl
          · rw [flt_wide s1 m1 e1 hm q1 q2 q3]
            rfl
        refine ⟨r1, n1, _, 0, h1, conv_run (w.drewN n1) r1 _ _ .f32 .f64 (.float .f64 (FloatKind.f64.encode (.number s1 m1 e1))) (by kernel_rfl) (by kernel_rfl) _ (by simp [Conv.floatToFloat, hr1, hfin]), fun h => ?_⟩
        exfalso
        have h5 := fits32 f r1 s m e hr (by rw [hr1']; exact h)
        rw [show FloatKind.f32.decode (FloatKind.f32.encode (.number s m e)) = Ieee.single.read (Ieee.single.nearest s m e) from rfl, h5] at hi
        cases hi
set_option maxRecDepth 1000000 in
set_option maxHeartbeats 8000000 in
theorem shortFloat_short (f : Nat) (w : World) : Calls Tryz.prog 71 #[.int .u64 (f : Int)] w (Tells w (FOk f)) := by
  obtain ⟨T, hT⟩ : ∃ T, FOk f = T := ⟨_, rfl⟩
  by_cases hE : FloatKind.f64.format.order f f = some Ordering.eq
  · have hE1 : (FloatKind.f64.format.order f f != some Ordering.eq) = false := by rw [hE]; rfl
    obtain ⟨r1, n1, r2, n2, h1, h2, hs⟩ := short_of_back f w hE1
    have HS : Hid (FloatKind.f64.format.order r2 f = some Ordering.eq → T) := fun h => by rw [← hT]; exact fun _ => hs (order_swap r2 f h)
    rw [hT]
    clear hs hT
    go_enter Tryz.func71, Tryz.ntmps71
    go_wp2_with (go_at_call 104; refine (bitsFloat_any f _).mono ?_; rintro e w' ⟨rfl, rfl⟩)
    go_ret
    refine ⟨_, rfl, fun h => HS.out ?_, (Keeps.refl _ w).drewN _⟩
    simpa using h
  · have hE1 : (FloatKind.f64.format.order f f != some Ordering.eq) = true := by
      cases h : FloatKind.f64.format.order f f with
      | none => rfl
      | some o => cases o <;> first | rfl | exact absurd h hE
    have HT : Hid T := by
      show T
      rw [← hT]
      intro h
      rw [hE1] at h
      cases h
    rw [hT]
    clear hT
    go_enter Tryz.func71, Tryz.ntmps71
    go_wp2_with (go_at_call 104; refine (bitsFloat_any f _).mono ?_; rintro e w' ⟨rfl, rfl⟩)
    go_ret
    exact Tells.yes HT.out (Keeps.refl _ _)
set_option maxRecDepth 1000000 in
theorem narrow_float (w : World) : Calls Tryz.prog 70 #[.int .i64 2] w fun e w' => e = .returned (.bool true) ∧ Keeps (fun _ => False) w w' := by
  go_enter Tryz.func70, Tryz.ntmps70
  go_wp2_with (fail)
  go_ret
  exact ⟨rfl, Keeps.refl _ _⟩
end Go.Proofs.YtmijjppjodpagaaGreatDoor

namespace Go.Proofs.YtmijjppjodpagaaGreatDoor
open Go.RowKit
set_option maxRecDepth 1000000 in
theorem isNaN_any (f : Nat) (w : World) : Calls Tryz.prog 78 #[.float .f64 f] w fun e w' => e = .returned (.bool (FloatKind.f64.format.order f f != some Ordering.eq)) ∧ w' = w := by
  go_enter Tryz.func78, Tryz.ntmps78
  go_wp2_with (fail)
  go_ret
  exact ⟨rfl, rfl⟩
set_option maxRecDepth 1000000 in
theorem isInfp_any (f : Nat) (w : World) : Calls Tryz.prog 79 #[.float .f64 f, .int .i64 1] w fun e w' => e = .returned (.bool (FloatKind.f64.format.order f 9218868437227405311 == some Ordering.gt)) ∧ w' = w := by
  go_enter Tryz.func79, Tryz.ntmps79
  go_wp2_with (fail)
  go_ret
  exact ⟨rfl, rfl⟩
set_option maxRecDepth 1000000 in
theorem isInfm_any (f : Nat) (w : World) : Calls Tryz.prog 79 #[.float .f64 f, .int .i64 (-1)] w fun e w' => e = .returned (.bool (FloatKind.f64.format.order (Op.negFloat .f64 f) 9218868437227405311 == some Ordering.gt)) ∧ w' = w := by
  have hneg : ∀ w, (Op.unary UnOp.neg (.float .f64 f)).run Tryz.prog w = .ok (.float .f64 (Op.negFloat .f64 f)) w := fun _ => rfl
  obtain ⟨g, hg⟩ : ∃ g, Op.negFloat .f64 f = g := ⟨_, rfl⟩
  rw [hg] at hneg ⊢
  clear hg
  go_enter Tryz.func79, Tryz.ntmps79
  go_wp2_with (fail)
  go_ret
  exact ⟨rfl, rfl⟩
/-- What the two AppendFloats do at a size: append T. -/
def AppSay (PT : Nat → Nat × Nat) (f : FuncId) (b : Nat) (sz : Int) (T : List UInt8) : Prop := ∀ (w : World) (v : Value) (l : List UInt8), FT2 PT w → Own w v l → l.length ≤ 140737488350000 → Calls Tryz.prog f #[v, .float .f64 b, .int .u8 103, .int .i64 (-1), .int .i64 sz] w (OutRes w v (l ++ T))
set_option maxRecDepth 1000000 in
set_option maxHeartbeats 4000000 in
theorem app64_in (PT : Nat → Nat × Nat) (hPT : ∀ i, i < 696 → (PT i).1 < 18446744073709551616 ∧ (PT i).2 < 18446744073709551616) (b : Nat) (hb : b < 18446744073709551616) : ∃ T : List UInt8, T.length ≤ 1000 ∧ AppSay PT 108 b 64 T := by
  obtain ⟨T, hT, h⟩ := ftoa64_ex PT hPT b hb
  refine ⟨T, hT, fun w v l hF hO hl => ?_⟩
  have HH := Lib.hid (h w v l hF hO hl)
  clear h hF hO hl
  go_enter Tryz.func108, Tryz.ntmps108
  go_wp2_with (go_at_call 131; refine HH.out.mono ?_; rintro e w2 ⟨v2, rfl, o2⟩; have O2 := Lib.hid o2; clear o2)
  go_ret
  exact ⟨_, rfl, O2.out⟩
set_option maxRecDepth 1000000 in
set_option maxHeartbeats 4000000 in
theorem app32_in (PT : Nat → Nat × Nat) (hPT : ∀ i, i < 696 → (PT i).1 < 18446744073709551616 ∧ (PT i).2 < 18446744073709551616) (b : Nat) (hs : Short b) : ∃ T : List UInt8, T.length ≤ 1000 ∧ AppSay PT 108 b 32 T := by
  obtain ⟨r, hr, hc⟩ := hs
  obtain ⟨T, hT, h⟩ := ftoa32_ex PT hPT r hr
  refine ⟨T, hT, fun w v l hF hO hl => ?_⟩
  have HH := Lib.hid (h w v l hF hO hl)
  clear h hF hO hl
  go_enter Tryz.func108, Tryz.ntmps108
  go_wp2_with (go_at_call 130; refine HH.out.mono ?_; rintro e w2 ⟨v2, rfl, o2⟩; have O2 := Lib.hid o2; clear o2)
  go_ret
  exact ⟨_, rfl, O2.out⟩
set_option maxRecDepth 1000000 in
set_option maxHeartbeats 4000000 in
theorem app_out (PT : Nat → Nat × Nat) (b : Nat) (sz : Int) (T : List UInt8) (h : AppSay PT 108 b sz T) : AppSay PT 80 b sz T := by
  intro w v l hF hO hl
  have HH := Lib.hid (h w v l hF hO hl)
  clear h hF hO hl
  go_enter Tryz.func80, Tryz.ntmps80
  go_wp2_with (go_at_call 108; refine HH.out.mono ?_; rintro e w2 ⟨v2, rfl, o2⟩; have O2 := Lib.hid o2; clear o2)
  go_ret
  exact ⟨_, rfl, O2.out⟩
/-- What appendFloat does: append T. -/
def AFSay (PT : Nat → Nat × Nat) (b : Nat) (sz : Int) (T : List UInt8) : Prop := ∀ (w : World) (v : Value) (l : List UInt8), FT2 PT w → Own w v l → l.length ≤ 140737488350000 → Calls Tryz.prog 58 #[v, .float .f64 b, .int .i64 sz] w (OutRes w v (l ++ T))
set_option maxRecDepth 1000000 in
set_option maxHeartbeats 8000000 in
theorem appendFloat_of (PT : Nat → Nat × Nat) (b : Nat) (sz : Int) (h : (FloatKind.f64.format.order b b != some Ordering.eq) = false → ∃ T : List UInt8, T.length ≤ 1000 ∧ AppSay PT 80 b sz T) : ∃ T : List UInt8, T.length ≤ 1000 ∧ AFSay PT b sz T := by
  obtain ⟨q0, h0⟩ : ∃ q, (FloatKind.f64.format.order b b != some Ordering.eq) = q := ⟨_, rfl⟩
  obtain ⟨q1, h1⟩ : ∃ q, (FloatKind.f64.format.order b 9218868437227405311 == some Ordering.gt) = q := ⟨_, rfl⟩
  obtain ⟨q2, h2⟩ : ∃ q, (FloatKind.f64.format.order (Op.negFloat .f64 b) 9218868437227405311 == some Ordering.gt) = q := ⟨_, rfl⟩
  have N0 := Lib.hid (isNaN_any b)
  have N1 := Lib.hid (isInfp_any b)
  have N2 := Lib.hid (isInfm_any b)
  rw [h0] at N0 h
  rw [h1] at N1
  rw [h2] at N2
  clear h0 h1 h2
  cases q0
  · cases q1
    · cases q2
      · obtain ⟨T, hT, hs⟩ := h rfl
        refine ⟨T, hT, fun w v l hF hO hl => ?_⟩
        have HH := Lib.hid (hs w v l hF hO hl)
        clear h hs hF hO hl
        go_enter Tryz.func58, Tryz.ntmps58
        go_wp2_with (first
          | (go_at_call 78; refine (N0.out _).mono ?_; rintro e w' ⟨rfl, hww⟩; obtain rfl := hww.symm)
          | (go_at_call 79; with_reducible refine (N1.out _).mono ?_; rintro e w' ⟨rfl, hww⟩; obtain rfl := hww.symm)
          | (go_at_call 79; with_reducible refine (N2.out _).mono ?_; rintro e w' ⟨rfl, hww⟩; obtain rfl := hww.symm)
          | (go_at_call 80; refine HH.out.mono ?_; rintro e w2 ⟨v2, rfl, o2⟩; have O2 := Lib.hid o2; clear o2))
        go_ret
        exact ⟨_, rfl, O2.out⟩
      · refine ⟨[45, 105, 110, 102], by decide, fun w v l hF hO hl => ?_⟩
        have H0 := Lib.hid (Out.start hO)
        clear h hF hO
        go_enter Tryz.func58, Tryz.ntmps58
        go_wp2_with (first
          | (go_at_call 78; refine (N0.out _).mono ?_; rintro e w' ⟨rfl, hww⟩; obtain rfl := hww.symm)
          | (go_at_call 79; with_reducible refine (N1.out _).mono ?_; rintro e w' ⟨rfl, hww⟩; obtain rfl := hww.symm)
          | (go_at_call 79; with_reducible refine (N2.out _).mono ?_; rintro e w' ⟨rfl, hww⟩; obtain rfl := hww.symm)
          | (at_builtin; refine at_out_str H0.out (.tmp 24) (.const (.string (mk [45, 105, 110, 102]))) [45, 105, 110, 102] (by simp; omega) rfl rfl rfl rfl ?_; intro v2 w2 o2; have O2 := Lib.hid o2; clear o2))
        go_ret
        exact ⟨_, rfl, O2.out⟩
    · refine ⟨[105, 110, 102], by decide, fun w v l hF hO hl => ?_⟩
      have H0 := Lib.hid (Out.start hO)
      clear h hF hO
      go_enter Tryz.func58, Tryz.ntmps58
      go_wp2_with (first
          | (go_at_call 78; refine (N0.out _).mono ?_; rintro e w' ⟨rfl, hww⟩; obtain rfl := hww.symm)
          | (go_at_call 79; with_reducible refine (N1.out _).mono ?_; rintro e w' ⟨rfl, hww⟩; obtain rfl := hww.symm)
          | (at_builtin; refine at_out_str H0.out (.tmp 19) (.const (.string (mk [105, 110, 102]))) [105, 110, 102] (by simp; omega) rfl rfl rfl rfl ?_; intro v2 w2 o2; have O2 := Lib.hid o2; clear o2))
      go_ret
      exact ⟨_, rfl, O2.out⟩
  · refine ⟨[110, 97, 110], by decide, fun w v l hF hO hl => ?_⟩
    have H0 := Lib.hid (Out.start hO)
    clear h hF hO
    go_enter Tryz.func58, Tryz.ntmps58
    go_wp2_with (first
          | (go_at_call 78; refine (N0.out _).mono ?_; rintro e w' ⟨rfl, hww⟩; obtain rfl := hww.symm)
          | (at_builtin; refine at_out_str H0.out (.tmp 14) (.const (.string (mk [110, 97, 110]))) [110, 97, 110] (by simp; omega) rfl rfl rfl rfl ?_; intro v2 w2 o2; have O2 := Lib.hid o2; clear o2))
    go_ret
    exact ⟨_, rfl, O2.out⟩
theorem appendFloat64_ex (PT : Nat → Nat × Nat) (hPT : ∀ i, i < 696 → (PT i).1 < 18446744073709551616 ∧ (PT i).2 < 18446744073709551616) (b : Nat) (hb : b < 18446744073709551616) : ∃ T : List UInt8, T.length ≤ 1000 ∧ AFSay PT b 64 T :=
  appendFloat_of PT b 64 fun _ => by
    obtain ⟨T, hT, h⟩ := app64_in PT hPT b hb
    exact ⟨T, hT, app_out PT b 64 T h⟩
theorem appendFloat32_ex (PT : Nat → Nat × Nat) (hPT : ∀ i, i < 696 → (PT i).1 < 18446744073709551616 ∧ (PT i).2 < 18446744073709551616) (b : Nat) (hb : FOk b) : ∃ T : List UInt8, T.length ≤ 1000 ∧ AFSay PT b 32 T :=
  appendFloat_of PT b 32 fun hq => by
    obtain ⟨T, hT, h⟩ := app32_in PT hPT b (hb hq)
    exact ⟨T, hT, app_out PT b 32 T h⟩
end Go.Proofs.YtmijjppjodpagaaGreatDoor
