/-
  A number of 64 bits that equals one of 32 bits is finite as one of 32 bits: of the format alone, no function of the program is named.
  shortFloat: where it says yes of a number, its conversion to 32 bits draws nothing.
  Where a word of 64 bits is a number, an infinity or no number.
-/
import Derived.Test.YtonegoemmologaaGreatDoorM01
import Derived.Test.YtonegoemmologaaGreatDoorM31
import Derived.Test.YtonegoemmologaaGreatDoorM30
set_option linter.unusedVariables false
set_option linter.unusedSimpArgs false
namespace Go.Proofs.YtonegoemmologaaGreatDoor
open Ieee
theorem flt_cut_zero (n : Nat) (s : Bool) : Toward.even.cut s n 0 = n := by
 unfold Toward.cut
 simp [Nat.mod_one]
theorem flt_log2_shift (m : Nat) (h : m ≠ 0) (h2 : m.log2 ≤ 52) : 2 ^ 52 ≤ m <<< (52 - m.log2) ∧ m <<< (52 - m.log2) < 2 ^ 53 := by
 rw [Nat.shiftLeft_eq]
 have h3 := Nat.log2_self_le h
 have h4 := @Nat.lt_log2_self m
 constructor
 · calc 2 ^ 52 = 2 ^ m.log2 * 2 ^ (52 - m.log2) := by rw [← Nat.pow_add]; congr 1; omega
    _ ≤ _ := Nat.mul_le_mul_right _ h3
 · calc m * 2 ^ (52 - m.log2) < 2 ^ (m.log2 + 1) * 2 ^ (52 - m.log2) := Nat.mul_lt_mul_of_pos_right h4 (Nat.two_pow_pos _)
    _ = 2 ^ 53 := by rw [← Nat.pow_add]; congr 1; omega
theorem flt_read_word (s : Bool) (r : Nat) (h0 : 2 ^ 52 ≤ r) (h : r < 2047 * 2 ^ 52) :
 double.read (double.word s r) = .number s (2 ^ 52 + r % 2 ^ 52) (-1074 + ((r / 2 ^ 52 - 1 : Nat) : Int)) := by
 have hw : double.signWeight = 2 ^ 63 := rfl
 have hb : double.binade = 2 ^ 52 := rfl
 have hi : double.infRung = 2047 * 2 ^ 52 := rfl
 have hl : double.leastPlace = -1074 := rfl
 have hr : r < 2 ^ 63 := by omega
 have h1 : double.word s r / double.signWeight % 2 = (if s then 1 else 0) := by
  rw [hw]; unfold Format.word; rw [hw]
  cases s
  · simp; omega
  · simp only [if_true]; omega
 have h2 : double.word s r % double.signWeight = r := by
  rw [hw]; unfold Format.word; rw [hw]
  cases s
  · simp; omega
  · simp only [if_true]; omega
 unfold Format.read
 simp only [h1, h2, hb, hi, hl]
 rw [if_neg (by omega), if_pos h]
 cases s <;> simp
theorem flt_wide (s : Bool) (m : Nat) (e : Int) (hm : m ≠ 0) (hm2 : m < 2 ^ 24) (he : -149 ≤ e) (he2 : e ≤ 104) :
 double.read (double.nearest s m e) = .number s (m <<< (52 - m.log2)) (e + m.log2 - 52) := by
 have hlg : m.log2 ≤ 23 := by have := (Nat.log2_lt hm (k := 24)).2 hm2; omega
 obtain ⟨b1, b2⟩ := flt_log2_shift m hm (by omega)
 have hb : double.binade = 2 ^ 52 := rfl
 have hi : double.infRung = 2047 * 2 ^ 52 := rfl
 have hl : double.leastPlace = -1074 := rfl
 have hf : double.fractionBits = 52 := rfl
 unfold Format.nearest
 rw [if_neg hm]
 simp only [hb, hi, hl, hf]
 have hmax : max (e + (m.log2 : Int) - ((52 : Nat) : Int)) (-1074) = e + m.log2 - 52 := by omega
 rw [hmax]
 have e1 : (e - (e + (m.log2 : Int) - 52)).toNat = 52 - m.log2 := by omega
 have e2 : ((e + (m.log2 : Int) - 52) - e).toNat = 0 := by omega
 rw [e1, e2, flt_cut_zero]
 obtain ⟨k, hk⟩ : ∃ k, m <<< (52 - m.log2) = k := ⟨_, rfl⟩
 rw [hk] at b1 b2 ⊢
 obtain ⟨q, hq⟩ : ∃ q : Nat, (e + (m.log2 : Int) - 52 - -1074).toNat = q := ⟨_, rfl⟩
 have hq2 : (q : Int) = e + (m.log2 : Int) - 52 + 1074 := by omega
 have hq3 : q ≤ 1150 := by omega
 have g1 : 2 ^ 52 ≤ q * 2 ^ 52 + k := by clear hk; omega
 have g2 : q * 2 ^ 52 + k < 2047 * 2 ^ 52 := by clear hk hb hi hl hf hmax e1 e2 hq; omega
 have h8 := flt_read_word s (q * 2 ^ 52 + k) g1 g2
 rw [hq]
 have hmin : min (q * 2 ^ 52 + k) (2047 * 2 ^ 52) = q * 2 ^ 52 + k := by
  apply Nat.min_eq_left
  exact Nat.le_of_lt g2
 have h9 : (q * 2 ^ 52 + k) / 2 ^ 52 = q + 1 := by clear hk hb hi hl hf hmax e1 e2 hq hmin h8; omega
 have h10 : 2 ^ 52 + (q * 2 ^ 52 + k) % 2 ^ 52 = k := by clear hk hb hi hl hf hmax e1 e2 hq hmin h8 h9; omega
 rw [h9, h10] at h8
 rw [hmin, h8]
 have h11 : -1074 + ((q + 1 - 1 : Nat) : Int) = e + m.log2 - 52 := by clear hk hb hi hl hf hmax e1 e2 hq hmin h8 h9 h10; omega
 rw [h11]
theorem flt_small_read (s : Bool) (r : Nat) (h : r < 255 * 2 ^ 23) : (single.read (single.word s r)).isInfinity = false := by
 have hw : single.signWeight = 2 ^ 31 := rfl
 have hi : single.infRung = 255 * 2 ^ 23 := rfl
 have h2 : single.word s r % single.signWeight = r := by
  rw [hw]; unfold Format.word; rw [hw]
  cases s
  · simp; omega
  · simp only [if_true]; omega
 unfold Format.read
 simp only [h2, hi]
 split
 · rfl
 · first | rfl | (rw [if_pos h]; rfl)
theorem flt_back (s : Bool) (n : Nat) (j : Int) (hm : n ≠ 0) (hm2 : n < 2 ^ 24) (he : -149 ≤ j) (he2 : j ≤ 104) :
 (single.read (single.nearest s (n <<< (52 - n.log2)) (j + n.log2 - 52))).isInfinity = false := by
 have hlg : n.log2 ≤ 23 := by have := (Nat.log2_lt hm (k := 24)).2 hm2; omega
 obtain ⟨b1, b2⟩ := flt_log2_shift n hm (by omega)
 obtain ⟨m, hmk⟩ : ∃ m, n <<< (52 - n.log2) = m := ⟨_, rfl⟩
 have hdiv : 2 ^ 29 ∣ m := by
  rw [← hmk, Nat.shiftLeft_eq]
  exact Nat.dvd_trans (Nat.pow_dvd_pow 2 (by omega)) (Nat.dvd_mul_left _ _)
 rw [hmk] at b1 b2 ⊢
 clear hmk
 have hm0 : m ≠ 0 := by omega
 have hml : m.log2 = 52 := by
  have h1 := (Nat.log2_lt hm0 (k := 53)).2 b2
  have h2 := (Nat.le_log2 hm0 (k := 52)).2 b1
  omega
 obtain ⟨L, hL⟩ : ∃ L, n.log2 = L := ⟨_, rfl⟩
 rw [hL] at hlg ⊢
 clear hL
 have hb : single.binade = 2 ^ 23 := rfl
 have hi : single.infRung = 255 * 2 ^ 23 := rfl
 have hl : single.leastPlace = -149 := rfl
 have hf : single.fractionBits = 23 := rfl
 unfold Format.nearest
 rw [if_neg hm0]
 simp only [hb, hi, hl, hf, hml]
 by_cases hc : -149 ≤ j + L - 23
 · have hmax : max (j + (L : Int) - 52 + ((52 : Nat) : Int) - ((23 : Nat) : Int)) (-149) = j + L - 23 := by omega
   rw [hmax]
   have e1 : (j + (L : Int) - 52 - (j + (L : Int) - 23)).toNat = 0 := by omega
   have e2 : ((j + (L : Int) - 23) - (j + (L : Int) - 52)).toNat = 29 := by omega
   rw [e1, e2]
   have hcut : Toward.even.cut s (m <<< 0) 29 = m / 2 ^ 29 := by
    unfold Toward.cut
    simp only [Nat.shiftLeft_zero, hml]
    have hg : 1 <<< (min 29 (52 + 2)) = 2 ^ 29 := rfl
    rw [hg]
    have h0 : m % 2 ^ 29 = 0 := Nat.mod_eq_zero_of_dvd hdiv
    rw [h0]
    simp
   rw [hcut]
   obtain ⟨q, hq⟩ : ∃ q : Nat, (j + (L : Int) - 23 - -149).toNat = q := ⟨_, rfl⟩
   have hq2 : q ≤ 253 := by omega
   rw [hq]
   have hk : m / 2 ^ 29 < 2 ^ 24 := by clear hb hi hl hf hq e1 e2 hmax hcut; omega
   obtain ⟨k, hkk⟩ : ∃ k, m / 2 ^ 29 = k := ⟨_, rfl⟩
   rw [hkk] at hk ⊢
   have hlt : q * 2 ^ 23 + k < 255 * 2 ^ 23 := by clear hb hi hl hf hq e1 e2 hmax hcut hkk hdiv b1 b2 hml; omega
   rw [Nat.min_eq_left (Nat.le_of_lt hlt)]
   exact flt_small_read s _ hlt
 · have hmax : max (j + (L : Int) - 52 + ((52 : Nat) : Int) - ((23 : Nat) : Int)) (-149) = -149 := by omega
   rw [hmax]
   have e1 : (j + (L : Int) - 52 - -149).toNat = 0 := by omega
   have e3 : ((-149 : Int) - -149).toNat = 0 := rfl
   obtain ⟨D, hD⟩ : ∃ D, ((-149 : Int) - (j + (L : Int) - 52)).toNat = D := ⟨_, rfl⟩
   have hD2 : 30 ≤ D := by omega
   rw [e1, e3, hD, Nat.shiftLeft_zero]
   have hcut : Toward.even.cut s m D ≤ 2 ^ 24 := by
    unfold Toward.cut
    simp only [hml]
    have hg : 2 ^ 30 ≤ 1 <<< (min D (52 + 2)) := by
     rw [Nat.shiftLeft_eq, Nat.one_mul]
     exact Nat.pow_le_pow_right (by omega) (by omega)
    obtain ⟨G, hG⟩ : ∃ G, 1 <<< (min D (52 + 2)) = G := ⟨_, rfl⟩
    rw [hG] at hg ⊢
    have h1 : m / G ≤ m / 2 ^ 30 := Nat.div_le_div_left hg (Nat.two_pow_pos _)
    have h2 : m / 2 ^ 30 < 2 ^ 23 := by clear hb hi hl hf hD e1 e3 hmax hG h1; omega
    have h3 : ∀ b : Bool, b.toNat ≤ 1 := by decide
    have h4 := h3 (decide (G < 2 * (m % G)) || (G == 2 * (m % G) && m / G % 2 == 1))
    obtain ⟨z, hz⟩ : ∃ z, (decide (G < 2 * (m % G)) || (G == 2 * (m % G) && m / G % 2 == 1)).toNat = z := ⟨_, rfl⟩
    rw [hz] at h4 ⊢
    obtain ⟨y, hy⟩ : ∃ y, m / G = y := ⟨_, rfl⟩
    rw [hy] at h1 ⊢
    clear hb hi hl hf hD e1 e3 hmax hG hz hy hdiv
    omega
   obtain ⟨k, hkk⟩ : ∃ k, Toward.even.cut s m D = k := ⟨_, rfl⟩
   rw [hkk] at hcut ⊢
   have hlt : 0 * 2 ^ 23 + k < 255 * 2 ^ 23 := by clear hb hi hl hf hD e1 e3 hmax hkk hdiv b1 b2 hml; omega
   rw [Nat.min_eq_left (Nat.le_of_lt hlt)]
   exact flt_small_read s _ hlt
theorem flt_read32_range {r : Nat} {s : Bool} {m : Nat} {e : Int} (h : single.read r = .number s m e) : m < 2 ^ 24 ∧ -149 ≤ e ∧ e ≤ 104 := by
 have hw : single.signWeight = 2 ^ 31 := rfl
 have hb : single.binade = 2 ^ 23 := rfl
 have hi : single.infRung = 255 * 2 ^ 23 := rfl
 have hl : single.leastPlace = -149 := rfl
 unfold Format.read at h
 simp only [hw, hb, hi, hl] at h
 obtain ⟨g, hg⟩ : ∃ g, r % 2 ^ 31 = g := ⟨_, rfl⟩
 rw [hg] at h
 clear hw hb hi hl hg
 split at h
 · cases h; omega
 · split at h
   · cases h; omega
   · split at h <;> cases h
theorem flt_read64_range {r : Nat} {s : Bool} {m : Nat} {e : Int} (h : double.read r = .number s m e) : m < 2 ^ 53 ∧ (2 ^ 52 ≤ m ∨ e = -1074) := by
 have hw : double.signWeight = 2 ^ 63 := rfl
 have hb : double.binade = 2 ^ 52 := rfl
 have hi : double.infRung = 2047 * 2 ^ 52 := rfl
 have hl : double.leastPlace = -1074 := rfl
 unfold Format.read at h
 simp only [hw, hb, hi, hl] at h
 obtain ⟨g, hg⟩ : ∃ g, r % 2 ^ 63 = g := ⟨_, rfl⟩
 rw [hg] at h
 clear hw hb hi hl hg
 split at h
 · cases h; omega
 · split at h
   · cases h; omega
   · split at h <;> cases h
theorem flt_signed_nat (s : Bool) (m k : Nat) : (signed s m k).natAbs = m <<< k := by
 unfold signed
 cases s
 · exact Int.natAbs_natCast _
 · exact (Int.natAbs_neg _).trans (Int.natAbs_natCast _)
theorem flt_same_place {m n : Nat} {e j : Int} (hm : 2 ^ 52 ≤ m) (hm2 : m < 2 ^ 53) (hn : 2 ^ 52 ≤ n) (hn2 : n < 2 ^ 53)
 (h : m <<< (e - min e j).toNat = n <<< (j - min e j).toNat) : m = n ∧ e = j := by
 rw [Nat.shiftLeft_eq, Nat.shiftLeft_eq] at h
 rcases Int.lt_trichotomy e j with h1 | h1 | h1
 · have e1 : (e - min e j).toNat = 0 := by omega
   obtain ⟨k, hk⟩ : ∃ k, (j - min e j).toNat = k + 1 := ⟨(j - min e j).toNat - 1, by omega⟩
   rw [e1, hk, Nat.pow_succ] at h
   have h2 := Nat.two_pow_pos k
   obtain ⟨z, hz⟩ : ∃ z, 2 ^ k = z := ⟨_, rfl⟩
   rw [hz] at h h2
   have h3 : n * 1 ≤ n * z := Nat.mul_le_mul_left _ h2
   rw [← Nat.mul_assoc] at h
   omega
 · subst h1
   have e1 : (e - min e e).toNat = 0 := by omega
   rw [e1] at h
   exact ⟨by omega, rfl⟩
 · have e1 : (j - min e j).toNat = 0 := by omega
   obtain ⟨k, hk⟩ : ∃ k, (e - min e j).toNat = k + 1 := ⟨(e - min e j).toNat - 1, by omega⟩
   rw [e1, hk, Nat.pow_succ] at h
   have h2 := Nat.two_pow_pos k
   obtain ⟨z, hz⟩ : ∃ z, 2 ^ k = z := ⟨_, rfl⟩
   rw [hz] at h h2
   have h3 : m * 1 ≤ m * z := Nat.mul_le_mul_left _ h2
   rw [← Nat.mul_assoc] at h
   omega
theorem flt_small_place {m n : Nat} {e j : Int} (hm : m < 2 ^ 52) (hn : 2 ^ 52 ≤ n) (he : e ≤ j)
 (h : m <<< (e - min e j).toNat = n <<< (j - min e j).toNat) : False := by
 rw [Nat.shiftLeft_eq, Nat.shiftLeft_eq] at h
 have e1 : (e - min e j).toNat = 0 := by omega
 obtain ⟨k, hk⟩ : ∃ k, (j - min e j).toNat = k := ⟨_, rfl⟩
 rw [e1, hk] at h
 have h2 := Nat.two_pow_pos k
 obtain ⟨z, hz⟩ : ∃ z, 2 ^ k = z := ⟨_, rfl⟩
 rw [hz] at h h2
 have h3 : n * 1 ≤ n * z := Nat.mul_le_mul_left _ h2
 omega
theorem fits32 (x r : Nat) (s : Bool) (m : Nat) (e : Int) (hx : double.read x = .number s m e) (h : double.order x (double.write (single.read r)) = some .eq) :
 (single.read (single.nearest s m e)).isInfinity = false := by
 by_cases hm0 : m = 0
 · subst hm0
   unfold Format.nearest
   rw [if_pos rfl]
   exact flt_small_read s 0 (by decide)
 obtain ⟨x1, x2⟩ := flt_read64_range hx
 unfold Format.order at h
 rw [hx] at h
 cases hr : single.read r with
 | infinity t =>
  rw [hr] at h
  have h5 : double.read (double.write (.infinity t)) = .infinity t := by cases t <;> rfl
  rw [h5] at h
  cases t <;> simp [Datum.order] at h
 | nan t q =>
  rw [hr] at h
  have h5 : ∃ u v, double.read (double.write (.nan t q)) = .nan u v ∨ ∃ u, double.read (double.write (.nan t q)) = .infinity u := by
   have hw : double.signWeight = 2 ^ 63 := rfl
   have hb : double.binade = 2 ^ 52 := rfl
   have hi : double.infRung = 2047 * 2 ^ 52 := rfl
   have hl : double.leastPlace = -1074 := rfl
   unfold Format.write
   simp only [hb]
   have hq : q % 2 ^ 52 < 2 ^ 52 := Nat.mod_lt _ (Nat.two_pow_pos _)
   obtain ⟨y, hy⟩ : ∃ y, q % 2 ^ 52 = y := ⟨_, rfl⟩
   rw [hy] at hq ⊢
   clear hy
   have h2 : double.word t (double.infRung + y) % double.signWeight = 2047 * 2 ^ 52 + y := by
    rw [hw, hi]; unfold Format.word; rw [hw]
    clear hw hb hi hl hr h hx x1 x2
    cases t
    · simp; omega
    · simp only [if_true]; omega
   rw [hi] at h2
   unfold Format.read
   simp only [hb, hi, hl, h2]
   clear hw hb hi hl hr h hx x1 x2 h2
   rw [if_neg (by omega), if_neg (by omega)]
   by_cases hy0 : 2047 * 2 ^ 52 + y = 2047 * 2 ^ 52
   · rw [if_pos hy0]; exact ⟨false, 0, .inr ⟨_, rfl⟩⟩
   · rw [if_neg hy0]; exact ⟨_, _, .inl rfl⟩
  obtain ⟨u, v, h5 | ⟨u, h5⟩⟩ := h5
  · rw [h5] at h; simp [Datum.order] at h
  · rw [h5] at h; cases u <;> simp [Datum.order] at h
 | number t n j =>
  rw [hr] at h
  obtain ⟨r1, r2, r3⟩ := flt_read32_range hr
  simp only [Format.write] at h
  by_cases hn : n = 0
  · subst hn
    have h5 : double.read (double.nearest t 0 j) = .number t 0 (-1074) := by
     unfold Format.nearest
     rw [if_pos rfl]
     cases t <;> rfl
    rw [h5] at h
    simp only [Datum.order, Option.some.injEq] at h
    have h6 := congrArg Int.natAbs (Std.compare_eq_iff_eq.1 h)
    rw [flt_signed_nat, flt_signed_nat, Nat.zero_shiftLeft, Nat.shiftLeft_eq] at h6
    have h7 := Nat.two_pow_pos (e - min e (-1074)).toNat
    rcases Nat.mul_eq_zero.1 h6 with h8 | h8 <;> omega
  · rw [flt_wide t n j hn r1 r2 r3] at h
    simp only [Datum.order, Option.some.injEq] at h
    have h6 := congrArg Int.natAbs (Std.compare_eq_iff_eq.1 h)
    rw [flt_signed_nat, flt_signed_nat] at h6
    have hlg : n.log2 ≤ 23 := by have := (Nat.log2_lt hn (k := 24)).2 r1; omega
    obtain ⟨b1, b2⟩ := flt_log2_shift n hn (by omega)
    have h7 := flt_back s n j hn r1 r2 r3
    obtain ⟨k, hk⟩ : ∃ k, n <<< (52 - n.log2) = k := ⟨_, rfl⟩
    obtain ⟨i, hi⟩ : ∃ i, j + (n.log2 : Int) - 52 = i := ⟨_, rfl⟩
    rw [hk] at h6 b1 b2 h7
    rw [hi] at h6 h7
    by_cases hb : 2 ^ 52 ≤ m
    · obtain ⟨rfl, rfl⟩ := flt_same_place hb x1 b1 b2 h6
      exact h7
    · have he : e ≤ i := by rcases x2 with h8 | h8 <;> omega
      exact absurd (flt_small_place (by omega) b1 he h6) id
end Go.Proofs.YtonegoemmologaaGreatDoor
namespace Go.Proofs.YtonegoemmologaaGreatDoor
open Go.RowKit
def Short (b : Nat) : Prop := ∃ r, r < 4294967296 ∧ (∀ w, (convert 83 85 (.float .f64 b)).run Tryz.prog w = .ok (.float .f32 r) w) ∧
 (∀ s m e, Ieee.double.read b = .number s m e → r = Ieee.single.write (.number s m e) ∧ (Ieee.single.read r).isInfinity = false) ∧
 ∃ w r2 w2, (convert 85 83 (.float .f32 r)).run Tryz.prog w = .ok (.float .f64 r2) w2 ∧ Ieee.double.order b r2 = some .eq
def FOk (b : Nat) : Prop := (FloatKind.f64.format.order b b != some Ordering.eq) = false → Short b
theorem conv_run (w : World) (b : Nat) (sT dT : TypeId) (sk dk : FloatKind) (v : Value) (hs : (Tryz.prog.underlying sT).isSome = true) (hd : Tryz.prog.underlying dT = some (.float dk)) (w' : World) (h : (Conv.floatToFloat sk b dk).run Tryz.prog w = .ok v w') :
 (convert sT dT (.float sk b)).run Tryz.prog w = .ok v w' := by
 obtain ⟨s, hs'⟩ := Option.isSome_iff_exists.1 hs
 cases s <;> simp [convert, run_underlying hs', run_underlying hd, h]
theorem word32_lt (s : Bool) (r : Nat) (h : r ≤ 255 * 2 ^ 23) : Ieee.single.word s r < 4294967296 := by
 unfold Ieee.Format.word
 have hw : Ieee.single.signWeight = 2 ^ 31 := rfl
 rw [hw]
 split <;> omega
theorem nearest32_lt (s : Bool) (m : Nat) (e : Int) : Ieee.single.nearest s m e < 4294967296 := by
 unfold Ieee.Format.nearest
 split
 · exact word32_lt s 0 (by omega)
 · exact word32_lt s _ (Nat.min_le_right _ _)
theorem order_swap (a b : Nat) (h : Ieee.double.order a b = some .eq) : Ieee.double.order b a = some .eq := by
 unfold Ieee.Format.order at h ⊢
 cases ha : Ieee.double.read a <;> cases hb : Ieee.double.read b <;> rw [ha, hb] at h <;> simp only [Ieee.Datum.order] at h ⊢
 · simp only [Option.some.injEq] at h ⊢
   rename_i s m i t n j
   rw [Int.min_comm i j] at h
   rw [Std.compare_eq_iff_eq] at h ⊢
   exact h.symm
 · split at h <;> cases h
 · cases h
 · split at h <;> cases h
 · simp only [Option.some.injEq] at h ⊢
   rw [Std.compare_eq_iff_eq] at h ⊢
   exact h.symm
 all_goals cases h
theorem short_of_back (f : Nat) (w : World) (hn : (FloatKind.f64.format.order f f != some Ordering.eq) = false) :
 ∃ r1 n1 r2 n2, (convert 83 85 (.float .f64 f)).run Tryz.prog w = .ok (.float .f32 r1) (w.drewN n1) ∧
  (convert 85 83 (.float .f32 r1)).run Tryz.prog (w.drewN n1) = .ok (.float .f64 r2) ((w.drewN n1).drewN n2) ∧ (Ieee.double.order f r2 = some .eq → Short f) := by
 cases hr : FloatKind.f64.decode f with
 | nan s t =>
  exfalso
  have : FloatKind.f64.format.order f f = none := by
   show Ieee.Datum.order (FloatKind.f64.decode f) (FloatKind.f64.decode f) = none
   rw [hr]; rfl
  rw [this] at hn
  cases hn
 | infinity s =>
  have h1 : ∀ w, (convert 83 85 (.float .f64 f)).run Tryz.prog w = .ok (.float .f32 (FloatKind.f32.encode (.infinity s))) w := fun w => by
   refine conv_run w f _ _ .f64 .f32 _ (by kernel_rfl) (by kernel_rfl) _ ?_
   simp [Conv.floatToFloat, hr]
  obtain ⟨r2, n2, h2⟩ := convert_ff 85 83 .f32 .f64 (FloatKind.f32.encode (.infinity s)) w (by kernel_rfl) (by kernel_rfl)
  exact ⟨_, 0, r2, n2, h1 w, h2, fun ho => ⟨_, word32_lt s _ (Nat.le_refl _), h1, fun s' m' e' h' => (by have := (show Ieee.double.read f = .infinity s from hr).symm.trans h'; cases this), _, _, _, h2, ho⟩⟩
 | number s m e =>
  cases hi : (FloatKind.f32.decode (FloatKind.f32.encode (.number s m e))).isInfinity with
  | false =>
   have h1 : ∀ w, (convert 83 85 (.float .f64 f)).run Tryz.prog w = .ok (.float .f32 (FloatKind.f32.encode (.number s m e))) w := fun w => by
    refine conv_run w f _ _ .f64 .f32 _ (by kernel_rfl) (by kernel_rfl) _ ?_
    simp [Conv.floatToFloat, hr, hi]
   obtain ⟨r2, n2, h2⟩ := convert_ff 85 83 .f32 .f64 (FloatKind.f32.encode (.number s m e)) w (by kernel_rfl) (by kernel_rfl)
   exact ⟨_, 0, r2, n2, h1 w, h2, fun ho => ⟨_, nearest32_lt s m e, h1, fun s' m' e' h' => (by have := (show Ieee.double.read f = .number s m e from hr).symm.trans h'; cases this; exact ⟨rfl, hi⟩), _, _, _, h2, ho⟩⟩
  | true =>
   obtain ⟨r1, n1, h1⟩ := convert_ff 83 85 .f64 .f32 f w (by kernel_rfl) (by kernel_rfl)
   cases hr1 : FloatKind.f32.decode r1 with
   | nan s1 t1 =>
    have hf : (Question.nanConv .f64 r1).forced = false := rfl
    obtain ⟨r2, hr2, h2⟩ : ∃ r2, (∃ t : Nat, r2 = (t % 2) * 2 ^ 63 + 0x7ff0000000000000 + 1 + (t / 2) % (2 ^ 52 - 1)) ∧ (convert 85 83 (.float .f32 r1)).run Tryz.prog (w.drewN n1) = .ok (.float .f64 r2) ((w.drewN n1).drewN 1) :=
     ⟨_, ⟨_, rfl⟩, conv_run (w.drewN n1) r1 _ _ .f32 .f64 _ (by kernel_rfl) (by kernel_rfl) _ (by simp [Conv.floatToFloat, hr1, hf]; rfl)⟩
    refine ⟨r1, n1, r2, 1, h1, h2, fun h => ?_⟩
    exfalso
    obtain ⟨t, rfl⟩ := hr2
    have hrd : ∃ a b, Ieee.double.read ((t % 2) * 2 ^ 63 + 0x7ff0000000000000 + 1 + (t / 2) % (2 ^ 52 - 1)) = .nan a b := by
     have hw : Ieee.double.signWeight = 2 ^ 63 := rfl
     have hb : Ieee.double.binade = 2 ^ 52 := rfl
     have hi : Ieee.double.infRung = 2047 * 2 ^ 52 := rfl
     have hl : Ieee.double.leastPlace = -1074 := rfl
     have h1 : t / 2 % (2 ^ 52 - 1) < 2 ^ 52 - 1 := Nat.mod_lt _ (by decide)
     obtain ⟨k, hk⟩ : ∃ k, t / 2 % (2 ^ 52 - 1) = k := ⟨_, rfl⟩
     obtain ⟨u, hu⟩ : ∃ u, t % 2 = u := ⟨_, rfl⟩
     rw [hk] at h1 ⊢
     rw [hu]
     have h2 : (u * 2 ^ 63 + 0x7ff0000000000000 + 1 + k) % 2 ^ 63 = 2047 * 2 ^ 52 + 1 + k := by clear hw hb hi hl hk hu; omega
     unfold Ieee.Format.read
     simp only [hw, hb, hi, hl, h2]
     clear hw hb hi hl hk hu h2
     rw [if_neg (by omega), if_neg (by omega), if_neg (by omega)]
     exact ⟨_, _, rfl⟩
    obtain ⟨a, b, hrd⟩ := hrd
    unfold Ieee.Format.order at h
    rw [hrd] at h
    have hr' : Ieee.double.read f = .number s m e := hr
    rw [hr'] at h
    cases h
   | infinity s1 =>
    refine ⟨r1, n1, _, 0, h1, conv_run (w.drewN n1) r1 _ _ .f32 .f64 (.float .f64 (FloatKind.f64.encode (.infinity s1))) (by kernel_rfl) (by kernel_rfl) _ (by simp [Conv.floatToFloat, hr1]), fun h => ?_⟩
    exfalso
    have h5 := fits32 f r1 s m e hr (by rw [show Ieee.single.read r1 = .infinity s1 from hr1]; exact h)
    rw [show FloatKind.f32.decode (FloatKind.f32.encode (.number s m e)) = Ieee.single.read (Ieee.single.nearest s m e) from rfl, h5] at hi
    cases hi
   | number s1 m1 e1 =>
    have hr1' : Ieee.single.read r1 = .number s1 m1 e1 := hr1
    obtain ⟨q1, q2, q3⟩ := flt_read32_range hr1'
    have hfin : (FloatKind.f64.decode (FloatKind.f64.encode (.number s1 m1 e1))).isInfinity = false := by
     show (Ieee.double.read (Ieee.double.nearest s1 m1 e1)).isInfinity = false
     by_cases hm : m1 = 0
     · subst hm
       unfold Ieee.Format.nearest
       rw [if_pos rfl]
       cases s1 <;> rfl
     · rw [flt_wide s1 m1 e1 hm q1 q2 q3]
       rfl
    refine ⟨r1, n1, _, 0, h1, conv_run (w.drewN n1) r1 _ _ .f32 .f64 (.float .f64 (FloatKind.f64.encode (.number s1 m1 e1))) (by kernel_rfl) (by kernel_rfl) _ (by simp [Conv.floatToFloat, hr1, hfin]), fun h => ?_⟩
    exfalso
    have h5 := fits32 f r1 s m e hr (by rw [hr1']; exact h)
    rw [show FloatKind.f32.decode (FloatKind.f32.encode (.number s m e)) = Ieee.single.read (Ieee.single.nearest s m e) from rfl, h5] at hi
    cases hi
set_option maxRecDepth 1000000 in
set_option maxHeartbeats 8000000 in
theorem shortFloat_short (f : Nat) (w : World) : Calls Tryz.prog 83 #[.int .u64 (f : Int)] w (Tells w (FOk f)) := by
 obtain ⟨T, hT⟩ : ∃ T, FOk f = T := ⟨_, rfl⟩
 by_cases hE : FloatKind.f64.format.order f f = some Ordering.eq
 · have hE1 : (FloatKind.f64.format.order f f != some Ordering.eq) = false := by rw [hE]; rfl
   obtain ⟨r1, n1, r2, n2, h1, h2, hs⟩ := short_of_back f w hE1
   have HS : Hid (FloatKind.f64.format.order r2 f = some Ordering.eq → T) := fun h => by rw [← hT]; exact fun _ => hs (order_swap r2 f h)
   rw [hT]
   clear hs hT
   go_enter Tryz.func83, Tryz.ntmps83
   go_wp2_with (go_at_call 100; refine (bitsFloat_any f _).mono ?_; rintro e w' ⟨rfl, rfl⟩)
   go_ret
   refine ⟨_, rfl, fun h => HS.out ?_, (Keeps.refl _ w).drewN _⟩
   simpa using h
 · have hE1 : (FloatKind.f64.format.order f f != some Ordering.eq) = true := by
    cases h : FloatKind.f64.format.order f f with
    | none => rfl
    | some o => cases o <;> first | rfl | exact absurd h hE
   have HT : Hid T := by
    show T
    rw [← hT]
    intro h
    rw [hE1] at h
    cases h
   rw [hT]
   clear hT
   go_enter Tryz.func83, Tryz.ntmps83
   go_wp2_with (go_at_call 100; refine (bitsFloat_any f _).mono ?_; rintro e w' ⟨rfl, rfl⟩)
   go_ret
   exact Tells.yes HT.out (Keeps.refl _ _)
set_option maxRecDepth 1000000 in
theorem narrow_float (w : World) : Calls Tryz.prog 82 #[.int .i64 2] w fun e w' => e = .returned (.bool true) ∧ Keeps (fun _ => False) w w' := by
 go_enter Tryz.func82, Tryz.ntmps82
 go_wp2_with (fail)
 go_ret
 exact ⟨rfl, Keeps.refl _ _⟩
end Go.Proofs.YtonegoemmologaaGreatDoor
namespace Go.Proofs.YtonegoemmologaaGreatDoor
open Go.RowKit
def Nan64 (f : Nat) : Bool := FloatKind.f64.format.order f f != some Ordering.eq
def InfP (f : Nat) : Bool := FloatKind.f64.format.order f 9218868437227405311 == some Ordering.gt
def InfM (f : Nat) : Bool := FloatKind.f64.format.order (Op.negFloat .f64 f) 9218868437227405311 == some Ordering.gt
theorem neg64_back (k : Nat) (h : k < 9223372036854775808) : Op.negFloat .f64 (9223372036854775808 + k) = k := by
 have h1 := neg64_word k h
 have h2 : k ^^^ 2 ^ 63 = 9223372036854775808 + k := h1
 show (9223372036854775808 + k) ^^^ 2 ^ 63 = k
 rw [← h2, Nat.xor_assoc, Nat.xor_self, Nat.xor_zero]
theorem neg64_sgn (neg : Bool) (k : Nat) (h : k < 9223372036854775808) : Op.negFloat .f64 (sgn64 neg + k) = sgn64 (!neg) + k := by
 cases neg
 · rw [show sgn64 false + k = k by simp [sgn64]]; exact neg64_word k h
 · rw [show sgn64 true + k = 9223372036854775808 + k from rfl, neg64_back k h]; simp [sgn64]
theorem split64 (f : Nat) (h : f < 18446744073709551616) : f = sgn64 (decide (9223372036854775808 ≤ f)) + f % 9223372036854775808 := by
 by_cases hs : 9223372036854775808 ≤ f
 · rw [decide_eq_true hs]; show f = 9223372036854775808 + _; omega
 · rw [decide_eq_false hs]; show f = 0 + _; omega
theorem ord64_lim (neg : Bool) (k : Nat) (hk : k < 9218868437227405312) : (FloatKind.f64.format.order (sgn64 neg + k) 9218868437227405311 == some Ordering.gt) = false := by
 have h := Fl.order_word Ieee.double neg false 52 1074 k 9218868437227405311 rfl rfl (by rw [inf64]; exact hk) (by rw [inf64]; decide)
 rw [word64, word64, show sgn64 false = 0 from rfl, Nat.zero_add] at h
 show (Ieee.double.order _ _ == _) = false
 rw [h]
 have hm : Fl.fin 52 k ≤ Fl.fin 52 9218868437227405311 := Fl.fin_mono_le 52 (by omega)
 have hle : Fl.sg neg (Fl.fin 52 k) ≤ Fl.sg false (Fl.fin 52 9218868437227405311) := by
  unfold Fl.sg
  cases neg <;> simp <;> omega
 rcases Int.lt_or_eq_of_le hle with h | h
 · rw [Int.compare_eq_lt.2 h]; rfl
 · rw [h]; simp
theorem num64 (neg : Bool) (k : Nat) (hk : k < 9218868437227405312) : Nan64 (sgn64 neg + k) = false ∧ InfP (sgn64 neg + k) = false ∧ InfM (sgn64 neg + k) = false := by
 refine ⟨?_, ord64_lim neg k hk, ?_⟩
 · have h := Fl.order_word Ieee.double neg neg 52 1074 k k rfl rfl (by rw [inf64]; exact hk) (by rw [inf64]; exact hk)
   rw [word64] at h
   show (Ieee.double.order _ _ != _) = false
   rw [h]
   simp
 · unfold InfM
   rw [neg64_sgn neg k (by omega)]
   exact ord64_lim (!neg) k hk
theorem infp64 : Nan64 9218868437227405312 = false ∧ InfP 9218868437227405312 = true ∧ InfM 9218868437227405312 = false := ⟨by decide +kernel, by decide +kernel, by decide +kernel⟩
theorem infm64 : Nan64 18442240474082181120 = false ∧ InfP 18442240474082181120 = false ∧ InfM 18442240474082181120 = true := ⟨by decide +kernel, by decide +kernel, by decide +kernel⟩
theorem read64_nan (f : Nat) (h : 9218868437227405312 < f % 9223372036854775808) : ∃ s t, Ieee.double.read f = .nan s t := by
 unfold Ieee.Format.read
 have hw : Ieee.double.signWeight = 9223372036854775808 := rfl
 have hb : Ieee.double.binade = 4503599627370496 := rfl
 simp only [hw, hb, inf64]
 rw [if_neg (by omega), if_neg (by omega), if_neg (by omega)]
 exact ⟨_, _, rfl⟩
theorem ord_nan (f g : Nat) (h : 9218868437227405312 < f % 9223372036854775808) : FloatKind.f64.format.order f g = none := by
 obtain ⟨s, t, hr⟩ := read64_nan f h
 show Ieee.Datum.order (Ieee.double.read f) _ = none
 rw [hr]; rfl
theorem nan64 (f : Nat) (hf : f < 18446744073709551616) (h : 9218868437227405312 < f % 9223372036854775808) : Nan64 f = true ∧ InfP f = false ∧ InfM f = false := by
 refine ⟨?_, ?_, ?_⟩
 · unfold Nan64; rw [ord_nan f f h]; rfl
 · unfold InfP; rw [ord_nan f _ h]; rfl
 · unfold InfM
   rw [split64 f hf, neg64_sgn _ _ (by omega), ord_nan _ _ (by cases (decide (9223372036854775808 ≤ f)) <;> simp only [sgn64, Bool.not_true, Bool.not_false, if_true] <;> (try simp only [Bool.false_eq_true, if_false]) <;> omega)]
   rfl
set_option maxRecDepth 1000000 in
theorem isNaN_64 (f : Nat) (w : World) : Calls Tryz.prog 38 #[.float .f64 f] w fun e w' => e = .returned (.bool (Nan64 f)) ∧ w' = w := by
 go_enter Tryz.func38, Tryz.ntmps38
 go_wp2_with (fail)
 go_ret
 exact ⟨rfl, rfl⟩
set_option maxRecDepth 1000000 in
theorem isInfp_64 (f : Nat) (w : World) : Calls Tryz.prog 37 #[.float .f64 f, .int .i64 1] w fun e w' => e = .returned (.bool (InfP f)) ∧ w' = w := by
 go_enter Tryz.func37, Tryz.ntmps37
 go_wp2_with (fail)
 go_ret
 exact ⟨rfl, rfl⟩
set_option maxRecDepth 1000000 in
theorem isInfm_64 (f : Nat) (w : World) : Calls Tryz.prog 37 #[.float .f64 f, .int .i64 (-1)] w fun e w' => e = .returned (.bool (InfM f)) ∧ w' = w := by
 have hneg : ∀ w, (Op.unary UnOp.neg (.float .f64 f)).run Tryz.prog w = .ok (.float .f64 (Op.negFloat .f64 f)) w := fun _ => rfl
 unfold InfM
 obtain ⟨g, hg⟩ : ∃ g, Op.negFloat .f64 f = g := ⟨_, rfl⟩
 rw [hg] at hneg ⊢
 clear hg
 go_enter Tryz.func37, Tryz.ntmps37
 go_wp2_with (fail)
 go_ret
 exact ⟨rfl, rfl⟩
end Go.Proofs.YtonegoemmologaaGreatDoor
