/-
  Floats, plain: IEEE's rounding is the nearest; products, quotients, comparisons; texts of numbers.
-/
import Derived.Test.YtonegoemmologaaGreatDoorM05
import Ieee.Arith
set_option linter.unusedVariables false
set_option linter.unusedSimpArgs false
namespace Go.Proofs.YtonegoemmologaaGreatDoor.Fl
structure Rnd (m n d : Nat) : Prop where
 up : 2 * n ≤ (2 * m + 1) * d
 upE : 2 * n = (2 * m + 1) * d → m % 2 = 0
 dn : m ≠ 0 → (2 * m - 1) * d ≤ 2 * n
 dnE : m ≠ 0 → (2 * m - 1) * d = 2 * n → m % 2 = 0
theorem scale_le {s n d n' d' : Nat} (hd : 0 < d) (hd' : 0 < d') (e : n * d' = n' * d) : (s * d ≤ 2 * n ↔ s * d' ≤ 2 * n') ∧ (2 * n ≤ s * d ↔ 2 * n' ≤ s * d') := by
 constructor
 · constructor
   · intro h1
     refine Nat.le_of_mul_le_mul_right (c := d) ?_ hd
     have := Nat.mul_le_mul_right d' h1
     grind
   · intro h1
     refine Nat.le_of_mul_le_mul_right (c := d') ?_ hd'
     have := Nat.mul_le_mul_right d h1
     grind
 · constructor
   · intro h1
     refine Nat.le_of_mul_le_mul_right (c := d) ?_ hd
     have := Nat.mul_le_mul_right d' h1
     grind
   · intro h1
     refine Nat.le_of_mul_le_mul_right (c := d') ?_ hd'
     have := Nat.mul_le_mul_right d h1
     grind
theorem Rnd.scale {m n d n' d' : Nat} (hd : 0 < d) (hd' : 0 < d') (e : n * d' = n' * d) (h : Rnd m n d) : Rnd m n' d' := by
 have t := fun s => scale_le (s := s) hd hd' e
 refine ⟨((t _).2).1 h.up, fun q => h.upE ?_, fun q => ((t _).1).1 (h.dn q), fun q w => h.dnE q ?_⟩
 · exact Nat.le_antisymm ((t _).2.2 (by omega)) ((t _).1.2 (by omega))
 · exact Nat.le_antisymm ((t _).1.2 (by omega)) ((t _).2.2 (by omega))
theorem Rnd.exact (m d : Nat) (hd : 0 < d) : Rnd m (m * d) d := by
 have e : (2 * m + 1) * d = 2 * (m * d) + d := by grind
 have e2 : m ≠ 0 → (2 * m - 1) * d + d = 2 * (m * d) := by
  intro h
  obtain ⟨t, rfl⟩ : ∃ t, m = t + 1 := ⟨m - 1, by omega⟩
  rw [show 2 * (t + 1) - 1 = 2 * t + 1 by omega]; grind
 exact ⟨by omega, by omega, fun h => by have := e2 h; omega, fun h => by have := e2 h; omega⟩
theorem Near.of_rnd {mb m j N D : Nat} (hmb : 1 ≤ mb) (h : 2 ^ mb ≤ m ∨ j = 0) (h2 : m < 2 ^ (mb + 1)) (r : Rnd m N (D * 2 ^ j))
 (hl : 1 ≤ j → (4 * 2 ^ mb - 1) * (D * 2 ^ (j - 1)) ≤ 2 * N) : Near mb (m + j * 2 ^ mb) N D :=
 near_of mb m j N D hmb h h2 r.up r.upE (fun q => ⟨r.dn q, r.dnE q⟩) hl
theorem cut_rnd (neg : Bool) (n drop tn td : Nat) (hn : 0 < n) (htd : 0 < td)
 (h : tn = n * td ∨ (n % 2 = 1 ∧ (n - 1) * td < tn ∧ tn < (n + 1) * td ∧ 2 ≤ drop)) : Rnd (Ieee.Toward.even.cut neg n drop) tn (td * 2 ^ drop) := by
 have hlog := Nat.log2_self_le (n := n) (by omega)
 have hlog2 := Nat.lt_log2_self (n := n)
 have fin : ∀ m : Nat, Rnd m n (2 ^ drop) → Rnd m tn (td * 2 ^ drop) := by
  intro m r
  rcases h with rfl | ⟨o, t1, t2, hd2⟩
  · exact r.scale (Nat.two_pow_pos _) (Nat.mul_pos htd (Nat.two_pow_pos _)) (by grind)
  · obtain ⟨g, rfl⟩ : ∃ g, drop = g + 2 := ⟨drop - 2, by omega⟩
    obtain ⟨r1, r2, r3, r4⟩ := r
    have e : 2 ^ (g + 2) = 2 * (2 * 2 ^ g) := by rw [Nat.pow_succ, Nat.pow_succ]; omega
    rw [e] at r1 r2 r3 r4 ⊢
    clear e
    generalize 2 ^ g = G at *
    have u : ∀ q : Nat, n < 2 * q → tn < 2 * q * td := by
     intro q hq
     exact Nat.lt_of_lt_of_le t2 (Nat.mul_le_mul_right td (by omega))
    have l : ∀ q : Nat, 2 * q < n → 2 * q * td < tn := by
     intro q hq
     exact Nat.lt_of_le_of_lt (Nat.mul_le_mul_right td (by omega)) t1
    have c1 : (2 * m + 1) * (2 * (2 * G)) = 2 * (2 * ((2 * m + 1) * G)) := by grind
    have c2 : (2 * m - 1) * (2 * (2 * G)) = 2 * (2 * ((2 * m - 1) * G)) := by generalize 2 * m - 1 = y; grind
    have d1 : (2 * m + 1) * (td * (2 * (2 * G))) = 2 * (2 * ((2 * m + 1) * G) * td) := by grind
    have d2 : (2 * m - 1) * (td * (2 * (2 * G))) = 2 * (2 * ((2 * m - 1) * G) * td) := by generalize 2 * m - 1 = y; grind
    rw [c1] at r1
    rw [c2] at r3
    have a1 := u ((2 * m + 1) * G) (by omega)
    refine ⟨by rw [d1]; omega, fun q => by rw [d1] at q; omega, fun q => ?_, fun q w => ?_⟩
    · have := l ((2 * m - 1) * G) (by have := r3 q; omega)
      rw [d2]; omega
    · have := l ((2 * m - 1) * G) (by have := r3 q; omega)
      rw [d2] at w; omega
 refine fin _ ?_
 unfold Ieee.Toward.cut
 dsimp only
 by_cases c : drop ≤ n.log2 + 2
 · rw [Nat.min_eq_left c, Nat.one_shiftLeft]
   have hG := Nat.two_pow_pos drop
   generalize 2 ^ drop = G at *
   have h1 := Nat.div_add_mod n G
   have h2 := Nat.mod_lt n hG
   rw [Nat.mul_comm] at h1
   generalize n / G = q at *
   generalize n % G = r at *
   have e1 : ∀ k : Nat, (2 * (q + k) + 1) * G = 2 * (q * G) + (2 * k + 1) * G := by intro k; grind
   have e2 : q ≠ 0 → (2 * q - 1) * G + G = 2 * (q * G) := by
    intro h
    obtain ⟨t, rfl⟩ : ∃ t, q = t + 1 := ⟨q - 1, by omega⟩
    rw [show 2 * (t + 1) - 1 = 2 * t + 1 by omega]; grind
   have e3 : (2 * (q + 1) - 1) * G = 2 * (q * G) + G := by rw [show 2 * (q + 1) - 1 = 2 * q + 1 by omega]; grind
   by_cases m : G < 2 * r ∨ (G = 2 * r ∧ q % 2 = 1)
   · have hb : (decide (G < 2 * r) || (G == 2 * r && q % 2 == 1)) = true := by
      rcases m with m | ⟨m1, m2⟩
      · simp [m]
      · simp [m1, m2]
     rw [hb, Bool.toNat_true]
     have := e1 1
     exact ⟨by omega, by omega, fun _ => by omega, fun _ => by omega⟩
   · have hb : (decide (G < 2 * r) || (G == 2 * r && q % 2 == 1)) = false := by
      rw [Bool.eq_false_iff]
      intro t
      simp only [Bool.or_eq_true, decide_eq_true_eq, Bool.and_eq_true, beq_iff_eq] at t
      exact m t
     rw [hb, Bool.toNat_false, Nat.add_zero]
     have := e1 0
     simp only [Nat.add_zero, Nat.mul_zero, Nat.zero_add, Nat.one_mul] at this
     exact ⟨by omega, by omega, fun h => by have := e2 h; omega, fun h => by have := e2 h; omega⟩
 · rw [Nat.min_eq_right (by omega), Nat.one_shiftLeft]
   have e : n < 2 ^ (n.log2 + 2) := by rw [Nat.pow_succ]; omega
   rw [Nat.div_eq_of_lt e, Nat.mod_eq_of_lt e]
   have e2 : 2 * n < 2 ^ (n.log2 + 2) := by rw [Nat.pow_succ]; omega
   have e3 : 2 ^ (n.log2 + 2) ≤ 2 ^ drop := Nat.pow_le_pow_right (by omega) (by omega)
   have hb : (decide (2 ^ (n.log2 + 2) < 2 * n) || (2 ^ (n.log2 + 2) == 2 * n && 0 % 2 == 1)) = false := by
    rw [Bool.eq_false_iff]
    intro t
    simp only [Bool.or_eq_true, decide_eq_true_eq, Bool.and_eq_true, beq_iff_eq] at t
    omega
   rw [hb]
   simp only [Bool.toNat_false, Nat.add_zero]
   exact ⟨by omega, by omega, fun h => absurd rfl h, fun h => absurd rfl h⟩
theorem nearest_near (f : Ieee.Format) (neg : Bool) (mag : Nat) (place : Int) (mb top tn td : Nat) (hmb : f.fractionBits = mb) (hmb1 : 1 ≤ mb) (htop : f.leastPlace = -(top : Int))
 (hmag : 0 < mag) (htd : 0 < td) (h : tn = mag * td ∨ (mag % 2 = 1 ∧ (mag - 1) * td < tn ∧ tn < (mag + 1) * td ∧ mb + 2 ≤ mag.log2)) :
 ∃ k, Near mb k (tn * 2 ^ (place + top).toNat) (td * 2 ^ (-(place + top)).toNat) ∧ f.nearest neg mag place = f.word neg (min k f.infRung) := by
 unfold Ieee.Format.nearest
 rw [if_neg (by omega)]
 dsimp only
 rw [hmb, htop]
 have hbin : f.binade = 2 ^ mb := by unfold Ieee.Format.binade; rw [hmb]
 rw [hbin]
 obtain ⟨last, hlast⟩ : ∃ last, max (place + (mag.log2 : Int) - mb) (-(top : Int)) = last := ⟨_, rfl⟩
 rw [hlast]
 have hlog := Nat.log2_self_le (n := mag) (by omega)
 have hlog2 := Nat.lt_log2_self (n := mag)
 obtain ⟨kept, hk⟩ : ∃ kept, Ieee.Toward.even.cut neg (mag <<< (place - last).toNat) (last - place).toNat = kept := ⟨_, rfl⟩
 rw [hk]
 obtain ⟨j, hj⟩ : ∃ j, (last - -(top : Int)).toNat = j := ⟨_, rfl⟩
 rw [hj]
 have hD : 0 < td * 2 ^ (-(place + top)).toNat := Nat.mul_pos htd (Nat.two_pow_pos _)
 have r : Rnd kept (tn * 2 ^ (place + top).toNat) (td * 2 ^ (-(place + top)).toNat * 2 ^ j) := by
  rw [Nat.shiftLeft_eq] at hk
  have c := cut_rnd neg (mag * 2 ^ (place - last).toNat) (last - place).toNat (tn * 2 ^ (place - last).toNat) td (Nat.mul_pos hmag (Nat.two_pow_pos _)) htd (by
   rcases h with rfl | ⟨h1, h2, h3, h4⟩
   · left; grind
   · right
     have : (place - last).toNat = 0 := by omega
     rw [this, Nat.pow_zero, Nat.mul_one, Nat.mul_one]
     exact ⟨h1, h2, h3, by omega⟩)
  rw [hk] at c
  refine c.scale (Nat.mul_pos htd (Nat.two_pow_pos _)) (Nat.mul_pos hD (Nat.two_pow_pos _)) ?_
  have key : 2 ^ (place - last).toNat * (2 ^ (-(place + top)).toNat * 2 ^ j) = 2 ^ (place + top).toNat * 2 ^ (last - place).toNat := by
   simp only [← Nat.pow_add]; congr 1; omega
  generalize 2 ^ (place - last).toNat = a1 at *
  generalize 2 ^ (-(place + top)).toNat = a2 at *
  generalize 2 ^ j = a3 at *
  generalize 2 ^ (place + top).toNat = a4 at *
  generalize 2 ^ (last - place).toNat = a5 at *
  have : tn * a1 * (td * a2 * a3) = tn * td * (a1 * (a2 * a3)) := by grind
  rw [this, key]; grind
 have lo : 1 ≤ j → 2 ^ mb * (td * 2 ^ (-(place + top)).toNat * 2 ^ j) ≤ tn * 2 ^ (place + top).toNat := by
  intro hj1
  have e : last = place + (mag.log2 : Int) - mb := by omega
  have t1 : 2 ^ mag.log2 * td ≤ tn := by
   rcases h with rfl | ⟨h1, h2, h3, h4⟩
   · exact Nat.mul_le_mul_right td hlog
   · have : 2 ^ mag.log2 ≠ mag := by
      intro he
      obtain ⟨t, ht⟩ : ∃ t, mag.log2 = t + 1 := ⟨mag.log2 - 1, by omega⟩
      rw [ht, Nat.pow_succ] at he; omega
     have : 2 ^ mag.log2 * td ≤ (mag - 1) * td := Nat.mul_le_mul_right td (by omega)
     omega
  have key : 2 ^ mb * (2 ^ (-(place + top)).toNat * 2 ^ j) = 2 ^ mag.log2 * 2 ^ (place + top).toNat := by
   simp only [← Nat.pow_add]; congr 1; omega
  have := Nat.mul_le_mul_right (2 ^ (place + top).toNat) t1
  have e2 : 2 ^ mb * (td * 2 ^ (-(place + top)).toNat * 2 ^ j) = 2 ^ mb * (2 ^ (-(place + top)).toNat * 2 ^ j) * td := by grind
  rw [e2, key]
  have e3 : 2 ^ mag.log2 * 2 ^ (place + top).toNat * td = 2 ^ mag.log2 * td * 2 ^ (place + top).toNat := by grind
  omega
 have hi : tn * 2 ^ (place + top).toNat < 2 ^ (mb + 1) * (td * 2 ^ (-(place + top)).toNat * 2 ^ j) := by
  have t1 : tn < 2 ^ (mag.log2 + 1) * td := by
   rcases h with rfl | ⟨h1, h2, h3, h4⟩
   · exact Nat.mul_lt_mul_of_pos_right hlog2 htd
   · exact Nat.lt_of_lt_of_le h3 (Nat.mul_le_mul_right td hlog2)
  have key : 2 ^ (mag.log2 + 1) * 2 ^ (place + top).toNat ≤ 2 ^ (mb + 1) * (2 ^ (-(place + top)).toNat * 2 ^ j) := by
   simp only [← Nat.pow_add]; exact Nat.pow_le_pow_right (by omega) (by omega)
  have := Nat.mul_lt_mul_of_pos_right t1 (Nat.two_pow_pos (place + top).toNat)
  have k2 := Nat.mul_le_mul_right td key
  have e2 : 2 ^ (mb + 1) * (td * 2 ^ (-(place + top)).toNat * 2 ^ j) = 2 ^ (mb + 1) * (2 ^ (-(place + top)).toNat * 2 ^ j) * td := by grind
  have e3 : 2 ^ (mag.log2 + 1) * 2 ^ (place + top).toNat * td = 2 ^ (mag.log2 + 1) * td * 2 ^ (place + top).toNat := by grind
  omega
 generalize hN : tn * 2 ^ (place + top).toNat = N at *
 generalize hDD : td * 2 ^ (-(place + top)).toNat = D at *
 have p1 : 2 ^ (mb + 1) = 2 * 2 ^ mb := by rw [Nat.pow_succ]; omega
 have hDj : 0 < D * 2 ^ j := Nat.mul_pos hD (Nat.two_pow_pos _)
 have kle : kept ≤ 2 ^ (mb + 1) := by
  rcases Nat.eq_zero_or_pos kept with g | g
  · omega
  · have a := r.dn (by omega)
    have b : (2 * kept - 1) * (D * 2 ^ j) < 2 * 2 ^ (mb + 1) * (D * 2 ^ j) := by rw [Nat.mul_assoc 2]; omega
    have := Nat.lt_of_mul_lt_mul_right b
    omega
 have kge : 2 ^ mb ≤ kept ∨ j = 0 := by
  by_cases c : j = 0
  · exact Or.inr c
  · left
    have a := r.up
    have b := lo (by omega)
    have : 2 * 2 ^ mb * (D * 2 ^ j) ≤ (2 * kept + 1) * (D * 2 ^ j) := by rw [Nat.mul_assoc 2]; omega
    have := Nat.le_of_mul_le_mul_right this hDj
    omega
 refine ⟨kept + j * 2 ^ mb, ?_, by rw [Nat.add_comm]⟩
 by_cases c : kept < 2 ^ (mb + 1)
 · refine Near.of_rnd hmb1 kge c r ?_
   intro hj1
   have b := lo hj1
   obtain ⟨i, rfl⟩ : ∃ i, j = i + 1 := ⟨j - 1, by omega⟩
   rw [show i + 1 - 1 = i by omega]
   rw [Nat.pow_succ] at b
   have e : 2 * (2 ^ mb * (D * (2 ^ i * 2))) = 4 * 2 ^ mb * (D * 2 ^ i) := by grind
   have : (4 * 2 ^ mb - 1) * (D * 2 ^ i) ≤ 4 * 2 ^ mb * (D * 2 ^ i) := Nat.mul_le_mul_right _ (by omega)
   omega
 · have hk2 : kept = 2 ^ (mb + 1) := by omega
   have e : kept + j * 2 ^ mb = 2 ^ mb + (j + 1) * 2 ^ mb := by rw [hk2, p1, Nat.add_mul]; omega
   rw [e]
   have hp0 : 0 < 2 ^ mb := Nat.two_pow_pos mb
   have a := r.dn (by rw [hk2, p1]; omega)
   have ee : 2 ^ (j + 1) = 2 * 2 ^ j := by rw [Nat.pow_succ]; omega
   have hp : 0 < 2 ^ mb := Nat.two_pow_pos mb
   have a1 : (2 * 2 ^ mb - 1) * (D * 2 ^ (j + 1)) ≤ (2 * kept - 1) * (D * 2 ^ j) := by
    rw [ee]
    have : (2 * 2 ^ mb - 1) * (D * (2 * 2 ^ j)) = (2 * (2 * 2 ^ mb - 1)) * (D * 2 ^ j) := by generalize 2 * 2 ^ mb - 1 = y; grind
    rw [this]
    exact Nat.mul_le_mul_right _ (by omega)
   have a2 : 2 * N < (2 * 2 ^ mb + 1) * (D * 2 ^ (j + 1)) := by
    rw [ee]
    have : (2 * 2 ^ mb + 1) * (D * (2 * 2 ^ j)) = 2 * (2 ^ (mb + 1) * (D * 2 ^ j)) + 2 * (D * 2 ^ j) := by rw [p1]; grind
    omega
   have ev : 2 ^ mb % 2 = 0 := by
    obtain ⟨t, rfl⟩ : ∃ t, mb = t + 1 := ⟨mb - 1, by omega⟩
    rw [Nat.pow_succ]; omega
   refine Near.of_rnd hmb1 (Or.inl (Nat.le_refl _)) (by rw [p1]; omega) ⟨by omega, fun _ => ev, fun _ => by omega, fun _ _ => ev⟩ ?_
   intro _
   rw [show j + 1 - 1 = j by omega]
   have : 4 * 2 ^ mb - 1 = 2 * kept - 1 := by omega
   rw [this]; exact a
end Go.Proofs.YtonegoemmologaaGreatDoor.Fl
namespace Go.Proofs.YtonegoemmologaaGreatDoor.Fl
theorem infRung_sign (f : Ieee.Format) : f.infRung < f.signWeight ∧ 0 < f.signWeight := by
 have h : 0 < 2 ^ f.exponentBits := Nat.two_pow_pos _
 have e : f.infRung + f.binade = f.signWeight := by
  unfold Ieee.Format.infRung Ieee.Format.signWeight
  rw [Nat.pow_add, ← Nat.succ_mul]
  exact congrArg (· * f.binade) (by omega)
 have hb : 0 < f.binade := Nat.two_pow_pos _
 omega
theorem read_word (f : Ieee.Format) (neg : Bool) (k mb top : Nat) (hmb : f.fractionBits = mb) (htop : f.leastPlace = -(top : Int)) (hk : k < f.infRung) :
 ∃ m pl, f.read (f.word neg k) = .number neg m pl ∧ -(top : Int) ≤ pl ∧ m * 2 ^ (pl + top).toNat = fin mb k := by
 have hs := infRung_sign f
 have e1 : f.word neg k / f.signWeight % 2 = (if neg then 1 else 0) := by
  unfold Ieee.Format.word
  cases neg
  · simp only [Bool.false_eq_true, if_false]
    rw [Nat.div_eq_of_lt (by omega)]
  · simp only [if_true]
    rw [Nat.add_div_left _ hs.2, Nat.div_eq_of_lt (by omega)]
 have e2 : f.word neg k % f.signWeight = k := by
  unfold Ieee.Format.word
  cases neg
  · simp only [Bool.false_eq_true, if_false]
    exact Nat.mod_eq_of_lt (by omega)
  · simp only [if_true]
    rw [Nat.add_mod_left]; exact Nat.mod_eq_of_lt (by omega)
 have hbin : f.binade = 2 ^ mb := by unfold Ieee.Format.binade; rw [hmb]
 have en : ((if neg then 1 else 0) == 1) = neg := by cases neg <;> rfl
 unfold Ieee.Format.read
 dsimp only
 rw [e1, e2, en, hbin, htop]
 unfold fin
 by_cases c : k < 2 ^ mb
 · rw [if_pos c, if_pos c]
   exact ⟨_, _, rfl, by omega, by rw [show (-(top : Int) + top).toNat = 0 by omega]; simp⟩
 · rw [if_neg c, if_neg c, if_pos hk]
   exact ⟨_, _, rfl, by omega, by rw [show (-(top : Int) + ((k / 2 ^ mb - 1 : Nat) : Int) + top).toNat = k / 2 ^ mb - 1 by omega]⟩
theorem whole_rung (mb top a : Nat) (ha : 0 < a) (ha2 : a < 2 ^ (mb + 1)) (ht : mb ≤ top) : ∃ k, fin mb k = a * 2 ^ top ∧ k < (top + 2) * 2 ^ mb := by
 have hl : a.log2 ≤ mb := by
  have := (Nat.log2_lt (by omega : a ≠ 0)).2 ha2
  omega
 have h1 := Nat.log2_self_le (n := a) (by omega)
 have h2 := Nat.lt_log2_self (n := a)
 have h3 : 2 ^ mb ≤ a * 2 ^ (mb - a.log2) := by
  have := Nat.mul_le_mul_right (2 ^ (mb - a.log2)) h1
  rwa [← Nat.pow_add, show a.log2 + (mb - a.log2) = mb by omega] at this
 have h4 : a * 2 ^ (mb - a.log2) < 2 ^ (mb + 1) := by
  have := Nat.mul_lt_mul_of_pos_right h2 (Nat.two_pow_pos (mb - a.log2))
  rwa [← Nat.pow_add, show a.log2 + 1 + (mb - a.log2) = mb + 1 by omega] at this
 refine ⟨a * 2 ^ (mb - a.log2) + (top - (mb - a.log2)) * 2 ^ mb, ?_, ?_⟩
 · rw [fin_norm mb _ _ (Or.inl h3) (by omega), Nat.mul_assoc, ← Nat.pow_add, show mb - a.log2 + (top - (mb - a.log2)) = top by omega]
 · rw [Nat.pow_succ] at h4
   have : (top - (mb - a.log2)) * 2 ^ mb ≤ top * 2 ^ mb := Nat.mul_le_mul_right _ (by omega)
   rw [Nat.add_mul]
   omega
theorem Near.of_fin (mb k d : Nat) (hd : 0 < d) : Near mb k (fin mb k * d) d := by
 have e : ∀ a b : Nat, (a + b) * d = a * d + b * d := fun a b => Nat.add_mul a b d
 have h := Nat.mul_lt_mul_of_pos_right (fin_lt_succ mb k) hd
 refine ⟨fun j hj => ?_, fun j hj => ?_, by rw [e]; omega, by rw [e]; omega⟩
 · have h2 := Nat.mul_lt_mul_of_pos_right (fin_lt_succ mb j) hd
   subst hj
   rw [e]; omega
 · have h2 := Nat.mul_lt_mul_of_pos_right (fin_lt_succ mb j) hd
   subst hj
   rw [e]; omega
theorem mul_near (f : Ieee.Format) (neg : Bool) (mb top k1 k2 a b : Nat) (hmb : f.fractionBits = mb) (hmb1 : 1 ≤ mb) (htop : f.leastPlace = -(top : Int))
 (h1 : k1 < f.infRung) (h2 : k2 < f.infRung) (ha : fin mb k1 = a * 2 ^ top) (hb : fin mb k2 = b * 2 ^ top) (ha0 : 0 < a) (hb0 : 0 < b) :
 ∃ k, Near mb k (a * b * 2 ^ top) 1 ∧ f.mul (f.word neg k1) (f.word false k2) = some (f.word neg (min k f.infRung)) := by
 obtain ⟨m1, p1, e1, g1, v1⟩ := read_word f neg k1 mb top hmb htop h1
 obtain ⟨m2, p2, e2, g2, v2⟩ := read_word f false k2 mb top hmb htop h2
 have z1 : 0 < m1 := by
  rcases Nat.eq_zero_or_pos m1 with rfl | g
  · have := Nat.mul_pos ha0 (Nat.two_pow_pos top); omega
  · exact g
 have z2 : 0 < m2 := by
  rcases Nat.eq_zero_or_pos m2 with rfl | g
  · have := Nat.mul_pos hb0 (Nat.two_pow_pos top); omega
  · exact g
 obtain ⟨k, hk, hw⟩ := nearest_near f (neg ^^ false) (m1 * m2) (p1 + p2) mb top (m1 * m2) 1 hmb hmb1 htop (Nat.mul_pos z1 z2) (by omega) (Or.inl (by omega))
 refine ⟨k, ?_, ?_⟩
 · refine hk.scale (by rw [Nat.one_mul]; exact Nat.two_pow_pos _) (by omega) ?_
   rw [ha] at v1
   rw [hb] at v2
   have key : 2 ^ (p1 + p2 + top).toNat * 2 ^ top = 2 ^ (p1 + top).toNat * 2 ^ (p2 + top).toNat * 2 ^ (-(p1 + p2 + top)).toNat := by
    simp only [← Nat.pow_add]; congr 1; omega
   have hT : 0 < 2 ^ top := Nat.two_pow_pos top
   generalize 2 ^ (p1 + p2 + top).toNat = a1 at *
   generalize 2 ^ (p1 + top).toNat = a2 at *
   generalize 2 ^ (p2 + top).toNat = a3 at *
   generalize 2 ^ (-(p1 + p2 + top)).toNat = a4 at *
   generalize 2 ^ top = T at *
   refine Nat.eq_of_mul_eq_mul_right hT ?_
   have x1 : m1 * m2 * a1 * 1 * T = m1 * m2 * (a1 * T) := by grind
   have x2 : m1 * m2 * (a2 * a3 * a4) = (m1 * a2) * (m2 * a3) * a4 := by grind
   rw [x1, key, x2, v1, v2]; grind
 · unfold Ieee.Format.mul
   rw [e1, e2]
   unfold Ieee.Datum.product
   simp only [Option.map_some, Ieee.Format.write]
   rw [hw, Bool.xor_false]
theorem div_near (f : Ieee.Format) (neg : Bool) (mb top k1 k2 a b : Nat) (hmb : f.fractionBits = mb) (hmb1 : 1 ≤ mb) (htop : f.leastPlace = -(top : Int))
 (h1 : k1 < f.infRung) (h2 : k2 < f.infRung) (ha : fin mb k1 = a * 2 ^ top) (hb : fin mb k2 = b * 2 ^ top) (ha0 : 0 < a) (hb0 : 0 < b) :
 ∃ k, Near mb k (a * 2 ^ top) b ∧ f.div (f.word neg k1) (f.word false k2) = some (f.word neg (min k f.infRung)) := by
 obtain ⟨m1, p1, e1, g1, v1⟩ := read_word f neg k1 mb top hmb htop h1
 obtain ⟨m2, p2, e2, g2, v2⟩ := read_word f false k2 mb top hmb htop h2
 have z1 : 0 < m1 := by
  rcases Nat.eq_zero_or_pos m1 with rfl | g
  · have := Nat.mul_pos ha0 (Nat.two_pow_pos top); omega
  · exact g
 have z2 : 0 < m2 := by
  rcases Nat.eq_zero_or_pos m2 with rfl | g
  · have := Nat.mul_pos hb0 (Nat.two_pow_pos top); omega
  · exact g
 obtain ⟨more, hmore⟩ : ∃ more, f.fractionBits + 2 + m2.log2 - m1.log2 = more := ⟨_, rfl⟩
 obtain ⟨q, hq⟩ : ∃ q, (m1 <<< more) / m2 = q := ⟨_, rfl⟩
 obtain ⟨r, hr⟩ : ∃ r, (m1 <<< more) % m2 = r := ⟨_, rfl⟩
 have hqr : m2 * q + r = m1 * 2 ^ more := by
  rw [← hq, ← hr, Nat.shiftLeft_eq]; exact Nat.div_add_mod _ _
 have hrl : r < m2 := by rw [← hr]; exact Nat.mod_lt _ z2
 have hqg : 2 ^ (mb + 1) ≤ q := by
  rw [← hq]
  refine (Nat.le_div_iff_mul_le z2).2 ?_
  have l1 := Nat.log2_self_le (n := m1) (by omega)
  have l2 := Nat.lt_log2_self (n := m2)
  have s1 : 2 ^ (mb + 1) * m2 ≤ 2 ^ (mb + 1) * 2 ^ (m2.log2 + 1) := Nat.mul_le_mul_left _ (by omega)
  have s2 : 2 ^ m1.log2 * 2 ^ more ≤ m1 * 2 ^ more := Nat.mul_le_mul_right _ l1
  have s3 : 2 ^ (mb + 1) * 2 ^ (m2.log2 + 1) ≤ 2 ^ m1.log2 * 2 ^ more := by
   simp only [← Nat.pow_add]; exact Nat.pow_le_pow_right (by omega) (by omega)
  rw [Nat.shiftLeft_eq]; omega
 have hb1 : (r != 0).toNat = if r = 0 then 0 else 1 := by
  by_cases c : r = 0
  · simp [c]
  · simp [c]
 obtain ⟨mag, hmag⟩ : ∃ mag, 2 * q + (r != 0).toNat = mag := ⟨_, rfl⟩
 have hmg : 2 * q ≤ mag := by omega
 have hp1 : 2 ^ (mb + 2) ≤ mag := by
  rw [Nat.pow_succ] at hqg ⊢
  rw [Nat.pow_succ]; omega
 have hlg : mb + 2 ≤ mag.log2 := (Nat.le_log2 (by have := Nat.two_pow_pos (mb + 2); omega)).2 hp1
 obtain ⟨k, hk, hw⟩ := nearest_near f (neg ^^ false) mag (p1 - p2 - more - 1) mb top (2 * (m1 * 2 ^ more)) m2 hmb hmb1 htop (by have := Nat.two_pow_pos (mb + 2); omega) z2 (by
  by_cases c : r = 0
  · left
    rw [if_pos c] at hb1
    rw [← hqr, ← hmag, hb1, c]; grind
  · right
    rw [if_neg c] at hb1
    have hm2 : mag = 2 * q + 1 := by omega
    have x1 : (mag - 1) * m2 = 2 * (m2 * q) := by rw [hm2, show 2 * q + 1 - 1 = 2 * q by omega]; grind
    have x2 : (mag + 1) * m2 = 2 * (m2 * q) + 2 * m2 := by rw [hm2]; grind
    exact ⟨by omega, by rw [x1, ← hqr]; omega, by rw [x2, ← hqr]; omega, hlg⟩)
 refine ⟨k, ?_, ?_⟩
 · refine hk.scale (Nat.mul_pos z2 (Nat.two_pow_pos _)) hb0 ?_
   rw [ha] at v1
   rw [hb] at v2
   have key : 2 * 2 ^ more * 2 ^ (p1 - p2 - more - 1 + top).toNat * 2 ^ (p2 + top).toNat = 2 ^ (p1 + top).toNat * 2 ^ (-(p1 - p2 - more - 1 + top)).toNat * 2 ^ top := by
    rw [← Nat.pow_succ']
    simp only [← Nat.pow_add]; congr 1; omega
   have hT : 0 < 2 ^ top := Nat.two_pow_pos top
   generalize 2 ^ (p1 - p2 - more - 1 + top).toNat = a1 at *
   generalize 2 ^ (p1 + top).toNat = a2 at *
   generalize 2 ^ (p2 + top).toNat = a3 at *
   generalize 2 ^ (-(p1 - p2 - more - 1 + top)).toNat = a4 at *
   generalize 2 ^ top = T at *
   generalize 2 ^ more = M at *
   refine Nat.eq_of_mul_eq_mul_right hT ?_
   have x1 : 2 * (m1 * M) * a1 * b * T = 2 * m1 * M * a1 * (b * T) := by grind
   have x2 : 2 * m1 * M * a1 * (m2 * a3) = m1 * m2 * (2 * M * a1 * a3) := by grind
   rw [x1, ← v2, x2, key, ← v1]; grind
 · unfold Ieee.Format.div
   rw [e1, e2]
   unfold Ieee.Datum.quotient
   simp only
   rw [if_neg (by omega), hmore, hq, hr, hmag]
   simp only [Option.map_some, Ieee.Format.write]
   rw [hw, Bool.xor_false]
end Go.Proofs.YtonegoemmologaaGreatDoor.Fl
namespace Go.Proofs.YtonegoemmologaaGreatDoor.Fl
def Over (mb inf n d : Nat) : Prop := (fin mb (inf - 1) + fin mb inf) * d ≤ 2 * n
theorem Near.over {mb k inf n d : Nat} (h : Near mb k n d) (hk : inf ≤ k) (hi : 1 ≤ inf) : Over mb inf n d := by
 unfold Over
 obtain ⟨j, rfl⟩ : ∃ j, k = j + 1 := ⟨k - 1, by omega⟩
 have h1 := h.low j rfl
 have h2 : fin mb (inf - 1) ≤ fin mb j := fin_mono_le mb (by omega)
 have h3 : fin mb inf ≤ fin mb (j + 1) := fin_mono_le mb hk
 have h4 : (fin mb (inf - 1) + fin mb inf) * d ≤ (fin mb j + fin mb (j + 1)) * d := Nat.mul_le_mul_right d (by omega)
 omega
theorem Over.not {mb k inf n d : Nat} (ho : Over mb inf n d) (h : Near mb k n d) (hd : 0 < d) (he : inf % 2 = 0) (hi : 1 ≤ inf) : inf ≤ k := by
 refine Nat.le_of_not_lt fun c => ?_
 unfold Over at ho
 have h1 := h.high
 have h2 : fin mb k ≤ fin mb (inf - 1) := fin_mono_le mb (by omega)
 have h3 : fin mb (k + 1) ≤ fin mb inf := fin_mono_le mb c
 have h4 : (fin mb k + fin mb (k + 1)) * d ≤ (fin mb (inf - 1) + fin mb inf) * d := Nat.mul_le_mul_right d (by omega)
 have e1 : k % 2 = 0 := h.highE (by omega)
 have e2 : fin mb k + fin mb (k + 1) = fin mb (inf - 1) + fin mb inf := Nat.eq_of_mul_eq_mul_right hd (by omega)
 have e3 : k = inf - 1 := fin_inj mb (by omega)
 omega
theorem near_small (mb n d : Nat) (hmb : 1 ≤ mb) (h : 4 * n < d) : Near mb 0 n d := by
 have h2 : 2 ^ 1 ≤ 2 ^ mb := Nat.pow_le_pow_right (by omega) hmb
 have e0 : fin mb 0 = 0 := by unfold fin; rw [if_pos (by omega)]
 have e1 : fin mb (0 + 1) = 1 := by unfold fin; rw [if_pos (by omega)]
 refine ⟨fun j hj => by omega, fun j hj => by omega, ?_, ?_⟩
 · rw [e0, e1]; omega
 · rw [e0, e1]; omega
theorem over_big (mb inf n d : Nat) (h : fin mb inf * d ≤ n) : Over mb inf n d := by
 unfold Over
 have : fin mb (inf - 1) ≤ fin mb inf := fin_mono_le mb (by omega)
 have : (fin mb (inf - 1) + fin mb inf) * d ≤ (fin mb inf + fin mb inf) * d := Nat.mul_le_mul_right d (by omega)
 rw [Nat.add_mul (fin mb inf)] at this
 omega
theorem fin_inf64 : fin 52 (2047 * 2 ^ 52) = 2 ^ 1024 * 2 ^ 1074 := by decide +kernel
theorem fin_inf32 : fin 23 (255 * 2 ^ 23) = 2 ^ 128 * 2 ^ 149 := by decide +kernel
theorem mul_up {a b x y z : Nat} (h1 : a ≤ x) (h2 : x ≤ y) (hd : 0 < z) : a * b ≤ z * y * b := by
 refine Nat.mul_le_mul_right _ (Nat.le_trans h1 (Nat.le_trans h2 ?_))
 have := Nat.mul_le_mul_right y hd
 omega
theorem small_up {a b d x y : Nat} (hd : d ≤ a) (h1 : 4 * (a * b) < x) (h2 : x ≤ y) : 4 * (d * 1 * b) < y := by
 have : d * 1 * b ≤ a * b := Nat.mul_le_mul_right _ (by omega)
 omega
theorem dec_over (mb inf top q x d : Nat) (p : Int) (hf : fin mb inf = x * 2 ^ top) (hx : x ≤ 10 ^ q) (hd : 0 < d) (hp : (q : Int) < p) : Over mb inf (decN top d p) (decD p) := by
 refine over_big _ _ _ _ ?_
 rw [hf]
 unfold decN decD
 rw [show (-p).toNat = 0 by omega, Nat.pow_zero, Nat.mul_one]
 exact mul_up hx (Nat.pow_le_pow_right (by omega) (by omega)) hd
theorem two1024 : (2 : Nat) ^ 1024 ≤ 10 ^ 310 := by decide +kernel
theorem dec_over64 (d : Nat) (p : Int) (hd : 0 < d) (hp : 310 < p) : Over 52 (2047 * 2 ^ 52) (decN 1074 d p) (decD p) :=
 dec_over _ _ _ _ _ d p fin_inf64 two1024 hd hp
theorem dec_small64 (d : Nat) (p : Int) (hd : d < 2 ^ 64) (hp : p < -345) : Near 52 0 (decN 1074 d p) (decD p) := by
 refine near_small _ _ _ (by omega) ?_
 unfold decN decD
 rw [show p.toNat = 0 by omega, Nat.pow_zero]
 exact small_up (a := 2 ^ 64) (x := 10 ^ 346) (Nat.le_of_lt hd) (by decide +kernel) (Nat.pow_le_pow_right (by omega) (by omega))
theorem prs_tiny (mb top d : Nat) (p : Int) (hd0 : 0 < d) (hd : d < 2 ^ 64) (h1 : -345 ≤ p) (h2 : p ≤ 310) (hmb : 20 ≤ mb ∧ mb ≤ 52) (hs : 64 ≤ prsS mb top d p) :
 Near mb 0 (decN top d p) (decD p) := by
 have hl := len_le hd0 hd
 have hb := pow_bounds p (by omega) (by omega)
 have lb := len_bounds hd0
 have hB := powB_pos p
 have he : prsE mb top d p = top := by unfold prsS at hs; unfold prsE at *; omega
 refine near_small _ _ _ (by omega) ?_
 have hs2 := prsS_eq mb top d p
 have x1 : d * powA p < 2 ^ len d * (2 ^ 128 * powB p) := by
  refine Nat.lt_of_lt_of_le (Nat.mul_lt_mul_of_pos_right lb.2 ?_) (Nat.mul_le_mul_left _ (Nat.le_trans hb.2 (Nat.mul_le_mul_right _ (by omega))))
  exact Nat.lt_of_lt_of_le (Nat.mul_pos (by omega) hB) hb.1
 unfold powA powB at x1
 unfold decN decD
 rw [he] at hs2
 generalize lgp p = l at *
 generalize len d = b at *
 have g1 := Nat.two_pow_pos (127 - l).toNat
 have key : 4 * 2 ^ top * (2 ^ b * 2 ^ 128 * 2 ^ (l - 127).toNat) ≤ 2 ^ (127 - l).toNat := by
  rw [show (4 : Nat) = 2 ^ 2 from rfl]
  simp only [← Nat.pow_add]
  exact Nat.pow_le_pow_right (by omega) (by omega)
 generalize 2 ^ (127 - l).toNat = a1 at *
 generalize 2 ^ (l - 127).toNat = a2 at *
 have g2 := Nat.two_pow_pos top
 generalize 2 ^ top = a3 at *
 generalize 2 ^ b = a4 at *
 generalize 2 ^ 128 = a5 at *
 generalize 10 ^ p.toNat = c1 at *
 generalize 10 ^ (-p).toNat = c2 at *
 refine Nat.lt_of_mul_lt_mul_right (a := a1) ?_
 have e1 : 4 * (d * c1 * a3) * a1 = 4 * a3 * (d * (c1 * a1)) := by grind
 have e2 : 4 * a3 * (a4 * (a5 * (c2 * a2))) = c2 * (4 * a3 * (a4 * a5 * a2)) := by grind
 have k1 := Nat.mul_lt_mul_of_pos_left x1 (show 0 < 4 * a3 by omega)
 have k2 := Nat.mul_le_mul_left c2 key
 omega
end Go.Proofs.YtonegoemmologaaGreatDoor.Fl
namespace Go.Proofs.YtonegoemmologaaGreatDoor.Fl
def sg (neg : Bool) (n : Nat) : Int := if neg then -(n : Int) else n
theorem compare_scale (a b : Int) (c : Nat) (hc : 0 < c) : compare (a * c) (b * c) = compare a b := by
 have hc' : (0 : Int) < c := by omega
 rcases Int.lt_trichotomy a b with h | h | h
 · rw [Int.compare_eq_lt.2 h, Int.compare_eq_lt.2 (Int.mul_lt_mul_of_pos_right h hc')]
 · rw [h]; simp
 · rw [Int.compare_eq_gt.2 h, Int.compare_eq_gt.2 (Int.mul_lt_mul_of_pos_right h hc')]
theorem signed_scale (neg : Bool) (m up c : Nat) : Ieee.signed neg m up * ((2 ^ c : Nat) : Int) = sg neg (m * 2 ^ (up + c)) := by
 unfold Ieee.signed sg
 rw [Nat.shiftLeft_eq, Nat.pow_add, ← Nat.mul_assoc]
 cases neg
 · simp only [Bool.false_eq_true, if_false]; push_cast; rfl
 · simp only [if_true]; push_cast; grind
theorem order_word (f : Ieee.Format) (s t : Bool) (mb top k1 k2 : Nat) (hmb : f.fractionBits = mb) (htop : f.leastPlace = -(top : Int)) (h1 : k1 < f.infRung) (h2 : k2 < f.infRung) :
 f.order (f.word s k1) (f.word t k2) = some (compare (sg s (fin mb k1)) (sg t (fin mb k2))) := by
 obtain ⟨m1, p1, e1, g1, v1⟩ := read_word f s k1 mb top hmb htop h1
 obtain ⟨m2, p2, e2, g2, v2⟩ := read_word f t k2 mb top hmb htop h2
 unfold Ieee.Format.order
 rw [e1, e2]
 unfold Ieee.Datum.order
 simp only
 have hb : -(top : Int) ≤ min p1 p2 := by omega
 rw [← compare_scale _ _ (2 ^ (min p1 p2 + top).toNat) (Nat.two_pow_pos _), signed_scale, signed_scale,
  show (p1 - min p1 p2).toNat + (min p1 p2 + top).toNat = (p1 + top).toNat by omega,
  show (p2 - min p1 p2).toNat + (min p1 p2 + top).toNat = (p2 + top).toNat by omega, v1, v2]
theorem int_word (f : Ieee.Format) (neg : Bool) (mb top a : Nat) (hmb : f.fractionBits = mb) (hmb1 : 1 ≤ mb) (htop : f.leastPlace = -(top : Int)) (ha : 0 < a) (ha2 : a < 2 ^ (mb + 1)) (ht : mb ≤ top) (hinf : (top + 2) * 2 ^ mb ≤ f.infRung) :
 ∃ k, k < f.infRung ∧ fin mb k = a * 2 ^ top ∧ f.write (.number neg a 0) = f.word neg k := by
 obtain ⟨k, hk, hw⟩ := nearest_near f neg a 0 mb top a 1 hmb hmb1 htop ha (by omega) (Or.inl (by omega))
 obtain ⟨k2, h1, h2⟩ := whole_rung mb top a ha ha2 ht
 have e : k = k2 := by
  refine Near.uniq (mb := mb) (n := a * 2 ^ top) (d := 1) (by omega) ?_ (by have := Near.of_fin mb k2 1 (by omega); rwa [h1, Nat.mul_one] at this)
  have e1 : ((0 : Int) + top).toNat = top := by omega
  have e2 : (-((0 : Int) + top)).toNat = 0 := by omega
  rw [e1, e2] at hk
  simpa using hk
 refine ⟨k, by omega, by rw [e, h1], ?_⟩
 show f.nearest neg a 0 = _
 rw [hw, Nat.min_eq_left (by omega)]
end Go.Proofs.YtonegoemmologaaGreatDoor.Fl
namespace Go.Proofs.YtonegoemmologaaGreatDoor.Fl
def narrowR (x : Int) : Bool := decide (scW x (shP false x) ≤ 10 * scD x (shP false x))
def narrowS (x : Int) : Bool := decide (scW x (shP true x) ≤ 14 * scD x (shP true x))
theorem narrowR_all : (List.range 2046).all (fun i => narrowR ((i : Int) - 1074)) = true := by decide +kernel
theorem narrowS_all : (List.range 2046).all (fun i => narrowS ((i : Int) - 1074)) = true := by decide +kernel
theorem narrow_of (skew : Bool) (x : Int) (h1 : -1074 ≤ x) (h2 : x ≤ 971) : scW x (shP skew x) ≤ (if skew then 14 else 10) * scD x (shP skew x) := by
 cases skew
 · have := in_all narrowR_all x (by omega) (by omega)
   simpa [narrowR] using this
 · have := in_all narrowS_all x (by omega) (by omega)
   simpa [narrowS] using this
theorem Ends.has_hi {E : Ends} {q : Nat} (h : E.has q) : q * E.d ≤ E.hi ∧ E.lo ≤ q * E.d := by
 unfold Ends.has at h
 cases ho : E.odd
 · rw [ho] at h; simp only [Bool.false_eq_true, if_false] at h; omega
 · rw [ho] at h; simp only [if_true] at h; omega
theorem shortD_bound (mb top mant j hi lo : Nat) (hm : 0 < mant) (hmb : 1 ≤ mb ∧ mb ≤ 52) (hm2 : mant < 2 ^ (mb + 1))
 (h1 : -1074 ≤ (j : Int) - top) (h2 : (j : Int) - top ≤ 971)
 (hM : hi * 2 ^ 64 = powM (shP (skewed mb mant j) ((j : Int) - top)) + lo) (hlo : lo < 2 ^ 64) :
 0 < (shortD mb top mant j hi lo).1 ∧ (shortD mb top mant j hi lo).1 < 10 ^ 17
 ∧ -336 ≤ (shortD mb top mant j hi lo).2 ∧ (shortD mb top mant j hi lo).2 ≤ 321 := by
 have w := wide_of (skewed mb mant j) _ h1 h2
 have nw := narrow_of (skewed mb mant j) _ h1 h2
 rw [shortD_pick mb top mant j hi lo hm hmb.2 hm2 h1 h2 hM hlo]
 dsimp only
 have k := (endsOf_ok mb top mant j hm hmb.1 h1 h2).pick
 have hh := Ends.has_hi k
 have hD := scD_pos ((j : Int) - top) (shP (skewed mb mant j) ((j : Int) - top))
 have hW := scW_pos ((j : Int) - top) (shP (skewed mb mant j) ((j : Int) - top))
 have hsk : skewed mb mant j = true → mant ≤ 2 ^ 52 := by
  intro h
  unfold skewed at h
  rw [(of_decide_eq_true h).1]
  exact Nat.pow_le_pow_right (by omega) hmb.2
 have hm3 : mant < 2 ^ 53 := Nat.lt_of_lt_of_le hm2 (Nat.pow_le_pow_right (by omega) (by omega))
 have hd : (endsOf mb top mant j).d = 4 * scD ((j : Int) - top) (shP (skewed mb mant j) ((j : Int) - top)) := rfl
 have hhi : (endsOf mb top mant j).hi = (4 * mant + 2) * scW ((j : Int) - top) (shP (skewed mb mant j) ((j : Int) - top)) := rfl
 have hlo' : 0 < (endsOf mb top mant j).lo := by
  show 0 < (if skewed mb mant j then 4 * mant - 1 else 4 * mant - 2) * scW ((j : Int) - top) (shP (skewed mb mant j) ((j : Int) - top))
  refine Nat.mul_pos ?_ hW
  split <;> omega
 rw [hd, hhi] at hh
 generalize (endsOf mb top mant j).lo = LO at *
 generalize (endsOf mb top mant j).pick = P at *
 have big : (if P.2 then 10 * P.1 else P.1) < 10 ^ 17 := by
  generalize (if P.2 then 10 * P.1 else P.1) = q at *
  have a1 : (4 * mant + 2) * scW ((j : Int) - top) (shP (skewed mb mant j) ((j : Int) - top)) ≤ (4 * mant + 2) * ((if skewed mb mant j then 14 else 10) * scD ((j : Int) - top) (shP (skewed mb mant j) ((j : Int) - top))) := Nat.mul_le_mul_left _ nw
  generalize scD ((j : Int) - top) (shP (skewed mb mant j) ((j : Int) - top)) = D at *
  generalize scW ((j : Int) - top) (shP (skewed mb mant j) ((j : Int) - top)) = W at *
  cases hs : skewed mb mant j
  · rw [hs] at a1
    simp only [Bool.false_eq_true, if_false] at a1
    have : q * 4 * D ≤ (4 * mant + 2) * 10 * D := by
     have e1 : q * 4 * D = q * (4 * D) := Nat.mul_assoc ..
     have e2 : (4 * mant + 2) * 10 * D = (4 * mant + 2) * (10 * D) := Nat.mul_assoc ..
     omega
    have := Nat.le_of_mul_le_mul_right this hD
    omega
  · rw [hs] at a1
    have := hsk hs
    simp only [if_true] at a1
    have : q * 4 * D ≤ (4 * mant + 2) * 14 * D := by
     have e1 : q * 4 * D = q * (4 * D) := Nat.mul_assoc ..
     have e2 : (4 * mant + 2) * 14 * D = (4 * mant + 2) * (14 * D) := Nat.mul_assoc ..
     omega
    have := Nat.le_of_mul_le_mul_right this hD
    omega
 have small : 0 < (if P.2 then 10 * P.1 else P.1) := by
  rcases Nat.eq_zero_or_pos (if P.2 then 10 * P.1 else P.1) with g | g
  · rw [g] at hh; simp at hh; omega
  · exact g
 generalize shP (skewed mb mant j) ((j : Int) - top) = p at *
 cases hp : P.2
 · rw [hp] at big small
   simp only [Bool.false_eq_true, if_false] at big small ⊢
   omega
 · rw [hp] at big small
   simp only [if_true] at big small ⊢
   omega
end Go.Proofs.YtonegoemmologaaGreatDoor.Fl
namespace Go.Proofs.YtonegoemmologaaGreatDoor.Fl
def nval (l : List UInt8) : Nat := l.foldl (fun a c => a * 10 + (c.toNat - 48)) 0
def isDig (c : UInt8) : Prop := 48 ≤ c.toNat ∧ c.toNat ≤ 57
theorem foldl_nval (l : List UInt8) (a : Nat) : l.foldl (fun a c => a * 10 + (c.toNat - 48)) a = a * 10 ^ l.length + nval l := by
 induction l generalizing a with
 | nil => simp [nval]
 | cons c l ih =>
  unfold nval
  simp only [List.foldl_cons, List.length_cons]
  rw [ih, ih (0 * 10 + (c.toNat - 48)), Nat.pow_succ]
  grind
theorem nval_append (a b : List UInt8) : nval (a ++ b) = nval a * 10 ^ b.length + nval b := by
 unfold nval
 rw [List.foldl_append, foldl_nval]
 rfl
theorem nval_nil : nval [] = 0 := rfl
theorem nval_one (c : UInt8) : nval [c] = c.toNat - 48 := by simp [nval]
theorem nval_snoc (l : List UInt8) (c : UInt8) : nval (l ++ [c]) = nval l * 10 + (c.toNat - 48) := by
 rw [nval_append, nval_one]; rfl
theorem nval_zeros (l : List UInt8) (z : Nat) : nval (l ++ List.replicate z 48) = nval l * 10 ^ z := by
 induction z with
 | zero => simp
 | succ z ih =>
  rw [List.replicate_succ', ← List.append_assoc, nval_snoc, ih, Nat.pow_succ]
  simp only [show (48 : UInt8).toNat - 48 = 0 from rfl]
  grind
theorem nval_lead (l : List UInt8) (z : Nat) : nval (List.replicate z 48 ++ l) = nval l := by
 rw [nval_append]
 have : nval (List.replicate z 48) = 0 := by have := nval_zeros [] z; simpa [nval_nil] using this
 rw [this]; omega
theorem nval_lt (l : List UInt8) (h : ∀ c ∈ l, isDig c) : nval l < 10 ^ l.length := by
 induction l with
 | nil => simp [nval]
 | cons c l ih =>
  have h1 := ih (fun x hx => h x (List.mem_cons_of_mem _ hx))
  have h2 := h c List.mem_cons_self
  unfold isDig at h2
  rw [show c :: l = [c] ++ l from rfl, nval_append, nval_one, List.length_append, List.length_singleton, Nat.add_comm 1, Nat.pow_succ]
  have : (c.toNat - 48) * 10 ^ l.length ≤ 9 * 10 ^ l.length := Nat.mul_le_mul_right _ (by omega)
  omega
inductive ExpText : List UInt8 → Int → Prop
 | none : ExpText [] 0
 | plus (ds : List UInt8) (h : ∀ c ∈ ds, isDig c) (h0 : ds ≠ []) (h1 : ds.length ≤ 4) : ExpText (101 :: 43 :: ds) (nval ds)
 | minus (ds : List UInt8) (h : ∀ c ∈ ds, isDig c) (h0 : ds ≠ []) (h1 : ds.length ≤ 4) : ExpText (101 :: 45 :: ds) (-(nval ds : Int))
structure NumText (neg : Bool) (T : List UInt8) (n : Nat) (q : Int) : Prop where
 parts : ∃ (I F X : List UInt8) (e : Int), T = (if neg then [45] else []) ++ (I ++ ((if F = [] then [] else 46 :: F) ++ X)) ∧ I ≠ [] ∧ (∀ c ∈ I, isDig c) ∧ (∀ c ∈ F, isDig c) ∧ ExpText X e
  ∧ nval (I ++ F) < 10 ^ 19 ∧ nval (I ++ F) * 10 ^ (e - F.length).toNat * 10 ^ (-q).toNat = n * 10 ^ q.toNat * 10 ^ (-(e - F.length)).toNat
theorem NumText.same {neg : Bool} {T : List UInt8} {n n' : Nat} {q q' : Int} (h : NumText neg T n q) (e : n * 10 ^ q.toNat * 10 ^ (-q').toNat = n' * 10 ^ q'.toNat * 10 ^ (-q).toNat) : NumText neg T n' q' := by
 obtain ⟨I, F, X, x, h1, h2, h3, h4, h5, h6, h7⟩ := h.parts
 refine ⟨I, F, X, x, h1, h2, h3, h4, h5, h6, ?_⟩
 generalize nval (I ++ F) = v at *
 generalize 10 ^ (x - F.length).toNat = a at *
 generalize 10 ^ (-(x - F.length)).toNat = b at *
 have p1 : 0 < 10 ^ q.toNat := Nat.pow_pos (by omega)
 have p2 : 0 < 10 ^ (-q).toNat := Nat.pow_pos (by omega)
 generalize 10 ^ q.toNat = c at *
 generalize 10 ^ (-q).toNat = d at *
 generalize 10 ^ q'.toNat = c' at *
 generalize 10 ^ (-q').toNat = d' at *
 refine Nat.eq_of_mul_eq_mul_right p2 ?_
 have e1 : v * a * d' * d = v * a * d * d' := by grind
 have e2 : n' * c' * b * d = n' * c' * d * b := by grind
 rw [e1, h7, e2, ← e]; grind
theorem near_dec {mb top k n n' : Nat} {q q' : Int} (h : Near mb k (decN top n q) (decD q)) (e : n * 10 ^ q.toNat * 10 ^ (-q').toNat = n' * 10 ^ q'.toNat * 10 ^ (-q).toNat) : Near mb k (decN top n' q') (decD q') := by
 refine h.scale (decD_pos _) (decD_pos _) ?_
 unfold decN decD
 have : n * 10 ^ q.toNat * 2 ^ top * 10 ^ (-q').toNat = n * 10 ^ q.toNat * 10 ^ (-q').toNat * 2 ^ top := by grind
 rw [this, e]; grind
end Go.Proofs.YtonegoemmologaaGreatDoor.Fl
namespace Go.Proofs.YtonegoemmologaaGreatDoor.Fl
def dsq (f : Nat → UInt8) (a k : Nat) : List UInt8 := (List.range k).map fun j => f (a + j)
theorem dsq_length (f : Nat → UInt8) (a k : Nat) : (dsq f a k).length = k := by simp [dsq]
theorem dsq_succ (f : Nat → UInt8) (a k : Nat) : dsq f a (k + 1) = dsq f a k ++ [f (a + k)] := by
 unfold dsq; rw [List.range_succ, List.map_append]; rfl
theorem dsq_add (f : Nat → UInt8) (a k : Nat) : ∀ r, dsq f a (k + r) = dsq f a k ++ dsq f (a + k) r
 | 0 => by simp [dsq]
 | r + 1 => by
  rw [← Nat.add_assoc, dsq_succ, dsq_add f a k r, dsq_succ, List.append_assoc, Nat.add_assoc]
theorem dsq_one (f : Nat → UInt8) (a : Nat) : dsq f a 1 = [f a] := by simp [dsq]
def Digits (f : Nat → UInt8) (n : Nat) : Prop := ∀ j, j < n → isDig (f j)
theorem dsq_dig {f : Nat → UInt8} {n a k : Nat} (h : Digits f n) (hk : a + k ≤ n) : ∀ c ∈ dsq f a k, isDig c := by
 intro c hc
 unfold dsq at hc
 obtain ⟨j, hj, rfl⟩ := List.mem_map.1 hc
 exact h _ (by have := List.mem_range.1 hj; omega)
theorem nval_lt19 {l : List UInt8} (h : ∀ c ∈ l, isDig c) (hl : l.length ≤ 19) : nval l < 10 ^ 19 :=
 Nat.lt_of_lt_of_le (nval_lt l h) (Nat.pow_le_pow_right (by omega) hl)
theorem zeros_dig (z : Nat) : ∀ c ∈ List.replicate z (48 : UInt8), isDig c := by
 intro c hc
 rw [List.eq_of_mem_replicate hc]
 exact ⟨by decide, by decide⟩
theorem num_eq (v : Nat) (a b : Int) (h : a = b) : v * 10 ^ a.toNat * 10 ^ (-b).toNat = v * 10 ^ b.toNat * 10 ^ (-a).toNat := by subst h; rfl
theorem numText_A (neg : Bool) (f : Nat → UInt8) (nd z : Nat) (h : Digits f nd) (h1 : 1 ≤ nd) (h2 : nd + z ≤ 19) :
 NumText neg ((if neg then [45] else []) ++ (dsq f 0 nd ++ List.replicate z 48)) (nval (dsq f 0 nd)) z := by
 have hd : ∀ c ∈ dsq f 0 nd ++ List.replicate z 48, isDig c := by
  intro c hc
  rcases List.mem_append.1 hc with g | g
  · exact dsq_dig h (by omega) c g
  · exact zeros_dig z c g
 refine ⟨dsq f 0 nd ++ List.replicate z 48, [], [], 0, by simp, ?_, hd, by simp, .none, ?_, ?_⟩
 · intro e
   have := congrArg List.length e
   rw [List.length_append, dsq_length, List.length_replicate] at this
   simp at this; omega
 · rw [List.append_nil]
   exact nval_lt19 hd (by rw [List.length_append, dsq_length, List.length_replicate]; omega)
 · rw [List.append_nil, nval_zeros]
   simp
theorem numText_B (neg : Bool) (f : Nat → UInt8) (nd q r : Nat) (h : Digits f nd) (hq : 1 ≤ q) (hr : 1 ≤ r) (hn : nd = q + r) (h2 : nval (dsq f 0 nd) < 10 ^ 19) :
 NumText neg ((if neg then [45] else []) ++ (dsq f 0 q ++ ([46] ++ dsq f q r))) (nval (dsq f 0 nd)) (-(r : Int)) := by
 have hF : dsq f q r ≠ [] := by
  intro e
  have := congrArg List.length e
  rw [dsq_length] at this
  simp at this; omega
 have e : dsq f 0 q ++ dsq f q r = dsq f 0 nd := by rw [hn, dsq_add, Nat.zero_add]
 refine ⟨dsq f 0 q, dsq f q r, [], 0, by rw [if_neg hF]; simp, ?_, dsq_dig h (by omega), dsq_dig h (by omega), .none, ?_, ?_⟩
 · intro e
   have := congrArg List.length e
   rw [dsq_length] at this
   simp at this; omega
 · rw [e]; exact h2
 · rw [e, dsq_length]
   exact num_eq _ _ _ (by omega)
theorem numText_C (neg : Bool) (f : Nat → UInt8) (nd q : Nat) (h : Digits f nd) (h1 : 1 ≤ nd) (h2 : nval (dsq f 0 nd) < 10 ^ 19) :
 NumText neg ((if neg then [45] else []) ++ ([48] ++ ([46] ++ (List.replicate q 48 ++ dsq f 0 nd)))) (nval (dsq f 0 nd)) (-((q + nd : Nat) : Int)) := by
 have hF : List.replicate q 48 ++ dsq f 0 nd ≠ [] := by
  intro e
  have := congrArg List.length e
  rw [List.length_append, dsq_length] at this
  simp at this; omega
 have e : nval ([48] ++ (List.replicate q 48 ++ dsq f 0 nd)) = nval (dsq f 0 nd) := by
  have := nval_lead (List.replicate q 48 ++ dsq f 0 nd) 1
  rw [show List.replicate 1 (48 : UInt8) = [48] from rfl] at this
  rw [this, nval_lead]
 refine ⟨[48], List.replicate q 48 ++ dsq f 0 nd, [], 0, by rw [if_neg hF]; simp, by simp, ?_, ?_, .none, ?_, ?_⟩
 · exact zeros_dig 1
 · intro c hc
   rcases List.mem_append.1 hc with g | g
   · exact zeros_dig q c g
   · exact dsq_dig h (by omega) c g
 · rw [e]; exact h2
 · rw [e, List.length_append, List.length_replicate, dsq_length]
   exact num_eq _ _ _ (by omega)
theorem numText_Z (neg : Bool) (q : Int) : NumText neg ((if neg then [45] else []) ++ [48]) 0 q := by
 refine ⟨[48], [], [], 0, by simp, by simp, zeros_dig 1, by simp, .none, by decide, ?_⟩
 rw [List.append_nil, nval_one]
 simp
theorem numText_E (neg : Bool) (f : Nat → UInt8) (nd : Nat) (mid X : List UInt8) (e dp : Int) (h : Digits f nd) (h1 : 1 ≤ nd) (h2 : nval (dsq f 0 nd) < 10 ^ 19) (hm : mid = dsq f 1 (nd - 1)) (hX : ExpText X e) (he : e = dp - 1) :
 NumText neg ((if neg then [45] else []) ++ ([f 0] ++ ((if nd = 1 then [] else 46 :: mid) ++ X))) (nval (dsq f 0 nd)) (dp - nd) := by
 have e1 : [f 0] ++ mid = dsq f 0 nd := by
  rw [hm, show nd = 1 + (nd - 1) by omega, dsq_add, dsq_one, show 1 + (nd - 1) - 1 = nd - 1 by omega]
 have hc : (mid = []) ↔ nd = 1 := by
  rw [hm]
  constructor
  · intro q
    have := congrArg List.length q
    rw [dsq_length] at this
    simp at this; omega
  · intro q; rw [q]; simp [dsq]
 have hl : mid.length = nd - 1 := by rw [hm, dsq_length]
 refine ⟨[f 0], mid, X, e, ?_, by simp, ?_, ?_, hX, ?_, ?_⟩
 · by_cases c : nd = 1
   · rw [if_pos c, if_pos (hc.2 c)]
   · rw [if_neg c, if_neg (fun q => c (hc.1 q))]
 · intro c hcm
   rw [List.mem_singleton] at hcm
   rw [hcm]; exact h 0 (by omega)
 · rw [hm]; exact dsq_dig h (by omega)
 · rw [e1]; exact h2
 · rw [e1, hl]
   exact num_eq _ _ _ (by omega)
theorem exp_one (neg : Bool) (c0 : UInt8) (X : Nat) (h0 : (X : Int) + 48 = (c0.toNat : Int)) (hX : X < 10) : ExpText (101 :: (if neg then 45 else 43) :: [48, c0]) (if neg then -(X : Int) else X) := by
 have hd : ∀ c ∈ [(48 : UInt8), c0], isDig c := by
  intro c hc
  unfold isDig
  rcases List.mem_cons.1 hc with rfl | hc
  · exact ⟨by decide, by decide⟩
  · rw [List.mem_singleton.1 hc]; omega
 have hv : nval [48, c0] = X := by
  rw [show [(48 : UInt8), c0] = [48] ++ [c0] from rfl, nval_append, nval_one, nval_one]
  simp only [show (48 : UInt8).toNat = 48 from rfl]
  omega
 cases neg
 · have := ExpText.plus _ hd (by simp) (by simp)
   rw [hv] at this; simpa using this
 · have := ExpText.minus _ hd (by simp) (by simp)
   rw [hv] at this; simpa using this
theorem exp_two (neg : Bool) (c1 c0 : UInt8) (X : Nat) (h0 : (X : Int) % 10 + 48 = (c0.toNat : Int)) (h1 : (X : Int) / 10 + 48 = (c1.toNat : Int)) (hX : X < 100) : ExpText (101 :: (if neg then 45 else 43) :: [c1, c0]) (if neg then -(X : Int) else X) := by
 have hd : ∀ c ∈ [c1, c0], isDig c := by
  intro c hc
  unfold isDig
  rcases List.mem_cons.1 hc with rfl | hc
  · omega
  · rw [List.mem_singleton.1 hc]; omega
 have hv : nval [c1, c0] = X := by
  rw [show [c1, c0] = [c1] ++ [c0] from rfl, nval_append, nval_one, nval_one]
  simp only [List.length_singleton]
  omega
 cases neg
 · have := ExpText.plus _ hd (by simp) (by simp)
   rw [hv] at this; simpa using this
 · have := ExpText.minus _ hd (by simp) (by simp)
   rw [hv] at this; simpa using this
theorem exp_three (neg : Bool) (c2 c1 c0 : UInt8) (X : Nat) (h0 : (X : Int) % 10 + 48 = (c0.toNat : Int)) (h1 : (X : Int) / 10 % 10 + 48 = (c1.toNat : Int)) (h2 : (X : Int) / 100 + 48 = (c2.toNat : Int)) (hX : X < 1000) : ExpText (101 :: (if neg then 45 else 43) :: [c2, c1, c0]) (if neg then -(X : Int) else X) := by
 have hd : ∀ c ∈ [c2, c1, c0], isDig c := by
  intro c hc
  unfold isDig
  rcases List.mem_cons.1 hc with rfl | hc
  · omega
  · rcases List.mem_cons.1 hc with rfl | hc
    · omega
    · rw [List.mem_singleton.1 hc]; omega
 have hv : nval [c2, c1, c0] = X := by
  rw [show [c2, c1, c0] = [c2] ++ ([c1] ++ [c0]) from rfl, nval_append, nval_append, nval_one, nval_one, nval_one]
  simp only [List.length_singleton, List.length_append]
  omega
 cases neg
 · have := ExpText.plus _ hd (by simp) (by simp)
   rw [hv] at this; simpa using this
 · have := ExpText.minus _ hd (by simp) (by simp)
   rw [hv] at this; simpa using this
end Go.Proofs.YtonegoemmologaaGreatDoor.Fl
namespace Go.Proofs.YtonegoemmologaaGreatDoor.Fl
theorem shift_rung (mb a t : Nat) (ha : 0 < a) (ha2 : a < 2 ^ (mb + 1)) (ht : mb ≤ t) : ∃ k, fin mb k = a * 2 ^ t := by
 obtain ⟨k, hk, _⟩ := whole_rung mb t a ha ha2 ht
 exact ⟨k, hk⟩
theorem Near.ge {mb k a n d : Nat} (h : Near mb k n d) (hd : 0 < d) (hv : fin mb a * d ≤ n) : a ≤ k := by
 refine Nat.le_of_not_lt fun c => ?_
 have h1 := h.high
 have h2 : fin mb (k + 1) ≤ fin mb a := fin_mono_le mb c
 have h3 := fin_lt_succ mb k
 have h4 : (fin mb k + fin mb (k + 1)) * d < (fin mb a + fin mb a) * d := Nat.mul_lt_mul_of_pos_right (by omega) hd
 rw [Nat.add_mul (fin mb a)] at h4
 omega
theorem Near.le {mb k a n d : Nat} (h : Near mb k n d) (hd : 0 < d) (hv : n ≤ fin mb a * d) : k ≤ a := by
 refine Nat.le_of_not_lt fun c => ?_
 obtain ⟨j, rfl⟩ : ∃ j, k = j + 1 := ⟨k - 1, by omega⟩
 have h1 := h.low j rfl
 have h2 : fin mb a ≤ fin mb j := fin_mono_le mb (by omega)
 have h3 := fin_lt_succ mb j
 have h4 : (fin mb a + fin mb a) * d < (fin mb j + fin mb (j + 1)) * d := Nat.mul_lt_mul_of_pos_right (by omega) hd
 rw [Nat.add_mul (fin mb a)] at h4
 omega
theorem mid_rung (k z : Nat) (hz : 53 ≤ z) : ∃ a, 2 * fin 52 a = (fin 23 k + fin 23 (k + 1)) * 2 ^ z := by
 obtain ⟨t, rfl⟩ : ∃ t, z = t + 1 := ⟨z - 1, by omega⟩
 obtain ⟨m, j, rfl, h1, h2⟩ := rung_form 23 k
 rw [fin_succ 23 m j h2 h1, fin_norm 23 m j h2 (by omega)]
 obtain ⟨a, ha⟩ := shift_rung 52 (2 * m + 1) (j + t) (by omega) (by
  have : (2 : Nat) ^ (23 + 1) = 16777216 := by decide
  have : (2 : Nat) ^ (52 + 1) = 9007199254740992 := by decide
  omega) (by omega)
 refine ⟨a, ?_⟩
 rw [ha, Nat.pow_add]
 rw [Nat.pow_succ 2 t]
 generalize 2 ^ t = z
 generalize 2 ^ j = y
 grind
theorem twice {k k64 k' n z : Nat} {q : Int} (hz53 : 53 ≤ z) (h32 : Near 23 k (decN 149 n q) (decD q)) (h64 : Near 52 k64 (decN (149 + z) n q) (decD q)) (h' : Near 23 k' (fin 52 k64) (2 ^ z)) : k' ≤ k + 1 ∧ k ≤ k' + 1 := by
 have hD := decD_pos q
 have e : decN (149 + z) n q = decN 149 n q * 2 ^ z := by
  unfold decN
  rw [Nat.mul_assoc _ (2 ^ 149), ← Nat.pow_add]
 have hz : 0 < 2 ^ z := Nat.two_pow_pos z
 rw [e] at h64
 generalize decN 149 n q = N at *
 generalize decD q = D at *
 generalize hZ : 2 ^ z = Z at *
 constructor
 · -- above: the value is at most the midpoint behind k
   obtain ⟨a, ha⟩ := mid_rung k z hz53
   rw [hZ] at ha
   have h1 := h32.high
   have h2 : N * Z ≤ fin 52 a * D := by
    have := Nat.mul_le_mul_right Z h1
    have e1 : 2 * N * Z = 2 * (N * Z) := Nat.mul_assoc ..
    have e2 : (fin 23 k + fin 23 (k + 1)) * D * Z = (fin 23 k + fin 23 (k + 1)) * Z * D := by grind
    have e3 : 2 * fin 52 a * D = 2 * (fin 52 a * D) := Nat.mul_assoc ..
    rw [e1, e2, ← ha, e3] at this
    omega
   have h3 := fin_mono_le 52 (h64.le hD h2)
   refine Nat.le_of_not_lt fun c => ?_
   obtain ⟨j, rfl⟩ : ∃ j, k' = j + 1 := ⟨k' - 1, by omega⟩
   have h4 := h'.low j rfl
   have h5 : fin 23 (k + 1) ≤ fin 23 j := fin_mono_le 23 (by omega)
   have h6 := fin_lt_succ 23 k
   have h7 := fin_lt_succ 23 j
   have h8 : (fin 23 k + fin 23 (k + 1)) * Z < (fin 23 j + fin 23 (j + 1)) * Z := Nat.mul_lt_mul_of_pos_right (by omega) hz
   omega
 · refine Nat.le_of_not_lt fun c => ?_
   obtain ⟨i, rfl⟩ : ∃ i, k = i + 1 := ⟨k - 1, by omega⟩
   obtain ⟨a, ha⟩ := mid_rung i z hz53
   rw [hZ] at ha
   have h1 := h32.low i rfl
   have h2 : fin 52 a * D ≤ N * Z := by
    have := Nat.mul_le_mul_right Z h1
    have e1 : 2 * N * Z = 2 * (N * Z) := Nat.mul_assoc ..
    have e2 : (fin 23 i + fin 23 (i + 1)) * D * Z = (fin 23 i + fin 23 (i + 1)) * Z * D := by grind
    have e3 : 2 * fin 52 a * D = 2 * (fin 52 a * D) := Nat.mul_assoc ..
    rw [e1, e2, ← ha, e3] at this
    omega
   have h3 := fin_mono_le 52 (h64.ge hD h2)
   have h4 := h'.high
   have h5 : fin 23 (k' + 1) ≤ fin 23 i := fin_mono_le 23 (by omega)
   have h6 := fin_lt_succ 23 i
   have h7 := fin_lt_succ 23 k'
   have h8 : (fin 23 k' + fin 23 (k' + 1)) * Z < (fin 23 i + fin 23 (i + 1)) * Z := Nat.mul_lt_mul_of_pos_right (by omega) hz
   omega
end Go.Proofs.YtonegoemmologaaGreatDoor.Fl
namespace Go.Proofs.YtonegoemmologaaGreatDoor.Fl
def dsig (l : List UInt8) : Nat := (l.dropWhile (· == 48)).length
theorem dsig_nil : dsig [] = 0 := rfl
theorem dsig_cons (c : UInt8) (l : List UInt8) : dsig (c :: l) = if c = 48 then dsig l else l.length + 1 := by
 unfold dsig
 by_cases h : c = 48
 · simp [h]
 · simp [h]
theorem dsig_snoc (l : List UInt8) (c : UInt8) : dsig (l ++ [c]) = if dsig l = 0 ∧ c = 48 then 0 else dsig l + 1 := by
 induction l with
 | nil =>
  rw [List.nil_append, dsig_cons]
  by_cases h : c = 48
  · simp [h, dsig_nil]
  · simp [h, dsig_nil]
 | cons a l ih =>
  rw [List.cons_append, dsig_cons, dsig_cons, ih]
  by_cases h : a = 48
  · simp [h]
  · simp [h]
theorem dsig_le (l : List UInt8) : dsig l ≤ l.length := by
 induction l with
 | nil => simp [dsig_nil]
 | cons a l ih => rw [dsig_cons, List.length_cons]; split <;> omega
theorem nval_cons (c : UInt8) (l : List UInt8) : nval (c :: l) = (c.toNat - 48) * 10 ^ l.length + nval l := by
 rw [show c :: l = [c] ++ l from rfl, nval_append, nval_one]
theorem nval_sig (l : List UInt8) (h : ∀ c ∈ l, isDig c) : (dsig l = 0 → nval l = 0) ∧ (0 < dsig l → 10 ^ (dsig l - 1) ≤ nval l) ∧ nval l < 10 ^ dsig l := by
 induction l with
 | nil => simp [dsig_nil, nval_nil]
 | cons c l ih =>
  have h1 := ih (fun x hx => h x (List.mem_cons_of_mem _ hx))
  have h2 := h c List.mem_cons_self
  have h3 := nval_lt l (fun x hx => h x (List.mem_cons_of_mem _ hx))
  rw [dsig_cons, nval_cons]
  by_cases hc : c = 48
  · rw [if_pos hc, hc]
    simp only [show (48 : UInt8).toNat - 48 = 0 from rfl, Nat.zero_mul, Nat.zero_add]
    exact h1
  · rw [if_neg hc]
    have h4 : 49 ≤ c.toNat := by
     unfold isDig at h2
     have : c.toNat ≠ 48 := fun e => hc (UInt8.toNat_inj.1 e)
     omega
    have h5 : 1 * 10 ^ l.length ≤ (c.toNat - 48) * 10 ^ l.length := Nat.mul_le_mul_right _ (by omega)
    have h6 : (c.toNat - 48) * 10 ^ l.length ≤ 9 * 10 ^ l.length := Nat.mul_le_mul_right _ (by unfold isDig at h2; omega)
    refine ⟨fun e => by omega, fun _ => by rw [Nat.add_sub_cancel]; omega, ?_⟩
    rw [Nat.pow_succ]; omega
theorem nval_prefix (a b : List UInt8) : nval a ≤ nval (a ++ b) := by
 rw [nval_append]
 have := Nat.mul_le_mul_left (nval a) (Nat.pow_pos (n := b.length) (show 0 < 10 by omega))
 omega
theorem sig_step (l r : List UInt8) (c : UInt8) (h : ∀ x ∈ l ++ c :: r, isDig x) (hb : nval (l ++ c :: r) < 10 ^ 19) :
 nval (l ++ [c]) = nval l * 10 + (c.toNat - 48) ∧ nval (l ++ [c]) < 10 ^ 19 ∧ (¬ (dsig l = 0 ∧ c = 48) → dsig l ≤ 18 ∧ dsig (l ++ [c]) = dsig l + 1) ∧ (dsig l = 0 ∧ c = 48 → nval (l ++ [c]) = 0 ∧ dsig (l ++ [c]) = 0) := by
 have e : l ++ c :: r = (l ++ [c]) ++ r := by simp
 have h1 : nval (l ++ [c]) < 10 ^ 19 := by
  have := nval_prefix (l ++ [c]) r
  rw [← e] at this; omega
 have hd : ∀ x ∈ l ++ [c], isDig x := fun x hx => h x (by rw [e]; exact List.mem_append_left _ hx)
 have hs := nval_sig (l ++ [c]) hd
 refine ⟨nval_snoc l c, h1, fun q => ?_, fun q => ?_⟩
 · rw [dsig_snoc, if_neg q] at hs ⊢
   refine ⟨?_, rfl⟩
   have h2 := hs.2.1 (by omega)
   rw [Nat.add_sub_cancel] at h2
   refine Nat.le_of_not_lt fun g => ?_
   have : 10 ^ 19 ≤ 10 ^ dsig l := Nat.pow_le_pow_right (by omega) (by omega)
   omega
 · rw [dsig_snoc, if_pos q] at hs ⊢
   exact ⟨hs.1 rfl, rfl⟩
theorem NumText.reads {neg : Bool} {T : List UInt8} {n : Nat} {q : Int} (h : NumText neg T n q) :
 ∃ (I F X : List UInt8) (e : Int), T = (if neg then [45] else []) ++ (I ++ ((if F = [] then [] else 46 :: F) ++ X)) ∧ I ≠ [] ∧ (∀ c ∈ I, isDig c) ∧ (∀ c ∈ F, isDig c) ∧ ExpText X e
  ∧ nval (I ++ F) < 10 ^ 19 ∧ ∀ mb top k, Near mb k (decN top n q) (decD q) → Near mb k (decN top (nval (I ++ F)) (e - F.length)) (decD (e - F.length)) := by
 obtain ⟨I, F, X, e, h1, h2, h3, h4, h5, h6, h7⟩ := h.parts
 exact ⟨I, F, X, e, h1, h2, h3, h4, h5, h6, fun mb top k hn => near_dec hn h7.symm⟩
theorem exp_step (l r : List UInt8) (c : UInt8) (h : ∀ x ∈ l ++ c :: r, isDig x) (hl : (l ++ c :: r).length ≤ 4) : nval l < 10000 ∧ nval (l ++ [c]) = nval l * 10 + (c.toNat - 48) := by
 refine ⟨?_, nval_snoc l c⟩
 have h1 := nval_lt l (fun x hx => h x (List.mem_append_left _ hx))
 have h2 : l.length ≤ 3 := by simp at hl; omega
 have h3 : 10 ^ l.length ≤ 10 ^ 3 := Nat.pow_le_pow_right (by omega) h2
 omega
end Go.Proofs.YtonegoemmologaaGreatDoor.Fl
namespace Go.Proofs.YtonegoemmologaaGreatDoor.Fl
theorem near_int {mb k a b top : Nat} (h : Near mb k (a * 2 ^ top) 1) (hle : fin mb k ≤ b * 2 ^ top) (hb : b + 1 < 2 ^ (mb + 1)) (ht : mb ≤ top) : a ≤ b := by
 refine Nat.le_of_not_lt fun c => ?_
 obtain ⟨r, hr⟩ := shift_rung mb (b + 1) top (by omega) hb ht
 have h1 : r ≤ k := h.ge (by omega) (by rw [hr, Nat.mul_one]; exact Nat.mul_le_mul_right _ c)
 have h2 := fin_mono_le mb h1
 have h3 : b * 2 ^ top < (b + 1) * 2 ^ top := Nat.mul_lt_mul_of_pos_right (by omega) (Nat.two_pow_pos _)
 omega
theorem near_exact_int {mb k a top : Nat} (h : Near mb k (a * 2 ^ top) 1) (ha : 0 < a) (ha2 : a < 2 ^ (mb + 1)) (ht : mb ≤ top) : fin mb k = a * 2 ^ top := by
 obtain ⟨r, hr⟩ := shift_rung mb a top ha ha2 ht
 have h2 := Near.of_fin mb r 1 (by omega)
 rw [hr, Nat.mul_one] at h2
 rw [h.uniq (by omega) h2, hr]
theorem dec_up (top d p : Nat) : decN top d (p : Int) = d * 10 ^ p * 2 ^ top ∧ decD (p : Int) = 1 := by
 unfold decN decD
 rw [show ((p : Int)).toNat = p from rfl, show (-(p : Int)).toNat = 0 by omega]
 exact ⟨rfl, rfl⟩
theorem dec_down (top d p : Nat) : decN top d (-(p : Int)) = d * 2 ^ top ∧ decD (-(p : Int)) = 10 ^ p := by
 unfold decN decD
 rw [show (-(p : Int)).toNat = 0 by omega, show (-(-(p : Int))).toNat = p by omega]
 simp
def tenWords64 : List Nat := [0x3ff0000000000000, 0x4024000000000000, 0x4059000000000000, 0x408f400000000000, 0x40c3880000000000, 0x40f86a0000000000, 0x412e848000000000, 0x416312d000000000, 0x4197d78400000000, 0x41cdcd6500000000, 0x4202a05f20000000, 0x42374876e8000000, 0x426d1a94a2000000, 0x42a2309ce5400000, 0x42d6bcc41e900000, 0x430c6bf526340000, 0x4341c37937e08000, 0x4376345785d8a000, 0x43abc16d674ec800, 0x43e158e460913d00, 0x4415af1d78b58c40, 0x444b1ae4d6e2ef50, 0x4480f0cf064dd592]
theorem tenWords64_ok : (List.range 23).all (fun i => decide (fin 52 (tenWords64.getD i 0) = 10 ^ i * 2 ^ 1074)) = true := by decide +kernel
theorem ten64 (i : Nat) (h : i < 23) : fin 52 (tenWords64.getD i 0) = 10 ^ i * 2 ^ 1074 := by
 have := List.all_eq_true.1 tenWords64_ok i (List.mem_range.2 h)
 exact of_decide_eq_true this
def Answers (mb top inf : Nat) (d : Nat) (p : Int) (r : Option Nat) : Prop :=
 match r with
 | some k => k < inf ∧ Near mb k (decN top d p) (decD p)
 | none => Over mb inf (decN top d p) (decD p)
theorem Answers.is {mb top inf d k : Nat} {p : Int} {r : Option Nat} (h : Answers mb top inf d p r) (hn : Near mb k (decN top d p) (decD p)) (hk : k < inf) (he : inf % 2 = 0) : r = some k := by
 cases r with
 | none =>
  have := Over.not h hn (decD_pos p) he (by omega)
  omega
 | some j => rw [Near.uniq (decD_pos p) h.2 hn]
def cutInf (inf k : Nat) : Option Nat := if k < inf then some k else none
theorem Near.answers {mb top inf d k : Nat} {p : Int} (h : Near mb k (decN top d p) (decD p)) (hi : 1 ≤ inf) : Answers mb top inf d p (cutInf inf k) := by
 unfold cutInf
 split
 · rename_i c; exact ⟨c, h⟩
 · rename_i c; exact h.over (by omega) hi
theorem near_below {mb k n d top inf : Nat} (h : Near mb k n d) (hd : 0 < d) (r : Nat) (hr : fin mb r = 2 ^ 127 * 2 ^ top) (hri : r < inf) (hn : n ≤ 2 ^ 127 * 2 ^ top * d) : k < inf :=
 Nat.lt_of_le_of_lt (h.le hd (by rw [hr]; exact hn)) hri
theorem r64 : fin 52 (1150 * 2 ^ 52) = 2 ^ 127 * 2 ^ 1074 := by decide +kernel
end Go.Proofs.YtonegoemmologaaGreatDoor.Fl
namespace Go.Proofs.YtonegoemmologaaGreatDoor.Fl
def body (I F : List UInt8) : List UInt8 := I ++ (if F = [] then [] else 46 :: F)
theorem body_length (I F : List UInt8) : (body I F).length = I.length + (if F = [] then 0 else F.length + 1) := by
 unfold body
 by_cases h : F = [] <;> simp [h]
theorem body_I (I F : List UInt8) (k : Nat) (c : k < I.length) (hk : k < (body I F).length) : (body I F)[k] = I[k] := by
 simp [body, List.getElem_append_left c]
theorem body_dot (I F : List UInt8) (h : F ≠ []) (hk : I.length < (body I F).length) : (body I F)[I.length] = 46 := by
 simp [body, h]
theorem body_F (I F : List UInt8) (h : F ≠ []) (j : Nat) (hj : j < F.length) (hk : I.length + 1 + j < (body I F).length) : (body I F)[I.length + 1 + j] = F[j] := by
 have e : (body I F)[I.length + 1 + j]? = some F[j] := by
  simp only [body, if_neg h]
  rw [List.getElem?_append_right (by omega), show I.length + 1 + j - I.length = j + 1 by omega, List.getElem?_cons_succ, List.getElem?_eq_getElem hj]
 rw [List.getElem?_eq_getElem hk] at e
 exact Option.some.inj e
def RF (I F : List UInt8) (k mant n : Nat) (dot dig : Bool) (q : Int) : Prop :=
 (k ≤ I.length ∧ dot = false ∧ dig = decide (0 < k) ∧ mant = nval (I.take k) ∧ n = dsig (I.take k) ∧ -(k : Int) ≤ q ∧ q ≤ 0) ∨
 (∃ j, k = I.length + 1 + j ∧ j ≤ F.length ∧ dot = true ∧ dig = true ∧ mant = nval (I ++ F.take j) ∧ n = dsig (I ++ F.take j) ∧ q = (n : Int) - j)
theorem RF.start (I F : List UInt8) : RF I F 0 0 0 false false 0 := Or.inl ⟨Nat.zero_le _, rfl, rfl, rfl, rfl, by omega, by omega⟩
theorem take_dig {l : List UInt8} (h : ∀ c ∈ l, isDig c) (k : Nat) : ∀ c ∈ l.take k, isDig c := fun c hc => h c (List.mem_of_mem_take hc)
theorem RF.room {I F : List UInt8} {k mant n : Nat} {dot dig : Bool} {q : Int} (h : RF I F k mant n dot dig q) (hI : ∀ c ∈ I, isDig c) (hF : ∀ c ∈ F, isDig c) (hb : nval (I ++ F) < 10 ^ 19) :
 mant < 10 ^ 19 ∧ n ≤ 19 ∧ n ≤ k ∧ (n = 0 → mant = 0) ∧ (0 < n → 0 < mant) := by
 have key : ∀ l r : List UInt8, (∀ c ∈ l, isDig c) → nval (l ++ r) < 10 ^ 19 → nval l < 10 ^ 19 ∧ dsig l ≤ 19 ∧ (dsig l = 0 → nval l = 0) ∧ (0 < dsig l → 0 < nval l) := by
  intro l r hl hlr
  have h1 := nval_prefix l r
  have h2 := nval_sig l hl
  refine ⟨by omega, ?_, h2.1, fun g => ?_⟩
  · refine Nat.le_of_not_lt fun g => ?_
    have h3 := h2.2.1 (by omega)
    have : 10 ^ 19 ≤ 10 ^ (dsig l - 1) := Nat.pow_le_pow_right (by omega) (by omega)
    omega
  · have h3 := h2.2.1 g
    have : 0 < 10 ^ (dsig l - 1) := Nat.pow_pos (by omega)
    omega
 rcases h with ⟨h1, rfl, rfl, rfl, rfl, h2, h3⟩ | ⟨j, rfl, h1, rfl, rfl, rfl, rfl, h2⟩
 · have e : I ++ F = I.take k ++ (I.drop k ++ F) := by rw [← List.append_assoc, List.take_append_drop]
   rw [e] at hb
   have a := key _ _ (take_dig hI k) hb
   have b := dsig_le (I.take k)
   rw [List.length_take] at b
   exact ⟨a.1, a.2.1, by omega, a.2.2.1, a.2.2.2⟩
 · have e : I ++ F = (I ++ F.take j) ++ F.drop j := by rw [List.append_assoc, List.take_append_drop]
   rw [e] at hb
   have a := key _ _ (fun c hc => by
    rcases List.mem_append.1 hc with g | g
    · exact hI c g
    · exact take_dig hF j c g) hb
   have b := dsig_le (I ++ F.take j)
   rw [List.length_append, List.length_take] at b
   exact ⟨a.1, a.2.1, by omega, a.2.2.1, a.2.2.2⟩
theorem RF.step {I F : List UInt8} {k mant n : Nat} {dot dig : Bool} {q : Int} (h : RF I F k mant n dot dig q) (hI0 : I ≠ []) (hI : ∀ c ∈ I, isDig c) (hF : ∀ c ∈ F, isDig c) (hb : nval (I ++ F) < 10 ^ 19) (hk : k < (body I F).length) :
 ((body I F)[k] = 46 ∧ dot = false ∧ RF I F (k + 1) mant n true dig n) ∨
 (isDig (body I F)[k] ∧ (n = 0 ∧ (body I F)[k] = 48 → RF I F (k + 1) mant n dot true (q - 1)) ∧
  (¬ (n = 0 ∧ (body I F)[k] = 48) → n ≤ 18 ∧ mant * 10 + ((body I F)[k].toNat - 48) < 10 ^ 19 ∧ RF I F (k + 1) (mant * 10 + ((body I F)[k].toNat - 48)) (n + 1) dot true q)) := by
 have hbl := body_length I F
 rcases h with ⟨h1, rfl, rfl, rfl, rfl, h2, h3⟩ | ⟨j, rfl, h1, rfl, rfl, rfl, rfl, h2⟩
 · rcases Nat.lt_or_ge k I.length with c | c
   · -- a digit ahead of the point
     right
     have hc : (body I F)[k] = I[k] := body_I I F k c hk
     rw [hc]
     have e : I ++ F = I.take k ++ I[k] :: (I.drop (k + 1) ++ F) := by
      rw [← List.cons_append, ← List.drop_eq_getElem_cons c, ← List.append_assoc, List.take_append_drop]
     have ht : I.take (k + 1) = I.take k ++ [I[k]] := (List.take_succ_eq_append_getElem c)
     have s := sig_step (I.take k) (I.drop (k + 1) ++ F) I[k] (by
      rw [← e]; intro x hx
      rcases List.mem_append.1 hx with g | g
      · exact hI x g
      · exact hF x g) (by rw [← e]; exact hb)
     refine ⟨hI _ (List.getElem_mem c), fun g => ?_, fun g => ?_⟩
     · have s4 := s.2.2.2 g
       have z := (nval_sig (I.take k) (take_dig hI k)).1 g.1
       exact Or.inl ⟨by omega, rfl, by simp, by rw [ht, s4.1, z], by rw [ht, s4.2, g.1], by omega, by omega⟩
     · have s3 := s.2.2.1 g
       refine ⟨s3.1, by rw [← s.1]; exact s.2.1, Or.inl ⟨by omega, rfl, by simp, by rw [ht, s.1], by rw [ht, s3.2], by omega, by omega⟩⟩
   · -- the point
     left
     have hkI : k = I.length := by omega
     subst hkI
     have hF0 : F ≠ [] := by
      intro e
      rw [if_pos e] at hbl; omega
     refine ⟨?_, rfl, Or.inr ⟨0, by omega, Nat.zero_le _, rfl, ?_, ?_, ?_, by omega⟩⟩
     · exact body_dot I F hF0 hk
     · have : 0 < I.length := List.length_pos_iff.2 hI0
       exact decide_eq_true this
     · simp
     · simp
 · -- a digit behind the point
   right
   have hF0 : F ≠ [] := by
    intro e
    rw [if_pos e] at hbl; omega
   rw [if_neg hF0] at hbl
   have hj : j < F.length := by omega
   have hc : (body I F)[I.length + 1 + j] = F[j] := body_F I F hF0 j hj hk
   rw [hc]
   have e : I ++ F = (I ++ F.take j) ++ F[j] :: F.drop (j + 1) := by
    rw [← List.drop_eq_getElem_cons hj, List.append_assoc, List.take_append_drop]
   have ht : I ++ F.take (j + 1) = (I ++ F.take j) ++ [F[j]] := by rw [List.take_succ_eq_append_getElem hj, List.append_assoc]
   have hd : ∀ c ∈ I ++ F.take j, isDig c := fun c hc => by
    rcases List.mem_append.1 hc with g | g
    · exact hI c g
    · exact take_dig hF j c g
   have s := sig_step (I ++ F.take j) (F.drop (j + 1)) F[j] (by
    rw [← e]; intro x hx
    rcases List.mem_append.1 hx with g | g
    · exact hI x g
    · exact hF x g) (by rw [← e]; exact hb)
   refine ⟨hF _ (List.getElem_mem hj), fun g => ?_, fun g => ?_⟩
   · have s4 := s.2.2.2 g
     have z := (nval_sig (I ++ F.take j) hd).1 g.1
     exact Or.inr ⟨j + 1, by omega, by omega, rfl, rfl, by rw [ht, s4.1, z], by rw [ht, s4.2, g.1], by omega⟩
   · have s3 := s.2.2.1 g
     exact ⟨s3.1, by rw [← s.1]; exact s.2.1, Or.inr ⟨j + 1, by omega, by omega, rfl, rfl, by rw [ht, s.1], by rw [ht, s3.2], by omega⟩⟩
theorem RF.done {I F : List UInt8} {mant n : Nat} {dot dig : Bool} {q : Int} (h : RF I F (body I F).length mant n dot dig q) (hI0 : I ≠ []) :
 mant = nval (I ++ F) ∧ dig = true ∧ ((dot = false ∧ F.length = 0) ∨ (dot = true ∧ q = (n : Int) - F.length)) := by
 have hbl := body_length I F
 have hl : 0 < I.length := List.length_pos_iff.2 hI0
 rcases h with ⟨h1, rfl, rfl, rfl, rfl, h2, h3⟩ | ⟨j, hj, h1, rfl, rfl, rfl, rfl, h2⟩
 · by_cases hF : F = []
   · rw [if_pos hF] at hbl
     rw [hbl, hF]
     simp [hl]
   · rw [if_neg hF] at hbl; omega
 · by_cases hF : F = []
   · rw [if_pos hF] at hbl; omega
   · rw [if_neg hF] at hbl
     have : j = F.length := by omega
     subst this
     rw [List.take_length] at h2 ⊢
     exact ⟨rfl, rfl, Or.inr ⟨rfl, h2⟩⟩
end Go.Proofs.YtonegoemmologaaGreatDoor.Fl
