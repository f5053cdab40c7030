/-
  Floats, plain: uscale is exact at what parsing and formatting ask; parsing rounds to the nearest.
-/
import Derived.Test.YtonegoemmologaaGreatDoorM01
set_option linter.unusedVariables false
set_option linter.unusedSimpArgs false
namespace Go.Proofs.YtonegoemmologaaGreatDoor.Fl
def eucl : Nat → Nat → Nat → Nat → Nat → Nat → Nat → Bool
 | 0, _, _, _, _, _, _ => false
 | f + 1, n, d, r0, r1, q0, q1 =>
  if n ≤ q1 then decide (d < r0)
  else if r1 = 0 then false
  else eucl f n d r1 (r0 % r1) q1 (q0 + r0 / r1 * q1)
theorem eucl_sound : ∀ (f n d r0 r1 q0 q1 : Nat), eucl f n d r0 r1 q0 q1 = true → ∀ x t : Int, 0 < x → x < n →
 (∃ u v : Int, x = u * q0 + v * q1 ∧ (t = u * r0 - v * r1 ∨ t = -(u * r0 - v * r1))) → (d : Int) < t.natAbs
 | 0, _, _, _, _, _, _, h, _, _, _, _, _ => by simp [eucl] at h
 | f + 1, n, d, r0, r1, q0, q1, h, x, t, hx, hn, ⟨u, v, e, ht⟩ => by
  unfold eucl at h
  by_cases c : n ≤ q1
  · rw [if_pos c] at h
    have hd : d < r0 := of_decide_eq_true h
    have key : (r0 : Int) ≤ u * r0 - v * r1 ∨ u * r0 - v * r1 ≤ -(r0 : Int) := by
     have hq1 : x < (q1 : Int) := by omega
     rcases Int.lt_trichotomy v 0 with hv | hv | hv
     · -- v < 0: u ≥ 1
       left
       have hu : 0 < u := by
        rcases Int.lt_or_le 0 u with g | g
        · exact g
        · exfalso
          have a1 : u * (q0 : Int) ≤ 0 := Int.mul_nonpos_of_nonpos_of_nonneg g (by omega)
          have a2 : v * (q1 : Int) ≤ 0 := Int.mul_nonpos_of_nonpos_of_nonneg (by omega) (by omega)
          omega
       have a1 : (1 : Int) * r0 ≤ u * r0 := Int.mul_le_mul_of_nonneg_right (by omega) (by omega)
       have a2 : v * (r1 : Int) ≤ 0 := Int.mul_nonpos_of_nonpos_of_nonneg (by omega) (by omega)
       omega
     · subst hv
       have hu : u ≠ 0 := by rintro rfl; omega
       have z : (0 : Int) * (r1 : Int) = 0 := by simp
       rcases Int.lt_or_lt_of_ne hu with g | g
       · right
         have a1 : u * (r0 : Int) ≤ (-1) * r0 := Int.mul_le_mul_of_nonneg_right (by omega) (by omega)
         omega
       · left
         have a1 : (1 : Int) * r0 ≤ u * r0 := Int.mul_le_mul_of_nonneg_right (by omega) (by omega)
         omega
     · right
       have hu : u < 0 := by
        rcases Int.lt_or_le u 0 with g | g
        · exact g
        · exfalso
          have a1 : 0 ≤ u * (q0 : Int) := Int.mul_nonneg g (by omega)
          have a2 : (1 : Int) * (q1 : Int) ≤ v * q1 := Int.mul_le_mul_of_nonneg_right (by omega) (by omega)
          omega
       have a1 : u * (r0 : Int) ≤ (-1) * r0 := Int.mul_le_mul_of_nonneg_right (by omega) (by omega)
       have a2 : 0 ≤ v * (r1 : Int) := Int.mul_nonneg (by omega) (by omega)
       omega
    omega
  · rw [if_neg c] at h
    by_cases c1 : r1 = 0
    · rw [if_pos c1] at h; cases h
    · rw [if_neg c1] at h
      refine eucl_sound f n d r1 (r0 % r1) q1 (q0 + r0 / r1 * q1) h x t hx hn ⟨v - u * ((r0 / r1 : Nat) : Int), u, ?_, ?_⟩
      · rw [e]; push_cast; grind
      · have hr : (r0 : Int) = ((r0 / r1 : Nat) : Int) * r1 + ((r0 % r1 : Nat) : Int) := by
         have := Nat.div_add_mod r0 r1
         rw [Nat.mul_comm] at this
         omega
        rcases ht with ht | ht
        · right; rw [ht, hr]; generalize ((r0 / r1 : Nat) : Int) = k; generalize ((r0 % r1 : Nat) : Int) = m; grind
        · left; rw [ht, hr]; generalize ((r0 / r1 : Nat) : Int) = k; generalize ((r0 % r1 : Nat) : Int) = m; grind
theorem eucl_far (f n d m a : Nat) (h : eucl f n d m a 0 1 = true) (x y : Int) (hx : 0 < x) (hn : x < n) : (d : Int) < (x * a - y * m).natAbs :=
 eucl_sound f n d m a 0 1 h x _ hx hn ⟨y, x, by simp, Or.inr (by omega)⟩
def lgp (p : Int) : Int := p * 108853 / 32768
def powA (p : Int) : Nat := 10 ^ p.toNat * 2 ^ (127 - lgp p).toNat
def powB (p : Int) : Nat := 10 ^ (-p).toNat * 2 ^ (lgp p - 127).toNat
def powM (p : Int) : Nat := (powA p + (powB p - 1)) / powB p
def farP (p : Int) : Bool := (decide (-27 ≤ p) && decide (p ≤ 27)) || eucl 200 (2 ^ 64) (2 ^ 64) (2 ^ 137) (powM p) 0 1
def farF (p : Int) : Bool := (decide (-27 ≤ p) && decide (p ≤ 27)) || eucl 200 (2 ^ 55) (2 ^ 55) (2 ^ 125) (powM p) 0 1
theorem farP_all : (List.range 656).all (fun i => farP ((i : Int) - 345)) = true := by decide +kernel
theorem farF_all : (List.range 656).all (fun i => farF ((i : Int) - 320)) = true := by decide +kernel
theorem pow_all : (List.range 696).all (fun i => decide (2 ^ 127 ≤ powM ((i : Int) - 348)) && decide (powM ((i : Int) - 348) < 2 ^ 128)) = true := by decide +kernel
def unr (n d : Nat) : Nat := if n % d = 0 then n / d else n / d / 2 * 2 + 1
theorem unr_mid {n d q : Nat} (h1 : q * d < n) (h2 : n < (q + 1) * d) : unr n d = q / 2 * 2 + 1 := by
 have hd : 0 < d := by
  rcases Nat.eq_zero_or_pos d with rfl | h
  · simp at h2
  · exact h
 have e : n / d = q := by
  refine Nat.le_antisymm ?_ ?_
  · exact Nat.le_of_lt_succ ((Nat.div_lt_iff_lt_mul hd).2 h2)
  · exact (Nat.le_div_iff_mul_le hd).2 (Nat.le_of_lt h1)
 have m : n % d ≠ 0 := by
  intro m
  have := Nat.div_add_mod n d
  rw [e, m, Nat.mul_comm] at this
  omega
 unfold unr
 rw [if_neg m, e]
theorem unr_even {q d : Nat} (hd : 0 < d) : unr (q * d) d = q := by
 unfold unr
 rw [if_pos (Nat.mul_mod_left q d), Nat.mul_div_cancel _ hd]
def usc (x hi lo s : Nat) : Nat :=
 if x * hi / 2 ^ 64 % 2 ^ s ≠ 0 then x * hi / 2 ^ 64 / 2 ^ s / 2 * 2 + 1
 else if x * hi % 2 ^ 64 < x * lo / 2 ^ 64 then (x * hi / 2 ^ 64 - 1) / 2 ^ s / 2 * 2 + 1
 else if 1 < x * hi % 2 ^ 64 - x * lo / 2 ^ 64 then x * hi / 2 ^ 64 / 2 ^ s / 2 * 2 + 1
 else x * hi / 2 ^ 64 / 2 ^ s
theorem usc_unr (x hi lo s A B M : Nat) (hM : hi * 2 ^ 64 = M + lo) (hlo : lo < 2 ^ 64) (hA : A ≤ M * B) (hA' : M * B < A + B)
 (hx : x < 2 ^ 64) (hx0 : 0 < x)
 (hit : ∀ q : Nat, q % 2 = 0 → x * M < q * 2 ^ (128 + s) + 2 ^ 64 + 1 → q * 2 ^ (128 + s) < x * M + 2 ^ 64 → x * A = q * (B * 2 ^ (128 + s))) :
 usc x hi lo s = unr (x * A) (B * 2 ^ (128 + s)) := by
 have hB : 0 < B := by
  rcases Nat.eq_zero_or_pos B with rfl | h
  · simp at hA'; omega
  · exact h
 have hW : x * hi * 2 ^ 64 = x * M + x * lo := by rw [Nat.mul_assoc, hM, Nat.mul_add]
 have p1 := Nat.div_add_mod (x * hi) (2 ^ 64)
 have p2 := Nat.div_add_mod (x * lo) (2 ^ 64)
 have l1 := Nat.mod_lt (x * hi) (show 0 < 2 ^ 64 by omega)
 have l2 := Nat.mod_lt (x * lo) (show 0 < 2 ^ 64 by omega)
 have l3 : x * lo + x ≤ x * 2 ^ 64 := by
  have : x * (lo + 1) ≤ x * 2 ^ 64 := Nat.mul_le_mul_left x hlo
  rwa [Nat.mul_add, Nat.mul_one] at this
 have tl : x * A ≤ x * M * B := by rw [Nat.mul_assoc]; exact Nat.mul_le_mul_left x hA
 have tg : x * M * B < x * A + x * B := by
  have : x * (M * B) < x * (A + B) := Nat.mul_lt_mul_of_pos_left hA' hx0
  rwa [Nat.mul_add, ← Nat.mul_assoc] at this
 have eK : (2 : Nat) ^ (128 + s) = 2 ^ 128 * 2 ^ s := Nat.pow_add 2 128 s
 have hS : 0 < 2 ^ s := Nat.two_pow_pos s
 unfold usc
 generalize hW' : x * M = W at *
 generalize x * hi / 2 ^ 64 = h at *
 generalize x * hi % 2 ^ 64 = m at *
 generalize x * lo / 2 ^ 64 = m2 at *
 generalize x * lo % 2 ^ 64 = k2 at *
 generalize x * lo = lw at *
 generalize x * hi = hw at *
 generalize hT : x * A = T at *
 rw [eK] at hit ⊢
 generalize 2 ^ s = S at *
 have q1 := Nat.div_add_mod h S
 have l4 := Nat.mod_lt h hS
 generalize h / S = q at *
 generalize h % S = r at *
 have cl : ∀ a, a ≤ W → x ≤ W - a → a * B < T := by
  intro a h1 h2
  have e : W * B = (a + (W - a)) * B := by congr 1; omega
  rw [Nat.add_mul] at e
  have : x * B ≤ (W - a) * B := Nat.mul_le_mul_right B h2
  omega
 have cg : ∀ a, W < a → T < a * B := fun a h1 => Nat.lt_of_le_of_lt tl (Nat.mul_lt_mul_of_pos_right h1 hB)
 have asc : ∀ q, q * (B * (2 ^ 128 * S)) = S * q * 2 ^ 128 * B := by intro q; grind
 by_cases c1 : r = 0
 · subst c1
   simp only [ne_eq, not_true_eq_false, if_false]
   rw [Nat.add_zero] at q1
   by_cases c2 : m < m2
   · rw [if_pos c2]
     have hq : 0 < q := by
      rcases Nat.eq_zero_or_pos q with rfl | h
      · exfalso; simp at q1; omega
      · exact h
     obtain ⟨g, rfl⟩ : ∃ g, q = g + 1 := ⟨q - 1, by omega⟩
     have e1 : (h - 1) / S = g := by
      refine Nat.le_antisymm (Nat.le_of_lt_succ ((Nat.div_lt_iff_lt_mul hS).2 ?_)) ((Nat.le_div_iff_mul_le hS).2 ?_)
      · rw [Nat.mul_comm, Nat.succ_eq_add_one]; omega
      · rw [Nat.mul_comm]; rw [Nat.mul_add] at q1; omega
     rw [e1]
     refine (unr_mid ?_ ?_).symm
     · rw [asc]; refine cl _ ?_ ?_ <;> rw [Nat.mul_add] at q1 <;> omega
     · rw [asc]; exact cg _ (by omega)
   · rw [if_neg c2]
     by_cases c3 : 1 < m - m2
     · rw [if_pos c3]
       refine (unr_mid ?_ ?_).symm
       · rw [asc]; exact cl _ (by omega) (by omega)
       · rw [asc]; refine cg _ ?_; rw [Nat.mul_add]; omega
     · rw [if_neg c3]
       have e1 : q * (2 ^ 128 * S) = S * q * 2 ^ 128 := by grind
       rcases Nat.mod_two_eq_zero_or_one q with c4 | c4
       · rw [hit q c4 (by rw [e1]; omega) (by rw [e1]; omega)]
         exact (unr_even (Nat.mul_pos hB (Nat.mul_pos (by omega) hS))).symm
       · have hd : 0 < B * (2 ^ 128 * S) := Nat.mul_pos hB (Nat.mul_pos (by omega) hS)
         obtain ⟨g, rfl⟩ : ∃ g, q = g + 1 := ⟨q - 1, by omega⟩
         rcases Nat.lt_trichotomy T ((g + 1) * (B * (2 ^ 128 * S))) with c5 | c5 | c5
         · rw [unr_mid (q := g) ?_ c5]
           · omega
           · rw [asc]; refine cl _ ?_ ?_ <;> rw [Nat.mul_add] at q1 <;> omega
         · rw [c5, unr_even hd]
         · rw [unr_mid (q := g + 1) c5 ?_]
           · omega
           · rw [asc]; refine cg _ ?_; rw [Nat.mul_add]; omega
 · rw [if_pos c1]
   refine (unr_mid ?_ ?_).symm
   · rw [asc]; exact cl _ (by omega) (by omega)
   · rw [asc]; refine cg _ ?_; rw [Nat.mul_add]; omega
theorem near_exact (x q s A B M g : Nat) (hg : g ∣ A) (hg2 : g ∣ B * 2 ^ 128) (hg3 : 2 ^ 65 * B ≤ g) (hx : x < 2 ^ 64) (hx0 : 0 < x)
 (hA : A ≤ M * B) (hA' : M * B < A + B) (h1 : x * M < q * 2 ^ (128 + s) + 2 ^ 64 + 1) (h2 : q * 2 ^ (128 + s) < x * M + 2 ^ 64) :
 x * A = q * (B * 2 ^ (128 + s)) := by
 have hB : 0 < B := by
  rcases Nat.eq_zero_or_pos B with rfl | h
  · simp at hA'; omega
  · exact h
 have tl : x * A ≤ x * M * B := by rw [Nat.mul_assoc]; exact Nat.mul_le_mul_left x hA
 have tg : x * M * B < x * A + x * B := by
  have : x * (M * B) < x * (A + B) := Nat.mul_lt_mul_of_pos_left hA' hx0
  rwa [Nat.mul_add, ← Nat.mul_assoc] at this
 have xb : x * B ≤ (2 ^ 64 - 1) * B := Nat.mul_le_mul_right B (by omega)
 have m1 : x * M * B ≤ (q * 2 ^ (128 + s) + 2 ^ 64) * B := Nat.mul_le_mul_right B (by omega)
 have m2 : q * 2 ^ (128 + s) * B ≤ (x * M + 2 ^ 64) * B := Nat.mul_le_mul_right B (by omega)
 rw [Nat.add_mul] at m1 m2
 have e1 : q * (B * 2 ^ (128 + s)) = q * 2 ^ (128 + s) * B := by rw [Nat.mul_assoc, Nat.mul_comm B]
 obtain ⟨a, ha⟩ : g ∣ x * A := Nat.dvd_trans hg (Nat.dvd_mul_left A x)
 obtain ⟨b, hb⟩ : g ∣ q * (B * 2 ^ (128 + s)) := by
  rw [Nat.pow_add, ← Nat.mul_assoc B, ← Nat.mul_assoc q]
  exact Nat.dvd_trans hg2 (Nat.dvd_trans (Nat.dvd_mul_left _ q) (Nat.dvd_mul_right _ _))
 rw [ha, hb]
 rw [ha] at tl tg
 rw [hb] at e1
 rw [← e1] at m1 m2
 rcases Nat.lt_trichotomy a b with c | c | c
 · exfalso
   have : g * (a + 1) ≤ g * b := Nat.mul_le_mul_left g c
   rw [Nat.mul_add] at this
   omega
 · rw [c]
 · exfalso
   have : g * (b + 1) ≤ g * a := Nat.mul_le_mul_left g c
   rw [Nat.mul_add] at this
   omega
theorem near_far (x q s z M n d : Nat) (hs : z ≤ s) (h : eucl 200 n d (2 ^ (129 + z)) M 0 1 = true) (hx : x < n) (hx0 : 0 < x) (hd : 2 ^ 64 ≤ d)
 (hq : q % 2 = 0) (h1 : x * M < q * 2 ^ (128 + s) + 2 ^ 64 + 1) (h2 : q * 2 ^ (128 + s) < x * M + 2 ^ 64) : False := by
 have k := eucl_far 200 n d (2 ^ (129 + z)) M h x ((q / 2 * 2 ^ (s - z) : Nat) : Int) (by omega) (by omega)
 have e : q / 2 * 2 ^ (s - z) * 2 ^ (129 + z) = q * 2 ^ (128 + s) := by
  obtain ⟨j, rfl⟩ : ∃ j, q = 2 * j := ⟨q / 2, by omega⟩
  obtain ⟨t, rfl⟩ : ∃ t, s = z + t := ⟨s - z, by omega⟩
  have : 2 * j / 2 = j := by omega
  rw [this, Nat.add_sub_cancel_left]
  have e2 : 129 + z = (128 + z) + 1 := by omega
  rw [e2, show 128 + (z + t) = (128 + z) + t by omega, Nat.pow_succ, Nat.pow_add 2 (128 + z) t]
  generalize 2 ^ (128 + z) = u
  generalize 2 ^ t = v
  grind
 rw [← Int.natCast_mul, ← Int.natCast_mul, e] at k
 generalize q * 2 ^ (128 + s) = Q at *
 omega
def nearG (p : Int) : Nat := if p < 0 then 2 ^ (128 + (-p).toNat) else 2 ^ 65
def nearP (p : Int) : Bool := decide (powA p % nearG p = 0) && decide (powB p * 2 ^ 128 % nearG p = 0) && decide (2 ^ 65 * powB p ≤ nearG p)
theorem nearP_all : (List.range 55).all (fun i => nearP ((i : Int) - 27)) = true := by decide +kernel
theorem powM_two (p : Int) : powA p ≤ powM p * powB p ∧ powM p * powB p < powA p + powB p := by
 have hB : 0 < powB p := Nat.mul_pos (Nat.pow_pos (by omega)) (Nat.two_pow_pos _)
 unfold powM
 generalize powA p = a at *
 generalize powB p = b at *
 have h1 := Nat.div_add_mod (a + (b - 1)) b
 have h2 := Nat.mod_lt (a + (b - 1)) hB
 rw [Nat.mul_comm] at h1
 omega
theorem in_all {n : Nat} {f : Int → Bool} {m : Int} (h : (List.range n).all (fun i => f ((i : Int) - m)) = true) (p : Int) (h1 : -m ≤ p) (h2 : p < n - m) : f p = true := by
 rw [List.all_eq_true] at h
 have := h (p + m).toNat (List.mem_range.2 (by omega))
 rwa [show (((p + m).toNat : Nat) : Int) - m = p by omega] at this
theorem usc_parse (x hi lo s : Nat) (p : Int) (h1 : -345 ≤ p) (h2 : p ≤ 310) (hM : hi * 2 ^ 64 = powM p + lo) (hlo : lo < 2 ^ 64)
 (hx : x < 2 ^ 64) (hx0 : 0 < x) (hs : 8 ≤ s) : usc x hi lo s = unr (x * powA p) (powB p * 2 ^ (128 + s)) := by
 have ⟨a1, a2⟩ := powM_two p
 refine usc_unr x hi lo s _ _ _ hM hlo a1 a2 hx hx0 ?_
 intro q hq g1 g2
 by_cases c : -27 ≤ p ∧ p ≤ 27
 · have := in_all nearP_all p (by omega) (by omega)
   simp only [nearP, Bool.and_eq_true, decide_eq_true_eq] at this
   exact near_exact x q s _ _ _ (nearG p) (Nat.dvd_of_mod_eq_zero this.1.1) (Nat.dvd_of_mod_eq_zero this.1.2) this.2 hx hx0 a1 a2 g1 g2
 · have := in_all farP_all p (by omega) (by omega)
   simp only [farP, Bool.or_eq_true, Bool.and_eq_true, decide_eq_true_eq] at this
   exact (near_far x q s 8 _ (2 ^ 64) (2 ^ 64) hs (this.resolve_left c) hx hx0 (Nat.le_refl _) hq g1 g2).elim
theorem usc_format (x hi lo s : Nat) (p : Int) (h1 : -320 ≤ p) (h2 : p ≤ 335) (hM : hi * 2 ^ 64 = powM p + lo) (hlo : lo < 2 ^ 64)
 (hx : x < 2 ^ 64) (hx0 : 0 < x) (hd : x % 512 = 0) (hs : 5 ≤ s) : usc x hi lo s = unr (x * powA p) (powB p * 2 ^ (128 + s)) := by
 have ⟨a1, a2⟩ := powM_two p
 refine usc_unr x hi lo s _ _ _ hM hlo a1 a2 hx hx0 ?_
 intro q hq g1 g2
 by_cases c : -27 ≤ p ∧ p ≤ 27
 · have := in_all nearP_all p (by omega) (by omega)
   simp only [nearP, Bool.and_eq_true, decide_eq_true_eq] at this
   exact near_exact x q s _ _ _ (nearG p) (Nat.dvd_of_mod_eq_zero this.1.1) (Nat.dvd_of_mod_eq_zero this.1.2) this.2 hx hx0 a1 a2 g1 g2
 · exfalso
   have := in_all farF_all p (by omega) (by omega)
   simp only [farF, Bool.or_eq_true, Bool.and_eq_true, decide_eq_true_eq] at this
   have h := this.resolve_left c
   obtain ⟨y, rfl⟩ : ∃ y, x = 512 * y := ⟨x / 512, by omega⟩
   have k := eucl_far 200 (2 ^ 55) (2 ^ 55) (2 ^ 125) _ h y ((q / 2 * 2 ^ (s - 5) : Nat) : Int) (by omega) (by omega)
   have e : 512 * (q / 2 * 2 ^ (s - 5) * 2 ^ 125) = q * 2 ^ (128 + s) := by
    obtain ⟨j, rfl⟩ : ∃ j, q = 2 * j := ⟨q / 2, by omega⟩
    obtain ⟨t, rfl⟩ : ∃ t, s = 5 + t := ⟨s - 5, by omega⟩
    have : 2 * j / 2 = j := by omega
    rw [this, Nat.add_sub_cancel_left, show 128 + (5 + t) = 133 + t by omega, Nat.pow_add 2 133 t]
    generalize 2 ^ t = v
    grind
   have e2 : 512 * y * powM p = 512 * (y * powM p) := Nat.mul_assoc ..
   rw [← Int.natCast_mul, ← Int.natCast_mul] at k
   rw [← e, e2] at g1 g2
   clear h c a1 a2 hM hlo e2 e hd hx hq hs
   obtain ⟨Y, hY⟩ : ∃ Y, y * powM p = Y := ⟨_, rfl⟩
   obtain ⟨Q, hQ⟩ : ∃ Q, q / 2 * 2 ^ (s - 5) * 2 ^ 125 = Q := ⟨_, rfl⟩
   rw [hY, hQ] at k g1 g2
   clear hY hQ
   omega
end Go.Proofs.YtonegoemmologaaGreatDoor.Fl
namespace Go.Proofs.YtonegoemmologaaGreatDoor.Fl
def fin (mb k : Nat) : Nat := if k < 2 ^ mb then k else (2 ^ mb + k % 2 ^ mb) * 2 ^ (k / 2 ^ mb - 1)
theorem fin_norm (mb m j : Nat) (h : 2 ^ mb ≤ m ∨ j = 0) (h2 : m ≤ 2 ^ (mb + 1)) : fin mb (m + j * 2 ^ mb) = m * 2 ^ j := by
 have hp : 0 < 2 ^ mb := Nat.two_pow_pos mb
 rw [Nat.pow_succ] at h2
 unfold fin
 generalize 2 ^ mb = T at *
 rcases Nat.lt_or_ge m T with c | c
 · have hj : j = 0 := by omega
   subst hj
   rw [if_pos (by omega)]; simp
 · rw [if_neg (by omega)]
   rcases Nat.lt_or_ge m (2 * T) with c2 | c2
   · obtain ⟨r, rfl⟩ : ∃ r, m = T + r := ⟨m - T, by omega⟩
     have e : T + r + j * T = r + (j + 1) * T := by rw [Nat.add_mul]; omega
     rw [e, Nat.add_mul_mod_self_right, Nat.add_mul_div_right _ _ hp, Nat.mod_eq_of_lt (by omega), Nat.div_eq_of_lt (by omega)]
     simp
   · have e : m + j * T = (j + 2) * T := by rw [Nat.add_mul]; omega
     rw [e, Nat.mul_mod_left, Nat.mul_div_cancel _ hp]
     have : m = T * 2 := by omega
     subst this
     rw [Nat.add_zero, show j + 2 - 1 = j + 1 by omega, Nat.pow_succ, Nat.mul_assoc, Nat.mul_comm 2]
theorem rung_form (mb k : Nat) : ∃ m j, k = m + j * 2 ^ mb ∧ m < 2 ^ (mb + 1) ∧ (2 ^ mb ≤ m ∨ j = 0) := by
 have hp : 0 < 2 ^ mb := Nat.two_pow_pos mb
 rw [Nat.pow_succ]
 generalize 2 ^ mb = T at *
 rcases Nat.lt_or_ge k T with c | c
 · exact ⟨k, 0, by simp, by omega, Or.inr rfl⟩
 · refine ⟨T + k % T, k / T - 1, ?_, ?_, Or.inl (by omega)⟩
   · have h1 := Nat.div_add_mod k T
     have h2 : 1 ≤ k / T := (Nat.le_div_iff_mul_le hp).2 (by omega)
     obtain ⟨q, hq⟩ : ∃ q, k / T = q + 1 := ⟨k / T - 1, by omega⟩
     rw [hq] at h1 ⊢
     rw [Nat.mul_add, Nat.mul_comm T q] at h1
     simp only [Nat.add_sub_cancel]
     omega
   · have := Nat.mod_lt k hp
     omega
theorem fin_succ (mb m j : Nat) (h : 2 ^ mb ≤ m ∨ j = 0) (h2 : m < 2 ^ (mb + 1)) : fin mb (m + j * 2 ^ mb + 1) = (m + 1) * 2 ^ j := by
 rw [show m + j * 2 ^ mb + 1 = (m + 1) + j * 2 ^ mb by omega]
 exact fin_norm mb (m + 1) j (by omega) (by omega)
theorem fin_lt_succ (mb k : Nat) : fin mb k < fin mb (k + 1) := by
 obtain ⟨m, j, rfl, h1, h2⟩ := rung_form mb k
 rw [fin_succ mb m j h2 h1, fin_norm mb m j h2 (by omega)]
 exact Nat.mul_lt_mul_of_pos_right (by omega) (Nat.two_pow_pos j)
theorem fin_mono (mb : Nat) {a b : Nat} (h : a < b) : fin mb a < fin mb b := by
 induction b with
 | zero => omega
 | succ b ih =>
  rcases Nat.lt_or_ge a b with c | c
  · exact Nat.lt_trans (ih c) (fin_lt_succ mb b)
  · have : a = b := by omega
    subst this
    exact fin_lt_succ mb a
theorem fin_mono_le (mb : Nat) {a b : Nat} (h : a ≤ b) : fin mb a ≤ fin mb b := by
 rcases Nat.lt_or_ge a b with c | c
 · exact Nat.le_of_lt (fin_mono mb c)
 · have : a = b := by omega
   subst this; exact Nat.le_refl _
theorem fin_inj (mb : Nat) {a b : Nat} (h : fin mb a = fin mb b) : a = b := by
 rcases Nat.lt_trichotomy a b with c | c | c
 · have := fin_mono mb c; omega
 · exact c
 · have := fin_mono mb c; omega
structure Near (mb k n d : Nat) : Prop where
 low : ∀ j, k = j + 1 → (fin mb j + fin mb k) * d ≤ 2 * n
 lowE : ∀ j, k = j + 1 → (fin mb j + fin mb k) * d = 2 * n → k % 2 = 0
 high : 2 * n ≤ (fin mb k + fin mb (k + 1)) * d
 highE : 2 * n = (fin mb k + fin mb (k + 1)) * d → k % 2 = 0
theorem Near.not_lt {mb a b n d : Nat} (hd : 0 < d) (ha : Near mb a n d) (hb : Near mb b n d) : ¬ a < b := by
 intro c
 obtain ⟨j, rfl⟩ : ∃ j, b = j + 1 := ⟨b - 1, by omega⟩
 have h1 := ha.high
 have h2 := hb.low j rfl
 have h3 : fin mb a ≤ fin mb j := fin_mono_le mb (by omega)
 have h4 : fin mb (a + 1) ≤ fin mb (j + 1) := fin_mono_le mb (by omega)
 have h5 : (fin mb a + fin mb (a + 1)) * d ≤ (fin mb j + fin mb (j + 1)) * d := Nat.mul_le_mul_right d (by omega)
 have e1 : a % 2 = 0 := ha.highE (by omega)
 have e2 : (j + 1) % 2 = 0 := hb.lowE j rfl (by omega)
 have e3 : fin mb a + fin mb (a + 1) = fin mb j + fin mb (j + 1) := Nat.eq_of_mul_eq_mul_right hd (by omega)
 have e4 : a = j := fin_inj mb (by omega)
 omega
theorem Near.uniq {mb a b n d : Nat} (hd : 0 < d) (ha : Near mb a n d) (hb : Near mb b n d) : a = b := by
 have h1 := ha.not_lt hd hb
 have h2 := hb.not_lt hd ha
 omega
theorem Near.scale {mb k n d n' d' : Nat} (hd : 0 < d) (hd' : 0 < d') (e : n * d' = n' * d) (h : Near mb k n d) : Near mb k n' d' := by
 have t1 : ∀ s : Nat, s * d ≤ 2 * n ↔ s * d' ≤ 2 * n' := by
  intro s
  constructor
  · intro h1
    refine Nat.le_of_mul_le_mul_right (c := d) ?_ hd
    have := Nat.mul_le_mul_right d' h1
    grind
  · intro h1
    refine Nat.le_of_mul_le_mul_right (c := d') ?_ hd'
    have := Nat.mul_le_mul_right d h1
    grind
 have t2 : ∀ s : Nat, 2 * n ≤ s * d ↔ 2 * n' ≤ s * d' := by
  intro s
  constructor
  · intro h1
    refine Nat.le_of_mul_le_mul_right (c := d) ?_ hd
    have := Nat.mul_le_mul_right d' h1
    grind
  · intro h1
    refine Nat.le_of_mul_le_mul_right (c := d') ?_ hd'
    have := Nat.mul_le_mul_right d h1
    grind
 refine ⟨fun j hj => (t1 _).1 (h.low j hj), fun j hj he => h.lowE j hj ?_, (t2 _).1 h.high, fun he => h.highE ?_⟩
 · exact Nat.le_antisymm ((t1 _).2 (by omega)) ((t2 _).2 (by omega))
 · exact Nat.le_antisymm ((t2 _).2 (by omega)) ((t1 _).2 (by omega))
def rnd (u : Nat) : Nat := (u + 1 + u / 4 % 2) / 4
theorem unr_ratio {n d n' d' : Nat} (hd : 0 < d) (hd' : 0 < d') (e : n * d' = n' * d) : unr n d = unr n' d' := by
 have e1 : n / d = n' / d' := by
  refine Nat.le_antisymm ((Nat.le_div_iff_mul_le hd').2 ?_) ((Nat.le_div_iff_mul_le hd).2 ?_)
  · refine Nat.le_of_mul_le_mul_right (c := d) ?_ hd
    have := Nat.mul_le_mul_right d' (Nat.div_mul_le_self n d)
    generalize n / d = q at *
    grind
  · refine Nat.le_of_mul_le_mul_right (c := d') ?_ hd'
    have := Nat.mul_le_mul_right d (Nat.div_mul_le_self n' d')
    generalize n' / d' = q at *
    grind
 have e2 : n % d = 0 ↔ n' % d' = 0 := by
  have h1 := Nat.div_add_mod n d
  have h2 := Nat.div_add_mod n' d'
  rw [← e1] at h2
  generalize n / d = q at *
  generalize n % d = r at *
  generalize n' % d' = r' at *
  have : r * d' = r' * d := by
   subst h1; subst h2
   rw [Nat.add_mul, Nat.add_mul] at e
   have : d * q * d' = d' * q * d := by grind
   omega
  constructor
  · rintro rfl
    rw [Nat.zero_mul] at this
    rcases Nat.mul_eq_zero.1 this.symm with g | g <;> omega
  · rintro rfl
    rw [Nat.zero_mul] at this
    rcases Nat.mul_eq_zero.1 this with g | g <;> omega
 unfold unr
 rw [e1]
 by_cases c : n % d = 0
 · rw [if_pos c, if_pos (e2.1 c)]
 · rw [if_neg c, if_neg (fun h => c (e2.2 h))]
theorem unr_cases (n d : Nat) (hd : 0 < d) : (n = unr n d * d) ∨ (unr n d % 2 = 1 ∧ (unr n d - 1) * d < n ∧ n < (unr n d + 1) * d ∧ n ≠ unr n d * d) := by
 have h1 := Nat.div_add_mod n d
 have h2 := Nat.mod_lt n hd
 unfold unr
 rw [Nat.mul_comm] at h1
 by_cases c : n % d = 0
 · rw [if_pos c]; left; omega
 · rw [if_neg c]
   right
   have hq : n / d / 2 * 2 = n / d ∨ n / d / 2 * 2 + 1 = n / d := by omega
   generalize n / d = q at *
   rcases hq with hq | hq
   · refine ⟨by omega, ?_, ?_, ?_⟩
     · rw [show q / 2 * 2 + 1 - 1 = q by omega]; omega
     · rw [show q / 2 * 2 + 1 + 1 = q + 2 by omega, Nat.add_mul]; omega
     · rw [show q / 2 * 2 + 1 = q + 1 by omega, Nat.add_mul]; omega
   · refine ⟨by omega, ?_, ?_, ?_⟩
     · rw [show q / 2 * 2 + 1 - 1 = q - 1 by omega]
       have : (q - 1) * d ≤ q * d := Nat.mul_le_mul_right d (by omega)
       omega
     · rw [show q / 2 * 2 + 1 + 1 = q + 1 by omega, Nat.add_mul]; omega
     · rw [show q / 2 * 2 + 1 = q by omega]; omega
theorem rnd_unr (n d : Nat) (hd : 0 < d) : let m := rnd (unr (4 * n) d)
 2 * n ≤ (2 * m + 1) * d ∧ (2 * n = (2 * m + 1) * d → m % 2 = 0) ∧ (m ≠ 0 → (2 * m - 1) * d ≤ 2 * n ∧ ((2 * m - 1) * d = 2 * n → m % 2 = 0)) := by
 intro m
 have hm : m = rnd (unr (4 * n) d) := rfl
 have hc := unr_cases (4 * n) d hd
 generalize unr (4 * n) d = u at *
 unfold rnd at hm
 obtain ⟨q, c, hu, hc4⟩ : ∃ q c, u = 4 * q + c ∧ c < 4 := ⟨u / 4, u % 4, by omega, by omega⟩
 subst hu
 have e0 : (4 * q + c) / 4 = q := by omega
 rw [e0] at hm
 have hp : ∀ k : Nat, (4 * q + k) * d = 4 * (q * d) + k * d := by intro k; grind
 have hv : ∀ a b : Nat, (a * q + b) * d = a * (q * d) + b * d := by intro a b; grind
 generalize hQ : q * d = Q at *
 have hcc : c = 0 ∨ c = 1 ∨ c = 2 ∨ c = 3 := by omega
 have mk : ∀ k : Nat, m = q + k → 2 * m + 1 = 2 * q + (2 * k + 1) := by intro k h; omega
 rcases hc with hc | ⟨h1, h2, h3, h4⟩
 · rw [hp] at hc
   rcases hcc with rfl | rfl | rfl | rfl
   · have hm' : m = q := by omega
     rw [show 2 * m + 1 = 2 * q + 1 by omega, hv]
     refine ⟨by omega, by omega, fun hz => ?_⟩
     obtain ⟨g, rfl⟩ : ∃ g, q = g + 1 := ⟨q - 1, by omega⟩
     have e2 : (2 * m - 1) * d + d = 2 * Q := by
      rw [show 2 * m - 1 = 2 * g + 1 by omega, ← hQ]; grind
     omega
   · have hm' : m = q := by omega
     rw [show 2 * m + 1 = 2 * q + 1 by omega, hv]
     refine ⟨by omega, by omega, fun hz => ?_⟩
     obtain ⟨g, rfl⟩ : ∃ g, q = g + 1 := ⟨q - 1, by omega⟩
     have e2 : (2 * m - 1) * d + d = 2 * Q := by
      rw [show 2 * m - 1 = 2 * g + 1 by omega, ← hQ]; grind
     omega
   · rcases Nat.mod_two_eq_zero_or_one q with hg | hg
     · have hm' : m = q := by omega
       rw [show 2 * m + 1 = 2 * q + 1 by omega, hv]
       refine ⟨by omega, by omega, fun hz => ?_⟩
       obtain ⟨g, rfl⟩ : ∃ g, q = g + 1 := ⟨q - 1, by omega⟩
       have e2 : (2 * m - 1) * d + d = 2 * Q := by
        rw [show 2 * m - 1 = 2 * g + 1 by omega, ← hQ]; grind
       omega
     · have hm' : m = q + 1 := by omega
       rw [show 2 * m + 1 = 2 * q + 3 by omega, hv, show 2 * m - 1 = 2 * q + 1 by omega, hv]
       refine ⟨by omega, by omega, fun hz => by omega⟩
   · have hm' : m = q + 1 := by omega
     rw [show 2 * m + 1 = 2 * q + 3 by omega, hv, show 2 * m - 1 = 2 * q + 1 by omega, hv]
     refine ⟨by omega, by omega, fun hz => by omega⟩
 · have h5 : (4 * q + c + 1) * d = 4 * Q + (c + 1) * d := by rw [Nat.add_assoc, hp]
   rw [h5] at h3
   rw [hp] at h4
   have hcc : c = 1 ∨ c = 3 := by omega
   rcases hcc with rfl | rfl
   · have hm' : m = q := by omega
     have h6 : (4 * q + 1 - 1) * d = 4 * Q := by rw [show 4 * q + 1 - 1 = 4 * q + 0 by omega, hp]; omega
     rw [h6] at h2
     rw [show 2 * m + 1 = 2 * q + 1 by omega, hv]
     refine ⟨by omega, by omega, fun hz => ?_⟩
     obtain ⟨g, rfl⟩ : ∃ g, q = g + 1 := ⟨q - 1, by omega⟩
     have e2 : (2 * m - 1) * d + d = 2 * Q := by
      rw [show 2 * m - 1 = 2 * g + 1 by omega, ← hQ]; grind
     omega
   · have hm' : m = q + 1 := by omega
     have h6 : (4 * q + 3 - 1) * d = 4 * Q + 2 * d := by rw [show 4 * q + 3 - 1 = 4 * q + 2 by omega, hp]
     rw [h6] at h2
     rw [show 2 * m + 1 = 2 * q + 3 by omega, hv, show 2 * m - 1 = 2 * q + 1 by omega, hv]
     refine ⟨by omega, by omega, fun hz => by omega⟩
def rsh1 (u : Nat) : Nat := if u % 2 = 1 then u / 2 / 2 * 2 + 1 else u / 2
theorem unr_rsh (n d : Nat) (hd : 0 < d) : unr n (2 * d) = rsh1 (unr n d) := by
 have h1 : n / (2 * d) = n / d / 2 := by rw [Nat.mul_comm, Nat.div_div_eq_div_mul]
 have h2 : n % (2 * d) = 0 ↔ (n % d = 0 ∧ n / d % 2 = 0) := by
  rw [Nat.mul_comm, Nat.mod_mul]
  constructor
  · intro h
    have a : n % d = 0 := by omega
    refine ⟨a, ?_⟩
    have b : d * (n / d % 2) = 0 := by omega
    rcases Nat.mul_eq_zero.1 b with g | g <;> omega
  · rintro ⟨a, b⟩; rw [a, b]; simp
 unfold unr rsh1
 rw [h1]
 by_cases c : n % d = 0
 · rw [if_pos c]
   by_cases c2 : n / d % 2 = 0
   · rw [if_pos (h2.2 ⟨c, c2⟩), if_neg (by omega)]
   · rw [if_neg (fun h => c2 (h2.1 h).2), if_pos (by omega)]
 · rw [if_neg c, if_neg (fun h => c (h2.1 h).1), if_pos (by omega)]
   omega
end Go.Proofs.YtonegoemmologaaGreatDoor.Fl
namespace Go.Proofs.YtonegoemmologaaGreatDoor.Fl
theorem near_of (mb m j N D : Nat) (hmb : 1 ≤ mb) (h : 2 ^ mb ≤ m ∨ j = 0) (h2 : m < 2 ^ (mb + 1))
 (r1 : 2 * N ≤ (2 * m + 1) * (D * 2 ^ j)) (r2 : 2 * N = (2 * m + 1) * (D * 2 ^ j) → m % 2 = 0)
 (r3 : m ≠ 0 → (2 * m - 1) * (D * 2 ^ j) ≤ 2 * N ∧ ((2 * m - 1) * (D * 2 ^ j) = 2 * N → m % 2 = 0))
 (hl : 1 ≤ j → (4 * 2 ^ mb - 1) * (D * 2 ^ (j - 1)) ≤ 2 * N) : Near mb (m + j * 2 ^ mb) N D := by
 have hp : 0 < 2 ^ mb := Nat.two_pow_pos mb
 have h2' : m < 2 * 2 ^ mb := by rw [Nat.pow_succ] at h2; omega
 have par : (m + j * 2 ^ mb) % 2 = m % 2 := by
  obtain ⟨t, rfl⟩ : ∃ t, mb = t + 1 := ⟨mb - 1, by omega⟩
  rw [Nat.pow_succ, ← Nat.mul_assoc]
  omega
 have f0 := fin_norm mb m j h (by omega)
 have f1 := fin_succ mb m j h h2
 have e1 : (m * 2 ^ j + (m + 1) * 2 ^ j) * D = (2 * m + 1) * (D * 2 ^ j) := by
  generalize 2 ^ j = P; grind
 have lowk : ∀ i, m + j * 2 ^ mb = i + 1 → (fin mb i + fin mb (m + j * 2 ^ mb)) * D ≤ 2 * N ∧ ((fin mb i + fin mb (m + j * 2 ^ mb)) * D = 2 * N → m % 2 = 0) := by
  intro i hi
  rw [f0]
  by_cases c : 2 ^ mb < m ∨ j = 0
  · have hm : m ≠ 0 := by
     rintro rfl
     rcases c with c | rfl
     · omega
     · simp at hi
    have e : i = (m - 1) + j * 2 ^ mb := by omega
    have := fin_norm mb (m - 1) j (by omega) (by omega)
    rw [e, this]
    have e2 : ((m - 1) * 2 ^ j + m * 2 ^ j) * D = (2 * m - 1) * (D * 2 ^ j) := by
     obtain ⟨g, rfl⟩ : ∃ g, m = g + 1 := ⟨m - 1, by omega⟩
     rw [show g + 1 - 1 = g by omega, show 2 * (g + 1) - 1 = 2 * g + 1 by omega]
     generalize 2 ^ j = P; grind
    rw [e2]
    exact r3 hm
  · have hm : m = 2 ^ mb := by omega
    obtain ⟨t, rfl⟩ : ∃ t, j = t + 1 := ⟨j - 1, by omega⟩
    have e : i = (2 * 2 ^ mb - 1) + t * 2 ^ mb := by rw [Nat.add_mul] at hi; omega
    have := fin_norm mb (2 * 2 ^ mb - 1) t (by omega) (by rw [Nat.pow_succ]; omega)
    rw [e, this, hm]
    have e2 : ((2 * 2 ^ mb - 1) * 2 ^ t + 2 ^ mb * 2 ^ (t + 1)) * D = (4 * 2 ^ mb - 1) * (D * 2 ^ t) := by
     rw [Nat.pow_succ 2 t]
     generalize 2 ^ t = P
     have : 4 * 2 ^ mb - 1 = (2 * 2 ^ mb - 1) + 2 * 2 ^ mb := by omega
     rw [this]
     generalize 2 * 2 ^ mb - 1 = Q
     generalize 2 ^ mb = R
     grind
    rw [e2]
    refine ⟨hl (by omega), fun _ => ?_⟩
    obtain ⟨t', rfl⟩ : ∃ t, mb = t + 1 := ⟨mb - 1, by omega⟩
    rw [Nat.pow_succ]
    omega
 refine ⟨fun i hi => (lowk i hi).1, fun i hi he => by rw [par]; exact (lowk i hi).2 he, ?_, ?_⟩
 · rw [f0, f1, e1]; exact r1
 · rw [f0, f1, e1, par]; exact r2
def powOk (p : Int) : Bool := decide (2 ^ 127 * powB p ≤ powA p) && decide (powA p ≤ (2 ^ 128 - 2 ^ 118) * powB p)
theorem powOk_all : (List.range 696).all (fun i => powOk ((i : Int) - 348)) = true := by decide +kernel
theorem pow_bounds (p : Int) (h1 : -348 ≤ p) (h2 : p ≤ 347) : 2 ^ 127 * powB p ≤ powA p ∧ powA p ≤ (2 ^ 128 - 2 ^ 118) * powB p := by
 have := in_all powOk_all p (by omega) (by omega)
 simpa only [powOk, Bool.and_eq_true, decide_eq_true_eq] using this
theorem powB_pos (p : Int) : 0 < powB p := Nat.mul_pos (Nat.pow_pos (by omega)) (Nat.two_pow_pos _)
def decN (top d : Nat) (p : Int) : Nat := d * 10 ^ p.toNat * 2 ^ top
def decD (p : Int) : Nat := 10 ^ (-p).toNat
theorem decD_pos (p : Int) : 0 < decD p := Nat.pow_pos (by omega)
def len (d : Nat) : Nat := d.log2 + 1
def prsE (mb top d : Nat) (p : Int) : Int := min (top : Int) ((mb : Int) + 1 - len d - lgp p)
def prsS (mb top d : Nat) (p : Int) : Int := 61 - len d - prsE mb top d p - lgp p
def prsU (mb top d : Nat) (p : Int) (hi lo : Nat) : Nat := usc (d * 2 ^ (64 - len d)) hi lo (prsS mb top d p).toNat
def prsM (mb top d : Nat) (p : Int) (hi lo : Nat) : Nat :=
 rnd (if 2 ^ (mb + 3) - 2 ≤ prsU mb top d p hi lo then rsh1 (prsU mb top d p hi lo) else prsU mb top d p hi lo)
def prsJ (mb top d : Nat) (p : Int) (hi lo : Nat) : Nat :=
 (top - prsE mb top d p).toNat + (if 2 ^ (mb + 3) - 2 ≤ prsU mb top d p hi lo then 1 else 0)
theorem len_bounds {d : Nat} (h : 0 < d) : 2 ^ (len d - 1) ≤ d ∧ d < 2 ^ len d := by
 unfold len
 exact ⟨Nat.log2_self_le (by omega), Nat.lt_log2_self⟩
theorem len_le {d : Nat} (h : 0 < d) (h2 : d < 2 ^ 64) : 1 ≤ len d ∧ len d ≤ 64 := by
 refine ⟨by unfold len; omega, ?_⟩
 unfold len
 have := (Nat.log2_lt (by omega : d ≠ 0)).2 h2
 omega
end Go.Proofs.YtonegoemmologaaGreatDoor.Fl
namespace Go.Proofs.YtonegoemmologaaGreatDoor.Fl
theorem prsS_eq (mb top d : Nat) (p : Int) : prsS mb top d p = 61 - len d - prsE mb top d p - lgp p := rfl
theorem prsS_ge (mb top d : Nat) (p : Int) (hmb : mb ≤ 52) : 60 - mb ≤ prsS mb top d p ∧ 8 ≤ prsS mb top d p := by
 unfold prsS prsE
 omega
theorem prs_ratio (mb top d : Nat) (p : Int) (hd0 : 0 < d) (hd : d < 2 ^ 64) (hmb : mb ≤ 52) :
 unr (d * 2 ^ (64 - len d) * powA p) (powB p * 2 ^ (128 + (prsS mb top d p).toNat)) = unr (4 * decN top d p) (decD p * 2 ^ (top - prsE mb top d p).toNat) := by
 have hl := len_le hd0 hd
 have hs := prsS_ge mb top d p hmb
 have he : prsE mb top d p ≤ top := by unfold prsE; omega
 refine unr_ratio (Nat.mul_pos (powB_pos p) (Nat.two_pow_pos _)) (Nat.mul_pos (decD_pos p) (Nat.two_pow_pos _)) ?_
 unfold decN decD powA powB
 rw [prsS_eq] at *
 generalize prsE mb top d p = e at *
 generalize len d = b at *
 generalize lgp p = l at *
 have key : 2 ^ (64 - b) * 2 ^ (127 - l).toNat * 2 ^ (top - e).toNat = 4 * 2 ^ top * (2 ^ (l - 127).toNat * 2 ^ (128 + (61 - (b : Int) - e - l).toNat)) := by
  rw [show (4 : Nat) = 2 ^ 2 from rfl]
  simp only [← Nat.pow_add]
  congr 1
  omega
 generalize 2 ^ (64 - b) = a1 at *
 generalize 2 ^ (127 - l).toNat = a2 at *
 generalize 2 ^ (top - e).toNat = a3 at *
 generalize 2 ^ top = a4 at *
 generalize 2 ^ (l - 127).toNat = a5 at *
 generalize 2 ^ (128 + (61 - (b : Int) - e - l).toNat) = a6 at *
 generalize 10 ^ p.toNat = c1 at *
 generalize 10 ^ (-p).toNat = c2 at *
 have : d * a1 * (c1 * a2) * (c2 * a3) = d * c1 * c2 * (a1 * a2 * a3) := by grind
 rw [this, key]
 grind
theorem unr_le {n d q : Nat} (hd : 0 < d) (h : n ≤ q * d) : unr n d ≤ q := by
 rcases unr_cases n d hd with c | ⟨c1, c2, c3, c4⟩
 · rw [c] at h
   exact Nat.le_of_mul_le_mul_right h hd
 · have : (unr n d - 1) * d < q * d := Nat.lt_of_lt_of_le c2 h
   have := Nat.lt_of_mul_lt_mul_right this
   omega
theorem le_unr {n d q : Nat} (hd : 0 < d) (h : q * d ≤ n) : q ≤ unr n d := by
 rcases unr_cases n d hd with c | ⟨c1, c2, c3, c4⟩
 · rw [c] at h
   exact Nat.le_of_mul_le_mul_right h hd
 · have : q * d < (unr n d + 1) * d := Nat.lt_of_le_of_lt h c3
   have := Nat.lt_of_mul_lt_mul_right this
   omega
theorem le_of_unr {n d q : Nat} (hd : 0 < d) (h : 2 * q ≤ unr n d) : 2 * q * d ≤ n := by
 rcases unr_cases n d hd with c | ⟨c1, c2, c3, c4⟩
 · rw [c]; exact Nat.mul_le_mul_right d h
 · have : 2 * q * d ≤ (unr n d - 1) * d := Nat.mul_le_mul_right d (by omega)
   omega
theorem prsU_bounds (mb top d : Nat) (p : Int) (hi lo : Nat) (hd0 : 0 < d) (hd : d < 2 ^ 64) (h1 : -345 ≤ p) (h2 : p ≤ 310) (hmb : 20 ≤ mb ∧ mb ≤ 52)
 (hM : hi * 2 ^ 64 = powM p + lo) (hlo : lo < 2 ^ 64) :
 prsU mb top d p hi lo = unr (4 * decN top d p) (decD p * 2 ^ (top - prsE mb top d p).toNat)
 ∧ prsU mb top d p hi lo ≤ 2 ^ (mb + 4) - 2 ^ (mb - 6)
 ∧ (prsE mb top d p < top → 2 ^ (mb + 2) ≤ prsU mb top d p hi lo) := by
 have hl := len_le hd0 hd
 have hs := prsS_ge mb top d p hmb.2
 have he : prsE mb top d p ≤ top := by unfold prsE; omega
 have lb := len_bounds hd0
 have hb := pow_bounds p (by omega) (by omega)
 have hB := powB_pos p
 have x1 : 2 ^ 63 ≤ d * 2 ^ (64 - len d) := by
  have : 2 ^ (len d - 1) * 2 ^ (64 - len d) ≤ d * 2 ^ (64 - len d) := Nat.mul_le_mul_right _ lb.1
  rwa [← Nat.pow_add, show len d - 1 + (64 - len d) = 63 by omega] at this
 have x2 : d * 2 ^ (64 - len d) < 2 ^ 64 := by
  have : d * 2 ^ (64 - len d) < 2 ^ len d * 2 ^ (64 - len d) := Nat.mul_lt_mul_of_pos_right lb.2 (Nat.two_pow_pos _)
  rwa [← Nat.pow_add, show len d + (64 - len d) = 64 by omega] at this
 have hu : prsU mb top d p hi lo = unr (d * 2 ^ (64 - len d) * powA p) (powB p * 2 ^ (128 + (prsS mb top d p).toNat)) :=
  usc_parse _ hi lo _ p h1 h2 hM hlo x2 (by omega) (by omega)
 refine ⟨hu.trans (prs_ratio mb top d p hd0 hd hmb.2), ?_, ?_⟩
 · rw [hu]
   refine unr_le (Nat.mul_pos hB (Nat.two_pow_pos _)) ?_
   have k1 : d * 2 ^ (64 - len d) * powA p ≤ 2 ^ 64 * ((2 ^ 128 - 2 ^ 118) * powB p) := Nat.mul_le_mul (by omega) hb.2
   refine Nat.le_trans k1 ?_
   have e1 : (2 : Nat) ^ (128 + (prsS mb top d p).toNat) = 2 ^ (188 - mb) * 2 ^ ((prsS mb top d p).toNat - (60 - mb)) := by
    rw [← Nat.pow_add]; congr 1; omega
   have e2 : 2 ^ 64 * (2 ^ 128 - 2 ^ 118) = (2 ^ (mb + 4) - 2 ^ (mb - 6)) * 2 ^ (188 - mb) := by
    rw [Nat.sub_mul, ← Nat.pow_add, ← Nat.pow_add, show mb + 4 + (188 - mb) = 192 by omega, show mb - 6 + (188 - mb) = 182 by omega]
   rw [← Nat.mul_assoc, e2, e1]
   have : 1 ≤ 2 ^ ((prsS mb top d p).toNat - (60 - mb)) := Nat.two_pow_pos _
   generalize 2 ^ ((prsS mb top d p).toNat - (60 - mb)) = v at *
   generalize 2 ^ (mb + 4) - 2 ^ (mb - 6) = w
   generalize 2 ^ (188 - mb) = z
   have k2 : w * z * powB p * 1 ≤ w * z * powB p * v := Nat.mul_le_mul_left _ this
   have e3 : w * (powB p * (z * v)) = w * z * powB p * v := by grind
   rw [e3]; omega
 · intro hlt
   rw [hu]
   refine le_unr (Nat.mul_pos hB (Nat.two_pow_pos _)) ?_
   have k1 : 2 ^ 63 * (2 ^ 127 * powB p) ≤ d * 2 ^ (64 - len d) * powA p := Nat.mul_le_mul x1 hb.1
   refine Nat.le_trans ?_ k1
   have es : (prsS mb top d p).toNat = 60 - mb := by unfold prsS; unfold prsE at *; omega
   rw [es]
   have e2 : 2 ^ (mb + 2) * 2 ^ (128 + (60 - mb)) = 2 ^ 63 * 2 ^ 127 := by rw [← Nat.pow_add, ← Nat.pow_add]; congr 1; omega
   generalize 2 ^ (mb + 2) = a at *
   generalize 2 ^ (128 + (60 - mb)) = b at *
   have e3 : a * (powB p * b) = a * b * powB p := by grind
   rw [e3, e2, Nat.mul_assoc]
   exact Nat.le_refl _
theorem rnd_le {u q : Nat} (h : u ≤ 4 * q - 3) (hq : 1 ≤ q): rnd u < q := by unfold rnd; omega
theorem prs_near (mb top d : Nat) (p : Int) (hi lo : Nat) (hd0 : 0 < d) (hd : d < 2 ^ 64) (h1 : -345 ≤ p) (h2 : p ≤ 310) (hmb : 20 ≤ mb ∧ mb ≤ 52)
 (hM : hi * 2 ^ 64 = powM p + lo) (hlo : lo < 2 ^ 64) :
 Near mb (prsM mb top d p hi lo + prsJ mb top d p hi lo * 2 ^ mb) (decN top d p) (decD p)
 ∧ prsM mb top d p hi lo < 2 ^ (mb + 1) ∧ (2 ^ mb ≤ prsM mb top d p hi lo ∨ prsJ mb top d p hi lo = 0) := by
 obtain ⟨hu, hub, hul⟩ := prsU_bounds mb top d p hi lo hd0 hd h1 h2 hmb hM hlo
 have he : prsE mb top d p ≤ top := by unfold prsE; omega
 have hD := decD_pos p
 have pw : ∀ k : Nat, 2 ^ (mb + k) = 2 ^ mb * 2 ^ k := fun k => Nat.pow_add 2 mb k
 have pw6 : 2 ^ mb = 2 ^ (mb - 6) * 2 ^ 6 := by rw [← Nat.pow_add]; congr 1; omega
 have p14 : 2 ^ 14 ≤ 2 ^ (mb - 6) := Nat.pow_le_pow_right (by omega) (by omega)
 rw [pw 4] at hub
 rw [pw 2] at hul
 unfold prsM prsJ
 rw [pw 3, pw 1]
 generalize hU : prsU mb top d p hi lo = u at *
 generalize hJ : (top - prsE mb top d p).toNat = j at *
 have hj : j ≠ 0 ↔ prsE mb top d p < top := by omega
 by_cases c : 2 ^ mb * 2 ^ 3 - 2 ≤ u
 · rw [if_pos c, if_pos c]
   have er := unr_rsh (4 * decN top d p) (decD p * 2 ^ j) (Nat.mul_pos hD (Nat.two_pow_pos _))
   rw [← hu] at er
   have e2 : 2 * (decD p * 2 ^ j) = decD p * 2 ^ (j + 1) := by rw [Nat.pow_succ]; grind
   rw [e2] at er
   have rr := rnd_unr (decN top d p) (decD p * 2 ^ (j + 1)) (Nat.mul_pos hD (Nat.two_pow_pos _))
   rw [er] at rr
   have m1 : rnd (rsh1 u) < 2 ^ mb * 2 ^ 1 := rnd_le (by unfold rsh1; split <;> omega) (by omega)
   have m2 : 2 ^ mb ≤ rnd (rsh1 u) := by unfold rnd rsh1; split <;> omega
   refine ⟨near_of mb _ (j + 1) _ _ (by omega) (Or.inl m2) (by rw [pw 1]; exact m1) rr.1 rr.2.1 rr.2.2 ?_, m1, Or.inl m2⟩
   intro _
   have k := le_of_unr (n := 4 * decN top d p) (d := decD p * 2 ^ j) (q := 4 * 2 ^ mb - 1) (Nat.mul_pos hD (Nat.two_pow_pos _)) (by rw [← hu]; omega)
   rw [show j + 1 - 1 = j by omega]
   rw [Nat.mul_assoc] at k
   omega
 · rw [if_neg c, if_neg c]
   have rr := rnd_unr (decN top d p) (decD p * 2 ^ j) (Nat.mul_pos hD (Nat.two_pow_pos _))
   rw [← hu] at rr
   have m1 : rnd u < 2 ^ mb * 2 ^ 1 := rnd_le (by omega) (by omega)
   have m2 : 2 ^ mb ≤ rnd u ∨ j + 0 = 0 := by
    by_cases hz : j = 0
    · exact Or.inr (by omega)
    · left
      have := hul (hj.1 hz)
      unfold rnd; omega
   refine ⟨near_of mb _ (j + 0) _ _ (by omega) m2 (by rw [pw 1]; exact m1) rr.1 rr.2.1 rr.2.2 ?_, m1, m2⟩
   intro hj1
   have k := le_of_unr (n := 4 * decN top d p) (d := decD p * 2 ^ j) (q := 2 * 2 ^ mb) (Nat.mul_pos hD (Nat.two_pow_pos _)) (by rw [← hu]; have := hul (hj.1 (by omega)); omega)
   obtain ⟨t, rfl⟩ : ∃ t, j = t + 1 := ⟨j - 1, by omega⟩
   rw [show t + 1 + 0 - 1 = t by omega]
   rw [Nat.pow_succ] at k
   have a1 : (4 * 2 ^ mb - 1) * (decD p * 2 ^ t) ≤ 4 * 2 ^ mb * (decD p * 2 ^ t) := Nat.mul_le_mul_right _ (by omega)
   have a2 : 2 * (2 * 2 ^ mb) * (decD p * (2 ^ t * 2)) = 2 * (4 * 2 ^ mb * (decD p * 2 ^ t)) := by
    generalize 2 ^ mb = x; generalize 2 ^ t = y; grind
   omega
end Go.Proofs.YtonegoemmologaaGreatDoor.Fl
