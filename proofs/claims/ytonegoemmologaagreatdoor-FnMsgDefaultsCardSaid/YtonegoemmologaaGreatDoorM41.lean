/-
  There is a nearest rung.
  A number of 32 bits: written, and read as itself or the next one.
  sameFloat and near32.
  mapFits and fieldFits of the reference: what they tell of a field's type.
-/
import Derived.Test.YtonegoemmologaaGreatDoorM06
import Derived.Test.YtonegoemmologaaGreatDoorM40
import Derived.Deep.DeepCutAuto
import Derived.Test.YtonegoemmologaaGreatDoorM31
set_option linter.unusedVariables false
set_option linter.unusedSimpArgs false
namespace Go.Proofs.YtonegoemmologaaGreatDoor
theorem fin_ge (mb : Nat) : ∀ k, k ≤ Fl.fin mb k
 | 0 => Nat.zero_le _
 | k + 1 => Nat.lt_of_le_of_lt (fin_ge mb k) (Fl.fin_lt_succ mb k)
theorem last_below (mb n d : Nat) (hd : 0 < d) : ∃ k, Fl.fin mb k * d ≤ n ∧ n < Fl.fin mb (k + 1) * d := by
 have h0 : Fl.fin mb 0 * d ≤ n := by rw [show Fl.fin mb 0 = 0 by simp [Fl.fin], Nat.zero_mul]; exact Nat.zero_le _
 have step : ∀ j, (∃ k, Fl.fin mb k * d ≤ n ∧ n < Fl.fin mb (k + 1) * d) ∨ Fl.fin mb j * d ≤ n := by
  intro j
  induction j with
  | zero => exact .inr h0
  | succ j ih =>
   rcases ih with ih | ih
   · exact .inl ih
   · by_cases h : Fl.fin mb (j + 1) * d ≤ n
     · exact .inr h
     · exact .inl ⟨j, ih, by omega⟩
 rcases step (n + 1) with h | h
 · exact h
 · exfalso
   have h1 := fin_ge mb (n + 1)
   have h2 : (n + 1) * 1 ≤ Fl.fin mb (n + 1) * d := Nat.mul_le_mul h1 hd
   omega
theorem near_ex (mb n d : Nat) (hd : 0 < d) : ∃ k, Fl.Near mb k n d := by
 obtain ⟨k, h1, h2⟩ := last_below mb n d hd
 by_cases hc : 2 * n < (Fl.fin mb k + Fl.fin mb (k + 1)) * d ∨ (2 * n = (Fl.fin mb k + Fl.fin mb (k + 1)) * d ∧ k % 2 = 0)
 · have hlow : ∀ j, k = j + 1 → (Fl.fin mb j + Fl.fin mb k) * d < 2 * n := by
    rintro j rfl
    have := Nat.mul_lt_mul_of_pos_right (Fl.fin_lt_succ mb j) hd
    rw [Nat.add_mul]; omega
   refine ⟨k, fun j hj => Nat.le_of_lt (hlow j hj), fun j hj e => absurd e (Nat.ne_of_lt (hlow j hj)), ?_, fun e => ?_⟩
   · rcases hc with hc | hc
     · exact Nat.le_of_lt hc
     · exact Nat.le_of_eq hc.1
   · rcases hc with hc | hc
     · omega
     · exact hc.2
 · have hhigh : 2 * n < (Fl.fin mb (k + 1) + Fl.fin mb (k + 1 + 1)) * d := by
    have := Nat.mul_lt_mul_of_pos_right (Fl.fin_lt_succ mb (k + 1)) hd
    rw [Nat.add_mul]; omega
   refine ⟨k + 1, fun j hj => ?_, fun j hj e => ?_, Nat.le_of_lt hhigh, fun e => by omega⟩
   · have : j = k := by omega
     subst this
     exact Nat.le_of_not_lt (fun h => hc (.inl h))
   · have : j = k := by omega
     subst this
     have : ¬ j % 2 = 0 := fun h => hc (.inr ⟨e.symm, h⟩)
     omega
end Go.Proofs.YtonegoemmologaaGreatDoor
namespace Go.Proofs.YtonegoemmologaaGreatDoor
open Go.RowKit
theorem nearest_word (f : Ieee.Format) (s : Bool) (m : Nat) (e : Int) : ∃ j, j ≤ f.infRung ∧ f.nearest s m e = f.word s j := by
 unfold Ieee.Format.nearest
 split
 · exact ⟨0, Nat.zero_le _, rfl⟩
 · exact ⟨_, Nat.min_le_right _ _, rfl⟩
theorem read32_inf (s : Bool) : (Ieee.single.read (sgn32 s + 2139095040)).isInfinity = true := by cases s <;> decide +kernel
theorem mod32 (s : Bool) (j : Nat) (h : j < 2147483648) : (sgn32 s + j) % 2147483648 = j ∧ decide (2147483648 ≤ sgn32 s + j) = s ∧ sgn32 s + j < 4294967296 := by
 cases s
 · rw [show sgn32 false = 0 from rfl]; refine ⟨by omega, by simp; omega, by omega⟩
 · rw [show sgn32 true = 2147483648 from rfl]; refine ⟨by omega, by simp, by omega⟩
theorem short_word (f : Nat) (hf : f < 18446744073709551616) (hfin : f % 9223372036854775808 < 9218868437227405312) (hs : Short f) :
 ∃ (s : Bool) (j : Nat), j < 2139095040 ∧ (∀ w, (convert 83 85 (.float .f64 f)).run Tryz.prog w = .ok (.float .f32 (sgn32 s + j)) w) ∧
  (∀ w, (convert 85 83 (.float .f32 (sgn32 s + j))).run Tryz.prog w = .ok (.float .f64 f) w) := by
 obtain ⟨r, hr, hcv, hnum, w, r2, w2, h2, ho⟩ := hs
 have hsp := split64 f hf
 obtain ⟨s, hs⟩ : ∃ s, decide (9223372036854775808 ≤ f) = s := ⟨_, rfl⟩
 obtain ⟨kf, hkf⟩ : ∃ kf, f % 9223372036854775808 = kf := ⟨_, rfl⟩
 rw [hs, hkf] at hsp
 rw [hkf] at hfin
 obtain ⟨m, pl, hrd, -, -⟩ := Fl.read_word Ieee.double s kf 52 1074 rfl rfl (by rw [inf64]; exact hfin)
 rw [word64, ← hsp] at hrd
 obtain ⟨h3, h4⟩ := hnum s m pl hrd
 obtain ⟨j, hj, hw⟩ := nearest_word Ieee.single s m pl
 have h5 : r = sgn32 s + j := by rw [h3]; show Ieee.single.nearest s m pl = _; rw [hw, single_word]
 rw [inf32r] at hj
 have hj2 : j < 2139095040 := by
  rcases Nat.lt_or_eq_of_le hj with h | h
  · exact h
  · exfalso
    rw [h5, h, read32_inf] at h4
    cases h4
 subst h5
 obtain ⟨k64, h6, h7, h8⟩ := conv_up s j hj2
 have h9 := h2.symm.trans (h8 w)
 injection h9 with h9 _
 injection h9 with _ h9
 have e : kf = k64 := by
  rw [h9, hsp, ← word64, ← word64, Fl.order_word Ieee.double s s 52 1074 kf k64 rfl rfl (by rw [inf64]; exact hfin) (by rw [inf64]; exact h6)] at ho
  have h10 := Std.compare_eq_iff_eq.1 (Option.some.inj ho)
  refine Fl.fin_inj 52 ?_
  unfold Fl.sg at h10
  cases s <;> simp at h10 <;> omega
 refine ⟨s, j, hj2, hcv, fun w => ?_⟩
 rw [h8 w, ← e, ← hsp]
def Nigh (f g : Nat) : Prop := g = f ∨ ∃ r r' : Nat, (∀ w, (convert 83 85 (.float .f64 f)).run Tryz.prog w = .ok (.float .f32 r) w) ∧ (∀ w, (convert 83 85 (.float .f64 g)).run Tryz.prog w = .ok (.float .f32 r') w) ∧ r < 4294967296 ∧ r' < 4294967296 ∧ (r' = r + 1 ∨ r = r' + 1)
def topK : Nat := 67108861 * 2 ^ 27 + 1149 * 2 ^ 52
set_option exponentiation.threshold 3000 in
theorem top_a : 34028235 * 10 ^ 31 * 2 ^ 149 * 2 ^ 925 ≤ Fl.fin 52 topK := by decide +kernel
set_option exponentiation.threshold 3000 in
theorem top_b : ¬ (Fl.fin 23 2139095039 + Fl.fin 23 2139095040) * 2 ^ 925 ≤ 2 * Fl.fin 52 topK := by decide +kernel
set_option exponentiation.threshold 3000 in
theorem top_down {n k64 k' : Nat} {q : Int} (hn : Fl.decN 149 n q ≤ 34028235 * 10 ^ 31 * 2 ^ 149 * Fl.decD q) (h64 : Fl.Near 52 k64 (Fl.decN 1074 n q) (Fl.decD q)) (h' : Fl.Near 23 k' (Fl.fin 52 k64) (2 ^ 925)) : k' < 2139095040 := by
 have e2 : Fl.decN 1074 n q = Fl.decN 149 n q * 2 ^ 925 := by
  unfold Fl.decN
  rw [Nat.mul_assoc _ (2 ^ 149), ← Nat.pow_add]
 have h1 : Fl.decN 1074 n q ≤ Fl.fin 52 topK * Fl.decD q := by
  rw [e2]
  refine Nat.le_trans (Nat.mul_le_mul_right _ hn) ?_
  rw [Nat.mul_right_comm]
  exact Nat.mul_le_mul_right _ top_a
 have h2 := Fl.fin_mono_le 52 (h64.le (Fl.decD_pos q) h1)
 rcases Nat.lt_or_ge k' 2139095040 with h | h
 · exact h
 · exfalso
   have h3 := h'.low (k' - 1) (by omega)
   have h4 := Fl.fin_mono_le 23 (show 2139095039 ≤ k' - 1 by omega)
   have h5 := Fl.fin_mono_le 23 h
   refine top_b (Nat.le_trans (Nat.mul_le_mul_right _ (Nat.add_le_add h4 h5)) (Nat.le_trans h3 ?_))
   omega
set_option exponentiation.threshold 3000 in
theorem num_2 (PT : Nat → Nat × Nat) (hok : PTOk PT) (f : Nat) (s : Bool) (j : Nat) (hj : j < 2139095040)
 (hc : ∀ w, (convert 83 85 (.float .f64 f)).run Tryz.prog w = .ok (.float .f32 (sgn32 s + j)) w) (hd : ∀ w, (convert 85 83 (.float .f32 (sgn32 s + j))).run Tryz.prog w = .ok (.float .f64 f) w)
 (hf : f < 18446744073709551616) (hfin : f % 9223372036854775808 < 9218868437227405312) :
 ∃ (T : List UInt8) (g : Nat), Nigh f g ∧ (∀ (form : Int) (ev : Value) (e : ByteArray) (w : World), FT2 PT w → GM 2 form (iv 2 false 0 0 (f : Int) noS e) ev (fun _ y => y = pv 6 (f : Int) noS (.slice none 0 0)) (mk T) w) ∧
  ∀ (form : Int) (L : List EV) (b off : Nat) (w : World), TA64 PT b off w → UP 2 form (mk T) L .nilIface false 0 0 noS (Flat 6 (g : Int) noS) (fun x => x = (g : Int)) w := by
 obtain ⟨m1, m2, m3⟩ := mod32 s j (by omega)
 obtain ⟨T, hT, ⟨n, q, hn, hq, htop⟩, hF⟩ := formatFloat32_ex PT hok f (sgn32 s + j) hc m3 (by rw [m1]; omega)
 rw [m2] at hn
 rw [m1] at hq htop
 obtain ⟨k64, hk64⟩ := near_ex 52 (Fl.decN 1074 n q) (Fl.decD q) (Fl.decD_pos q)
 obtain ⟨k', hk'⟩ := near_ex 23 (Fl.fin 52 k64) (2 ^ 925) (Nat.two_pow_pos _)
 obtain ⟨t1, t2⟩ := Fl.twice (z := 925) (by decide) hq hk64 hk'
 have hk9 : k' < 2139095040 := by
  by_cases h9 : j = 2139095039
  · exact top_down (htop rfl rfl h9) hk64 hk'
  · omega
 have hlt : k64 < 9218868437227405312 := by
  have hle : k64 ≤ 1151 * 2 ^ 52 := by
   refine hk64.le (Fl.decD_pos q) ?_
   have e1 : Fl.fin 52 (1151 * 2 ^ 52) = 2 ^ 1202 := by
    have := Fl.fin_norm 52 (2 ^ 52) 1150 (Or.inl (Nat.le_refl _)) (by decide)
    rw [show 2 ^ 52 + 1150 * 2 ^ 52 = 1151 * 2 ^ 52 by decide, ← Nat.pow_add] at this
    exact this
   have e2 : Fl.decN 1074 n q = Fl.decN 149 n q * 2 ^ 925 := by
    unfold Fl.decN
    rw [Nat.mul_assoc _ (2 ^ 149), ← Nat.pow_add]
   have e3 : Fl.fin 23 j + Fl.fin 23 (j + 1) ≤ 2 * (2 ^ 128 * 2 ^ 149) := by
    have a1 := Fl.fin_mono_le 23 (show j ≤ 255 * 2 ^ 23 by omega)
    have a2 := Fl.fin_mono_le 23 (show j + 1 ≤ 255 * 2 ^ 23 by omega)
    rw [Fl.fin_inf32] at a1 a2
    omega
   have e4 := hq.high
   have e5 := Nat.mul_le_mul_right (Fl.decD q) e3
   have e6 : Fl.decN 149 n q ≤ 2 ^ 128 * 2 ^ 149 * Fl.decD q := by
    rw [Nat.mul_assoc 2] at e5
    omega
   have e7 := Nat.mul_le_mul_right (2 ^ 925) e6
   rw [e1, e2]
   refine Nat.le_trans e7 (Nat.le_of_eq ?_)
   rw [Nat.mul_right_comm, ← Nat.pow_add, ← Nat.pow_add]
  exact Nat.lt_of_le_of_lt hle (by decide)
 obtain ⟨g64, g1, g2, g3⟩ := conv_up s k' hk9
 have hdn := conv_down s k64 k' hlt hk' hk9
 have hne := numText_ne hn
 have hcl := num64 (decide (9223372036854775808 ≤ f)) (f % 9223372036854775808) hfin
 rw [← split64 f hf] at hcl
 refine ⟨T, sgn64 s + g64, ?_, fun form ev e w hw => ⟨fun w' hk => (given_2 false 0 0 f noS _ f e hc hd w').mono fun en w2 h => ⟨⟨_, h.1, rfl⟩, h.2⟩, fun w' y hk hy => by subst hy; exact marshal_2_num ev form f T hcl.1 hcl.2.1 hcl.2.2 w' (fun w2 hk2 => hF w2 (hw.keeps (hk.trans hk2 (fun _ _ h => h)))), fun _ _ _ _ h => h⟩,
  fun form L b off w hw => ⟨fun w' V hk hv => (unmarshal_2_num (.iface 61 V) form (mk T) (sgn64 s + k64) _ _ hne.1 hne.2.1 hne.2.2 hdn g3 w' (fun w2 hk2 => parseFloat_near PT hok s T n q hn hT k64 hlt hk64 b off w2 (hw.keeps (hk.trans hk2 (fun _ _ h => h))))).mono fun en w2 h => ⟨⟨_, _, _, _, _, _, h.1, rfl, rfl, rfl, rfl, rfl, rfl⟩, h.2⟩,
   fun w' t nn ss ba bn bc hk hr => by obtain ⟨rfl, rfl, rfl, rfl, rfl, rfl⟩ := hr; exact (plain_2 (sgn64 s + g64) w').mono fun en w2 h => ⟨⟨_, h.1, rfl⟩, h.2⟩, fun _ _ _ _ _ _ _ _ _ h => h⟩⟩
 by_cases hjk : k' = j
 · left
   subst hjk
   have := (g3 default).symm.trans (hd default)
   injection this with h9 _
   injection h9 with _ h9
 · right
   refine ⟨_, _, hc, fun w => conv_down s g64 k' g1 ?_ hk9 w, m3, (mod32 s k' (by omega)).2.2, ?_⟩
   · rw [g2]; exact Fl.Near.of_fin 23 k' _ (Nat.two_pow_pos _)
   · omega
end Go.Proofs.YtonegoemmologaaGreatDoor
namespace Go.Proofs.YtonegoemmologaaGreatDoor
open Go.RowKit
def SameF (f g : Nat) : Bool := ((f : Int) == (g : Int)) || (Nan64 f && Nan64 g)
theorem mf32bits_run (f : Nat) (w : World) : (callFunc 24 #[.float .f32 f]).run Tryz.prog w = .ok (.value (.int .u32 (f : Int))) w := by
 rw [run_callFunc_extern Tryz.func24 (e := Extern.MathFloatBits.float32bits) (by kernel_rfl) (by kernel_rfl) (by kernel_rfl) (by kernel_rfl)]
 rfl
set_option maxRecDepth 1000000 in
set_option maxHeartbeats 8000000 in
theorem same_any (f g : Nat) (w : World) : Calls Tryz.prog 9 #[.int .u64 (f : Int), .int .u64 (g : Int)] w fun e w' => e = .returned (.bool (SameF f g)) ∧ Keeps (fun _ => False) w w' := by
 have hf := f64of_run f
 have hg := f64of_run g
 unfold SameF Nan64
 go_enter Tryz.func9, Tryz.ntmps9
 go_wp2_with (fail)
 all_goals go_ret
 all_goals first | exact ⟨rfl, Keeps.refl _ _⟩ | (refine ⟨?_, Keeps.refl _ _⟩; simp_all)
set_option maxRecDepth 1000000 in
set_option maxHeartbeats 8000000 in
theorem near_any (f g r r' : Nat) (hs : SameF f g = false) (hr : ∀ w, (convert 83 85 (.float .f64 f)).run Tryz.prog w = .ok (.float .f32 r) w) (hr' : ∀ w, (convert 83 85 (.float .f64 g)).run Tryz.prog w = .ok (.float .f32 r') w)
 (h1 : r < 4294967296) (h2 : r' < 4294967296) (h : r' = r + 1 ∨ r = r' + 1) (w : World) : Calls Tryz.prog 10 #[.int .u64 (f : Int), .int .u64 (g : Int)] w fun e w' => e = .returned (.bool true) ∧ Keeps (fun _ => False) w w' := by
 have hf := f64of_run f
 have hg := f64of_run g
 have hb := mf32bits_run r
 have hb' := mf32bits_run r'
 have b1 : (r : Int) ≤ 4294967295 := by omega
 have b2 : (r' : Int) ≤ 4294967295 := by omega
 have b3 : 0 ≤ (r : Int) := by omega
 have b4 : 0 ≤ (r' : Int) := by omega
 have HS := Lib.hid (same_any f g)
 rw [hs] at HS
 have HH := Lib.hid h
 clear hs h
 go_enter Tryz.func10, Tryz.ntmps10
 go_wp2_with (go_at_call 9; (with_reducible refine (HS.out _).mono ?_); rintro en w2 ⟨rfl, k2⟩; have HK := Lib.hid k2; clear k2)
 all_goals go_ret
 all_goals refine ⟨?_, HK.out⟩
 all_goals (have := HH.out; first | rfl | (simp; omega) | simp_all)
end Go.Proofs.YtonegoemmologaaGreatDoor
namespace Go.Proofs.YtonegoemmologaaGreatDoor
open Go.RowKit
def FieldOk (S : Sch) (f : FT) : Prop := (1 ≤ f.name.size ∧ sortK f.kind ≠ 0 ∧ f.kind ≠ 10) ∧ (sortK f.kind = 7 → 0 ≤ f.type ∧ f.type < S.enums.length) ∧ (sortK f.kind = 8 → 0 ≤ f.type ∧ f.type < S.msgs.length)
set_option maxRecDepth 1000000 in
set_option maxHeartbeats 8000000 in
theorem mapFits_tells (f : FT) (x y : Value) (S : Sch) (w : World) (h : SchAt w x y S) (hr : f.kind = 11 → 0 ≤ f.type ∧ f.type < S.msgs.length) :
 Calls Tryz.prog 66 #[.agg #[x, y], .agg #[.string f.name, .int .i64 f.number, .int .i64 f.kind, .bool f.rep, .bool f.map, .int .i64 f.type]] w (Tells w True) := by
 obtain ⟨name, number, kind, rep, map, type⟩ := f
 simp only at hr ⊢
 obtain ⟨a, c, hfv, hca, hma⟩ := h.1.len
 obtain ⟨a2, c2, hfu, _, _⟩ := h.2.len
 obtain ⟨n, hnn⟩ : ∃ n, S.msgs.length = n := ⟨_, rfl⟩
 obtain ⟨n2, hn2⟩ : ∃ n, S.enums.length = n := ⟨_, rfl⟩
 rw [hnn] at hfv hr hca
 rw [hn2] at hfu
 subst hfv hfu
 unfold maxLen at hma
 have HNN := Lib.hid hnn
 clear hnn hn2
 cases rep with
 | false =>
  go_enter Tryz.func66, Tryz.ntmps66
  go_wp2
  go_ret
  exact Tells.no (((Keeps.refl _ w).alloc _).alloc _)
 | true =>
  by_cases h11 : kind = 11
  · subst h11
    obtain ⟨r1, r2⟩ := hr rfl
    obtain ⟨t, rfl⟩ : ∃ t : Nat, type = (t : Int) := ⟨type.toNat, by omega⟩
    have htn : t < S.msgs.length := by rw [HNN.out]; omega
    have h1 := h.1.keeps (((Keeps.refl (fun _ => False) w).alloc (.cells #[.slice a n c, .slice a2 n2 c2] 25)).alloc (.cells #[.string name, .int .i64 number, .int .i64 11, .bool true, .bool map, .int .i64 (t : Int)] 33))
    obtain ⟨b, off, rfl, hcell⟩ := h1.cells (by intro e; rw [e] at htn; simp at htn)
    obtain ⟨fv, e0, e1, hfv⟩ := hcell t htn
    obtain ⟨af, cf, hff, hcf, hmf⟩ := hfv.len
    obtain ⟨nf, hnf⟩ : ∃ nf, S.msgs[t].fields.length = nf := ⟨_, rfl⟩
    rw [hnf] at hff hcf
    subst hff
    unfold maxLen at hmf
    by_cases hn2 : nf = 2
    · subst hn2
      obtain ⟨bf, of, rfl, hfc⟩ := hfv.cells (by intro e; rw [e] at hnf; simp at hnf)
      obtain ⟨p0, p1, p2, p3, p4, p5⟩ := hfc 0 (by omega)
      obtain ⟨q0, q1, q2, q3, q4, q5⟩ := hfc 1 (by omega)
      obtain ⟨s0, hs0⟩ : ∃ s, (S.msgs[t].fields[0]'(by omega)).name = s := ⟨_, rfl⟩
      obtain ⟨s1, hs1⟩ : ∃ s, (S.msgs[t].fields[1]'(by omega)).name = s := ⟨_, rfl⟩
      obtain ⟨k0, hk0⟩ : ∃ s, (S.msgs[t].fields[0]'(by omega)).kind = s := ⟨_, rfl⟩
      obtain ⟨r0, hr0⟩ : ∃ s, (S.msgs[t].fields[0]'(by omega)).rep = s := ⟨_, rfl⟩
      obtain ⟨r1', hr1⟩ : ∃ s, (S.msgs[t].fields[1]'(by omega)).rep = s := ⟨_, rfl⟩
      rw [hs0] at p0
      rw [hk0] at p2
      rw [hr0] at p3
      rw [hs1] at q0
      rw [hr1] at q3
      simp only [Nat.zero_mul, Nat.one_mul, Nat.add_zero] at p0 p2 p3 q0 q3
      have HFV := Lib.hid hfv
      clear hfc hcell hfv e0 p1 p4 p5 q1 q2 q4 q5 h1 h hr hs0 hs1 hk0 hr0 hr1 hnf
      cases r0 <;> cases r1'
      all_goals
       go_enter Tryz.func66, Tryz.ntmps66
       go_wp2_with (go_at_call 65; refine (sortOf_any k0 _).mono ?_; rintro e w' ⟨rfl, rfl⟩; obtain ⟨sk, hsk⟩ : ∃ sk, sortK k0 = sk := ⟨_, rfl⟩; rw [hsk]; clear hsk)
       all_goals go_ret
       all_goals exact ⟨_, rfl, fun _ => trivial, ((Keeps.refl _ w).alloc _).alloc _⟩
    · have hne : ((nf : Int) != 2) = true := by simp; omega
      have hne2 : ((nf : Int) == 2) = false := by simp; omega
      clear hcell hfv h1 h hr e0 hnf
      go_enter Tryz.func66, Tryz.ntmps66
      go_wp2
      go_ret
      exact Tells.no (((Keeps.refl _ w).alloc _).alloc _)
  · have hne : (kind != 11) = true := by simp [h11]
    have hne2 : (kind == 11) = false := by simp [h11]
    clear hr h
    go_enter Tryz.func66, Tryz.ntmps66
    go_wp2
    go_ret
    exact Tells.no (((Keeps.refl _ w).alloc _).alloc _)
set_option maxRecDepth 1000000 in
set_option maxHeartbeats 8000000 in
theorem fieldFits_tells (f : FT) (x y : Value) (S : Sch) (w : World) (h : SchAt w x y S) (hb : FTBound f) :
 Calls Tryz.prog 28 #[.agg #[x, y], .agg #[.string f.name, .int .i64 f.number, .int .i64 f.kind, .bool f.rep, .bool f.map, .int .i64 f.type]] w (Tells w (FieldOk S f)) := by
 have hmf := mapFits_tells f x y S
 obtain ⟨name, number, kind, rep, map, type⟩ := f
 unfold FieldOk
 simp only [FTBound] at hb hmf ⊢
 obtain ⟨a, c, hfv, _, _⟩ := h.1.len
 obtain ⟨a2, c2, hfu, _, _⟩ := h.2.len
 obtain ⟨n, hnn⟩ : ∃ n, S.msgs.length = n := ⟨_, rfl⟩
 obtain ⟨n2, hn2⟩ : ∃ n, S.enums.length = n := ⟨_, rfl⟩
 rw [hnn] at hfv hmf ⊢
 rw [hn2] at hfu ⊢
 subst hfv hfu
 have HM := Lib.hid hmf
 have HH := Lib.hid h
 clear hnn hn2 hmf h
 have hid := ident_tells name hb
 have HID := Lib.hid hid
 obtain ⟨W2, hW2⟩ : ∃ W, (w.alloc (.cells #[.slice a n c, .slice a2 n2 c2] 25)).alloc (.cells #[.string name, .int .i64 number, .int .i64 kind, .bool rep, .bool map, .int .i64 type] 33) = W := ⟨_, rfl⟩
 have hk2 : Keeps (fun _ => False) w W2 := by rw [← hW2]; exact ((Keeps.refl _ w).alloc _).alloc _
 have hR1 : W2.heap[w.heap.size]? = some (.cells #[.slice a n c, .slice a2 n2 c2] 25 (0, 0)) := by rw [← hW2]; exact heap_alloc2_old w _ _
 have hR2 : W2.heap[w.heap.size + 1]? = some (.cells #[.string name, .int .i64 number, .int .i64 kind, .bool rep, .bool map, .int .i64 type] 33 (0, 0)) := by rw [← hW2]; exact heap_alloc2_new w _ _
 have HK2 := Lib.hid hk2
 have HW2 := Lib.hid hW2
 clear hk2 hid hW2
 obtain ⟨sk, hsk⟩ : ∃ sk, sortK kind = sk := ⟨_, rfl⟩
 have h11 : kind = 11 → sk = 8 := fun e => by rw [← hsk, e]; rfl
 have HSK := Lib.hid hsk
 have H11 := Lib.hid h11
 rw [hsk]
 clear hsk h11 hb
 obtain ⟨T, hT⟩ : ∃ T : Prop, ((1 ≤ name.size ∧ sk ≠ 0 ∧ kind ≠ 10) ∧ (sk = 7 → 0 ≤ type ∧ type < (n2 : Int)) ∧ (sk = 8 → 0 ≤ type ∧ type < (n : Int))) = T := ⟨_, rfl⟩
 have HT := Lib.hid hT
 rw [hT]
 clear hT
 go_enter Tryz.func28, Tryz.ntmps28
 go_wp2_with (fail)
 rw [HW2.out]
 refine (HID.out W2).mono ?_
 rintro e w3 ⟨b1, rfl, hb1, hk3⟩
 have hR13 := hk3.row hR1 id
 have hR23 := hk3.row hR2 id
 have HK3 := Lib.hid (HK2.out.trans hk3 (fun _ _ => id))
 have s0 := cell_row (j := 0) hR13
 have s1 := cell_row (j := 1) hR13
 have f0 := cell_row (j := 0) hR23
 have f1 := cell_row (j := 1) hR23
 have f2 := cell_row (j := 2) hR23
 have f3 := cell_row (j := 3) hR23
 have f4 := cell_row (j := 4) hR23
 have f5 := cell_row (j := 5) hR23
 simp at s0 s1 f0 f1 f2 f3 f4 f5
 have HB1 := Lib.hid hb1
 clear hk3 hR13 hR23 hR1 hR2 hb1
 cases b1 with
 | false =>
  go_wp2
  go_ret
  exact Tells.no HK3.out
 | true =>
  have harm : Hid (∀ w', Keeps (fun _ => False) w w' → (kind = 11 → 0 ≤ type ∧ type < (n : Int)) → Calls Tryz.prog 66 #[.agg #[.slice a n c, .slice a2 n2 c2], .agg #[.string name, .int .i64 number, .int .i64 kind, .bool rep, .bool map, .int .i64 type]] w' (Tells w' True)) := fun w' hk hr => HM.out w' (HH.out.keeps hk) hr
  by_cases h10 : kind = 10
  · subst h10
    go_wp2_with (fail)
    all_goals go_ret
    all_goals exact Tells.no HK3.out
  have e10 : (kind == 10) = false := by simp [h10]
  by_cases g0 : sk = 0
  · subst g0
    go_wp2_with (go_at_call 65; refine (sortOf_any kind _).mono ?_; rintro e w' ⟨rfl, rfl⟩; rw [HSK.out])
    all_goals go_ret
    all_goals exact Tells.no HK3.out
  · by_cases g7 : sk = 7
    · subst g7
      cases map
      all_goals
       go_wp2_with (first
        | (go_at_call 65; refine (sortOf_any kind _).mono ?_; rintro e w' ⟨rfl, rfl⟩; rw [HSK.out])
        | (go_at_call 66; refine (harm.out _ HK3.out (fun e => by have h := H11.out e; omega)).mono ?_; rintro e w4 ⟨b4, rfl, _, hk4⟩; have HK4 := Lib.hid (HK3.out.trans hk4 (fun _ _ => id)); clear hk4; cases b4))
       all_goals go_ret
       all_goals first
        | exact Tells.no HK3.out
        | exact Tells.no HK4.out
        | exact Tells.yes (by rw [← HT.out]; exact ⟨⟨HB1.out (by first | rfl | trivial), by omega, h10⟩, fun _ => ⟨by omega, by omega⟩, fun h => by omega⟩) HK3.out
        | exact Tells.yes (by rw [← HT.out]; exact ⟨⟨HB1.out (by first | rfl | trivial), by omega, h10⟩, fun _ => ⟨by omega, by omega⟩, fun h => by omega⟩) HK4.out
    · by_cases g8 : sk = 8
      · subst g8
        cases map
        all_goals
         go_wp2_with (first
          | (go_at_call 65; refine (sortOf_any kind _).mono ?_; rintro e w' ⟨rfl, rfl⟩; rw [HSK.out])
          | (go_at_call 66; refine (harm.out _ HK3.out (fun e => by omega)).mono ?_; rintro e w4 ⟨b4, rfl, _, hk4⟩; have HK4 := Lib.hid (HK3.out.trans hk4 (fun _ _ => id)); clear hk4; cases b4))
         all_goals go_ret
         all_goals first
          | exact Tells.no HK3.out
          | exact Tells.no HK4.out
          | exact Tells.yes (by rw [← HT.out]; exact ⟨⟨HB1.out (by first | rfl | trivial), by omega, h10⟩, fun h => by omega, fun _ => ⟨by omega, by omega⟩⟩) HK3.out
          | exact Tells.yes (by rw [← HT.out]; exact ⟨⟨HB1.out (by first | rfl | trivial), by omega, h10⟩, fun h => by omega, fun _ => ⟨by omega, by omega⟩⟩) HK4.out
      · have e0 : (sk == 0) = false := by simp [g0]
        have e7 : (sk == 7) = false := by simp [g7]
        have e8 : (sk == 8) = false := by simp [g8]
        cases map
        all_goals
         go_wp2_with (first
          | (go_at_call 65; refine (sortOf_any kind _).mono ?_; rintro e w' ⟨rfl, rfl⟩; rw [HSK.out])
          | (go_at_call 66; refine (harm.out _ HK3.out (fun e => absurd (H11.out e) g8)).mono ?_; rintro e w4 ⟨b4, rfl, _, hk4⟩; have HK4 := Lib.hid (HK3.out.trans hk4 (fun _ _ => id)); clear hk4; cases b4))
         all_goals go_ret
         all_goals first
          | exact Tells.no HK3.out
          | exact Tells.no HK4.out
          | exact Tells.yes (by rw [← HT.out]; exact ⟨⟨HB1.out (by first | rfl | trivial), by omega, h10⟩, fun h => absurd h g7, fun h => absurd h g8⟩) HK3.out
          | exact Tells.yes (by rw [← HT.out]; exact ⟨⟨HB1.out (by first | rfl | trivial), by omega, h10⟩, fun h => absurd h g7, fun h => absurd h g8⟩) HK4.out
end Go.Proofs.YtonegoemmologaaGreatDoor
