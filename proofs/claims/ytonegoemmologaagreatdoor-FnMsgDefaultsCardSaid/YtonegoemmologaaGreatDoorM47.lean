/-
  A value that fits its kind: what DefMarshal writes of it, DefUnmarshal reads as the value.
  defaultOf at an enum.
  FnMsgDefaults: what a step of its loops asks for.
-/
import Derived.Test.YtonegoemmologaaGreatDoorM41
import Derived.Test.YtonegoemmologaaGreatDoorM46
import Derived.Deep.RegionHeld3
set_option linter.unusedVariables false
set_option linter.unusedSimpArgs false
namespace Go.Proofs.YtonegoemmologaaGreatDoor
open Go.RowKit
def Fine (k : Int) (f g : Nat) : Prop := SameF f g = true ∨ (k = 2 ∧ SameF f g = false ∧ ∀ w, Calls Tryz.prog 10 #[.int .u64 (f : Int), .int .u64 (g : Int)] w fun e w' => e = .returned (.bool true) ∧ Keeps (fun _ => False) w w')
structure DTabs (PT : Nat → Nat × Nat) (b off : Nat) (w : World) : Prop where
 ft : FT2 PT w
 ta : TA64 PT b off w
 tb : Tabs w
theorem DTabs.keeps {PT : Nat → Nat × Nat} {b off : Nat} {w w' : World} (h : DTabs PT b off w) (hk : Keeps (fun _ => False) w w') : DTabs PT b off w' := ⟨h.ft.keeps hk, h.ta.keeps hk, h.tb.keeps hk (fun _ _ h => h)⟩
def VSay (k form : Int) (b : Bool) (i u : Int) (f : Nat) (s E : ByteArray) (nv uv : Value) (w : World) : Prop := ∃ T : ByteArray,
 (∀ w', Keeps (fun _ => False) w w' → Calls Tryz.prog 7 #[.agg #[.int .i64 k, .bool b, .int .i64 i, .int .u64 u, .int .u64 (f : Int), .string s, .string E], .int .i64 form, nv, uv] w' fun en w2 => en = .returned (.tuple #[.string T, .bool true]) ∧ Keeps (fun _ => False) w' w2) ∧
 (∀ w', Keeps (fun _ => False) w w' → Calls Tryz.prog 8 #[.string T, .int .i64 k, .int .i64 form, nv, uv] w' fun en w2 => (∃ g : Nat, en = .returned (.tuple #[.agg #[.int .i64 k, .bool b, .int .i64 i, .int .u64 u, .int .u64 (g : Int), .string s, .string E], .bool true]) ∧ Fine k f g) ∧ Keeps (fun _ => False) w' w2)
theorem kinds_of {k : Int} (h : sortK k ≠ 0) : k = 8 ∨ k = 5 ∨ k = 3 ∨ k = 17 ∨ k = 18 ∨ k = 15 ∨ k = 16 ∨ k = 13 ∨ k = 4 ∨ k = 7 ∨ k = 6 ∨ k = 2 ∨ k = 1 ∨ k = 9 ∨ k = 12 ∨ k = 14 ∨ k = 11 ∨ k = 10 := by
 unfold sortK at h
 omega
theorem same_self (f : Nat) : SameF f f = true := by unfold SameF; simp
theorem same_nan (f g : Nat) (hf : IsNan64 f) (hg : IsNan64 g) : SameF f g = true := by
 unfold SameF
 rw [(nan64 f hf.2 hf.1).1, (nan64 g hg.2 hg.1).1]
 simp
theorem fine_nigh (f g : Nat) (h : Nigh f g) : Fine 2 f g := by
 rcases h with rfl | ⟨r, r', h1, h2, h3, h4, h5⟩
 · exact .inl (same_self _)
 · cases hs : SameF f g with
   | true => exact .inl hs
   | false => exact .inr ⟨rfl, hs, fun w => near_any f g r r' hs h1 h2 h3 h4 h5 w⟩
theorem strRows_nil (w : World) : StrRows w (.slice none 0 0) [] := ⟨none, 0, rfl, Nat.le_refl _, Nat.zero_le _, .inl rfl⟩
theorem i32Rows_nil (w : World) : I32Rows w (.slice none 0 0) [] := ⟨none, 0, rfl, Nat.le_refl _, Nat.zero_le _, .inl rfl⟩
theorem vsay_nil {k form : Int} {b : Bool} {i u : Int} {f : Nat} {s T : ByteArray} {R : World → Value → Prop} {R2 : World → Int → Int → ByteArray → Option Addr → Nat → Nat → Prop} {RF : Int → Prop} {w : World} (hk : IntKind.i8.wrap k = k)
 (hg : ∀ w', Keeps (fun _ => False) w w' → GM k form (iv k b i u (f : Int) s noS) (.iface 67 (.agg #[.string ⟨#[]⟩, .int .i32 0])) R T w')
 (hu : ∀ w', Keeps (fun _ => False) w w' → UP k form T (evs [] []) .nilIface b i u s R2 RF w') (hF : ∀ g, RF g → ∃ n : Nat, g = (n : Int) ∧ Fine k f n) : VSay k form b i u f s noS (.slice none 0 0) (.slice none 0 0) w :=
 ⟨T, fun w' hw => defMarshal_nil k form i _ u f b s noS T _ _ [] [] R rfl hk rfl (Nat.zero_le _) rfl w' (strRows_nil _) (i32Rows_nil _) (hg w' hw),
  fun w' hw => (defUnmarshal_nil k form i u b s T _ _ [] [] R2 RF hk rfl (Nat.zero_le _) w' (strRows_nil _) (i32Rows_nil _) (hu w' hw)).mono fun en w2 h => by
   obtain ⟨⟨g, h1, h2⟩, h3⟩ := h
   obtain ⟨n, rfl, h4⟩ := hF g h2
   exact ⟨⟨n, h1, h4⟩, h3⟩⟩
theorem byteArray_nil {s : ByteArray} (h : s.toList = []) : s = noS := by
 rw [ByteArray.toList_eq] at h
 obtain ⟨⟨l⟩⟩ := s
 exact congrArg mk h
theorem byteArray_len (s : ByteArray) : s.toList.length = s.size := by rw [ByteArray.toList_eq]; rfl
theorem mk_list (s : ByteArray) : mk s.toList = s := by rw [ByteArray.toList_eq]; exact mk_of s
theorem f64_cases (f : Nat) (hf : f < 18446744073709551616) : IsNan64 f ∨ f = 9218868437227405312 ∨ f = 18442240474082181120 ∨ f % 9223372036854775808 < 9218868437227405312 := by
 unfold IsNan64
 omega
theorem fin_eq (f : Nat) (hf : f < 18446744073709551616) (hfin : f % 9223372036854775808 < 9218868437227405312) : (FloatKind.f64.format.order f f != some Ordering.eq) = false := by
 have hsp := split64 f hf
 have h := Fl.order_word Ieee.double (decide (9223372036854775808 ≤ f)) (decide (9223372036854775808 ≤ f)) 52 1074 (f % 9223372036854775808) (f % 9223372036854775808) rfl rfl (by rw [inf64]; exact hfin) (by rw [inf64]; exact hfin)
 rw [word64, ← hsp] at h
 show (Ieee.double.order f f != some Ordering.eq) = false
 rw [h]
 simp [Std.ReflCmp.compare_self]
theorem fine0 (k : Int) : ∀ g : Int, g = 0 → ∃ n : Nat, g = (n : Int) ∧ Fine k 0 n := fun g h => ⟨0, h, .inl (same_self 0)⟩
theorem evF_num (i : Int) : ∀ (numbers : List Int) (names : List ByteArray), (∀ x ∈ numbers, -2147483648 ≤ x ∧ x ≤ 2147483647) → enumN numbers names i ≠ ⟨#[]⟩ →
 evF (fun e => e.num == i) (evs names numbers) = .iface 67 (.agg #[.string (enumN numbers names i), .int .i32 i])
 | [], _, _, h => absurd rfl h
 | _ :: _, [], _, h => absurd rfl h
 | x :: xs, nm :: nms, hr, h => by
  have hx := hr x (List.mem_cons_self ..)
  have hw : wrap64 x = x := by unfold wrap64; omega
  have ih := evF_num i xs nms (fun y hy => hr y (List.mem_cons_of_mem _ hy))
  have e1 : enumN (x :: xs) (nm :: nms) i = if (wrap64 x == i) = true then nm else enumN xs nms i := rfl
  rw [e1, hw] at h ⊢
  by_cases c : x = i
  · subst c
    simp [evF, evs, evv]
  · have c' : (x == i) = false := by simpa using c
    rw [c'] at h ⊢
    simp only [Bool.false_eq_true, if_false] at h ⊢
    rw [← ih h]
    unfold evF evs
    rw [List.zipWith_cons_cons, List.find?_cons]
    simp [c']
theorem enumN_where (i : Int) : ∀ (numbers : List Int) (names : List ByteArray), (∀ x ∈ numbers, -2147483648 ≤ x ∧ x ≤ 2147483647) → enumN numbers names i ≠ ⟨#[]⟩ →
 ∃ j : Nat, numbers[j]? = some i ∧ names[j]? = some (enumN numbers names i)
 | [], _, _, h => absurd rfl h
 | _ :: _, [], _, h => absurd rfl h
 | x :: xs, nm :: nms, hr, h => by
  have hx := hr x (List.mem_cons_self ..)
  have hw : wrap64 x = x := by unfold wrap64; omega
  have ih := enumN_where i xs nms (fun y hy => hr y (List.mem_cons_of_mem _ hy))
  have e1 : enumN (x :: xs) (nm :: nms) i = if (wrap64 x == i) = true then nm else enumN xs nms i := rfl
  rw [e1, hw] at h ⊢
  by_cases c : x = i
  · subst c
    exact ⟨0, rfl, by simp⟩
  · have c' : (x == i) = false := by simpa using c
    rw [c'] at h ⊢
    simp only [Bool.false_eq_true, if_false] at h ⊢
    obtain ⟨j, h1, h2⟩ := ih h
    exact ⟨j + 1, h1, h2⟩
theorem ba_beq (a b : ByteArray) : (a == b) = decide (a = b) := by
 rcases a with ⟨a⟩
 rcases b with ⟨b⟩
 show (a == b) = _
 by_cases h : a = b <;> simp [h]
theorem find_name (nm : ByteArray) (i : Int) : ∀ (j : Nat) (names : List ByteArray) (numbers : List Int), names[j]? = some nm → numbers[j]? = some i → (∀ m, m < j → names[m]? ≠ some nm) →
 evF (fun e => e.name == nm) (evs names numbers) = .iface 67 (.agg #[.string nm, .int .i32 i])
 | _, [], _, h, _, _ => by simp at h
 | _, _ :: _, [], _, h, _ => by simp at h
 | 0, a :: l, x :: xs, h1, h2, _ => by
  simp at h1 h2
  subst h1 h2
  simp [evF, evs, evv, ba_beq]
 | j + 1, a :: l, x :: xs, h1, h2, h3 => by
  have ih := find_name nm i j l xs (by simpa using h1) (by simpa using h2) (fun m hm => by have := h3 (m + 1) (by omega); simpa using this)
  have c : a ≠ nm := by have := h3 0 (by omega); simpa using this
  have c' : (a == nm) = false := by rw [ba_beq]; simpa using c
  rw [← ih]
  unfold evF evs
  rw [List.zipWith_cons_cons, List.find?_cons]
  simp [c']
theorem vsay_enum (PT : Nat → Nat × Nat) (B off : Nat) (form : Int) (b : Bool) (i : Int) (u f : Nat) (s : ByteArray) (w : World) (hT : DTabs PT B off w) (E : ET) (nv uv : Value)
 (hl : E.names.length = E.numbers.length) (hl50 : E.names.length ≤ 50) (hd : EDist E E.names.length) (hr : ∀ x ∈ E.numbers, -2147483648 ≤ x ∧ x ≤ 2147483647) (h1 : StrRows w nv E.names) (h2 : I32Rows w uv E.numbers)
 (hform : form = 1 ∨ form = 2) (hc : VClean 14 b i u f s) (hne : enumN E.numbers E.names i ≠ ⟨#[]⟩) : VSay 14 form b i (u : Int) f s (enumN E.numbers E.names i) nv uv w := by
 have ht : ∀ w', Keeps (fun _ => False) w w' → DTabs PT B off w' := fun w' h => hT.keeps h
 obtain ⟨c1, c2, c3, c4, c5, c6⟩ := hc
 obtain rfl := c1 (by decide)
 obtain rfl := c3 (by decide)
 obtain rfl := c4 (by decide)
 obtain rfl : s = noS := byteArray_nil (c5 (by decide) (by decide))
 have hi := (c6 (by decide)).1 (Or.inr (by decide))
 have hn : IntKind.i32.wrap i = i := by rw [IntKind.wrap_i32]; omega
 have hx := evF_num i E.numbers E.names hr hne
 obtain ⟨j, hj1, hj2⟩ := enumN_where i E.numbers E.names hr hne
 obtain ⟨nm, hnm⟩ : ∃ nm, enumN E.numbers E.names i = nm := ⟨_, rfl⟩
 rw [hnm] at hx hj2 ⊢
 have hjl : j < E.names.length := by
  rcases Nat.lt_or_ge j E.names.length with h | h
  · exact h
  · rw [List.getElem?_eq_none h] at hj2; cases hj2
 have hy : evF (fun e => e.name == nm) (evs E.names E.numbers) = .iface 67 (.agg #[.string nm, .int .i32 i]) :=
  find_name nm i j E.names E.numbers hj2 hj1 (fun m hm e => ((hd j hjl) m hm).1 _ _ hj2 e rfl)
 have hb : E.names.length ≤ 100000000 := by omega
 have hL : (evs E.names E.numbers).length ≤ 100000000 := by unfold evs; rw [List.length_zipWith]; omega
 have z0 : ∀ g : Int, g = 0 → ∃ n : Nat, g = (n : Int) ∧ Fine 14 0 n := fine0 14
 rcases hform with rfl | rfl
 · refine ⟨nm, fun w' hw => defMarshal_hit 14 1 i i _ _ false noS nm nm nv uv E.names E.numbers _ _ hn (by decide) hl hb hx w' (h1.keeps hw) (h2.keeps hw) (gm_14_1 nm i hi.1 hi.2 nm w'),
    fun w' hw => (defUnmarshal_hit 14 1 i _ false noS nm nv uv E.names E.numbers nm i _ _ (by decide) hl hb w' (h1.keeps hw) (h2.keeps hw) (up_14_1 _ hL nm i hi.1 hi.2 hy w')).mono fun en w2 h => ?_⟩
   obtain ⟨⟨g, h1, h2⟩, h3⟩ := h
   obtain ⟨n, rfl, h4⟩ := z0 g h2
   exact ⟨⟨n, h1, h4⟩, h3⟩
 · refine ⟨mk (Lib.itoa i), fun w' hw => defMarshal_hit 14 2 i i _ _ false noS nm _ nv uv E.names E.numbers _ _ hn (by decide) hl hb hx w' (h1.keeps hw) (h2.keeps hw) (gm_14_2 _ i hi.1 hi.2 nm w' (ht w' hw).ft.ten),
    fun w' hw => (defUnmarshal_hit 14 2 i _ false noS _ nv uv E.names E.numbers nm i _ _ (by decide) hl hb w' (h1.keeps hw) (h2.keeps hw) (up_14_2 _ hL nm i hi.1 hi.2 hx w')).mono fun en w2 h => ?_⟩
   obtain ⟨⟨g, h1, h2⟩, h3⟩ := h
   obtain ⟨n, rfl, h4⟩ := z0 g h2
   exact ⟨⟨n, h1, h4⟩, h3⟩
set_option maxHeartbeats 4000000 in
theorem vsay_any (PT : Nat → Nat × Nat) (hok : PTOk PT) (B off : Nat) (k form : Int) (b : Bool) (i : Int) (u f : Nat) (s : ByteArray) (w : World) (hT : DTabs PT B off w)
 (h0 : sortK k ≠ 0) (h10 : k ≠ 10) (h11 : k ≠ 11) (h14 : k ≠ 14) (hform : form = 1 ∨ form = 2) (hc : VClean k b i u f s) (hs : s.size ≤ 1000) (hF : k = 2 → FOk f)
 (hi1 : -9223372036854775808 ≤ i) (hi2 : i ≤ 9223372036854775807) (hu : u < 18446744073709551616) (hf : f < 18446744073709551616) :
 VSay k form b i (u : Int) f s noS (.slice none 0 0) (.slice none 0 0) w := by
 have ht : ∀ w', Keeps (fun _ => False) w w' → DTabs PT B off w' := fun w' h => hT.keeps h
 obtain ⟨c1, c2, c3, c4, c5, c6⟩ := hc
 have hsn : sortK k ≠ 5 → sortK k ≠ 6 → s = noS := fun a b => byteArray_nil (c5 a b)
 rcases kinds_of h0 with rfl | rfl | rfl | rfl | rfl | rfl | rfl | rfl | rfl | rfl | rfl | rfl | rfl | rfl | rfl | rfl | rfl | rfl
 · -- bool
   obtain rfl := c2 (by decide) (by decide)
   obtain rfl := c3 (by decide)
   obtain rfl := c4 (by decide)
   obtain rfl := hsn (by decide) (by decide)
   rcases hform with rfl | rfl <;> cases b
   · exact vsay_nil (by decide) (fun w' h => gm_8_1_false _ noS w' (ht w' h).ft.ten) (fun w' h => up_8_1_false _ w') (fine0 _)
   · exact vsay_nil (by decide) (fun w' h => gm_8_1_true _ noS w' (ht w' h).ft.ten) (fun w' h => up_8_1_true _ w') (fine0 _)
   · exact vsay_nil (by decide) (fun w' h => gm_8_2_false _ noS w' (ht w' h).ft.ten) (fun w' h => up_8_2_false _ w') (fine0 _)
   · exact vsay_nil (by decide) (fun w' h => gm_8_2_true _ noS w' (ht w' h).ft.ten) (fun w' h => up_8_2_true _ w') (fine0 _)
 · -- 5
   obtain rfl := c1 (by decide)
   obtain rfl := c3 (by decide)
   obtain rfl := c4 (by decide)
   obtain rfl := hsn (by decide) (by decide)
   have hr := (c6 (by decide)).1 (Or.inl (by decide))
   exact vsay_nil (by decide) (fun w' h => gm_5 form _ i hr.1 hr.2 noS w' (ht w' h).ft.ten) (fun w' h => up_5 form _ i hr.1 hr.2 w') (fine0 _)
 · -- 3
   obtain rfl := c1 (by decide)
   obtain rfl := c3 (by decide)
   obtain rfl := c4 (by decide)
   obtain rfl := hsn (by decide) (by decide)
   exact vsay_nil (by decide) (fun w' h => gm_3 form _ i hi1 hi2 noS w' (ht w' h).ft.ten) (fun w' h => up_3 form _ i hi1 hi2 w') (fine0 _)
 · -- 17
   obtain rfl := c1 (by decide)
   obtain rfl := c3 (by decide)
   obtain rfl := c4 (by decide)
   obtain rfl := hsn (by decide) (by decide)
   have hr := (c6 (by decide)).1 (Or.inl (by decide))
   exact vsay_nil (by decide) (fun w' h => gm_17 form _ i hr.1 hr.2 noS w' (ht w' h).ft.ten) (fun w' h => up_17 form _ i hr.1 hr.2 w') (fine0 _)
 · -- 18
   obtain rfl := c1 (by decide)
   obtain rfl := c3 (by decide)
   obtain rfl := c4 (by decide)
   obtain rfl := hsn (by decide) (by decide)
   exact vsay_nil (by decide) (fun w' h => gm_18 form _ i hi1 hi2 noS w' (ht w' h).ft.ten) (fun w' h => up_18 form _ i hi1 hi2 w') (fine0 _)
 · -- 15
   obtain rfl := c1 (by decide)
   obtain rfl := c3 (by decide)
   obtain rfl := c4 (by decide)
   obtain rfl := hsn (by decide) (by decide)
   have hr := (c6 (by decide)).1 (Or.inl (by decide))
   exact vsay_nil (by decide) (fun w' h => gm_15 form _ i hr.1 hr.2 noS w' (ht w' h).ft.ten) (fun w' h => up_15 form _ i hr.1 hr.2 w') (fine0 _)
 · -- 16
   obtain rfl := c1 (by decide)
   obtain rfl := c3 (by decide)
   obtain rfl := c4 (by decide)
   obtain rfl := hsn (by decide) (by decide)
   exact vsay_nil (by decide) (fun w' h => gm_16 form _ i hi1 hi2 noS w' (ht w' h).ft.ten) (fun w' h => up_16 form _ i hi1 hi2 w') (fine0 _)
 · -- 13
   obtain rfl := c1 (by decide)
   obtain rfl := c2 (by decide) (by decide)
   obtain rfl := c4 (by decide)
   obtain rfl := hsn (by decide) (by decide)
   exact vsay_nil (by decide) (fun w' h => gm_13 form _ u ((c6 (by decide)).2 (by decide)) noS w' (ht w' h).ft.ten) (fun w' h => up_13 form _ u ((c6 (by decide)).2 (by decide)) w') (fine0 _)
 · -- 4
   obtain rfl := c1 (by decide)
   obtain rfl := c2 (by decide) (by decide)
   obtain rfl := c4 (by decide)
   obtain rfl := hsn (by decide) (by decide)
   exact vsay_nil (by decide) (fun w' h => gm_4 form _ u hu noS w' (ht w' h).ft.ten) (fun w' h => up_4 form _ u hu w') (fine0 _)
 · -- 7
   obtain rfl := c1 (by decide)
   obtain rfl := c2 (by decide) (by decide)
   obtain rfl := c4 (by decide)
   obtain rfl := hsn (by decide) (by decide)
   exact vsay_nil (by decide) (fun w' h => gm_7 form _ u ((c6 (by decide)).2 (by decide)) noS w' (ht w' h).ft.ten) (fun w' h => up_7 form _ u ((c6 (by decide)).2 (by decide)) w') (fine0 _)
 · -- 6
   obtain rfl := c1 (by decide)
   obtain rfl := c2 (by decide) (by decide)
   obtain rfl := c4 (by decide)
   obtain rfl := hsn (by decide) (by decide)
   exact vsay_nil (by decide) (fun w' h => gm_6 form _ u hu noS w' (ht w' h).ft.ten) (fun w' h => up_6 form _ u hu w') (fine0 _)
 · -- float32
   obtain rfl := c1 (by decide)
   obtain rfl := c2 (by decide) (by decide)
   obtain rfl := c3 (by decide)
   obtain rfl := hsn (by decide) (by decide)
   rcases f64_cases f hf with hn | rfl | rfl | hfin
   · exact vsay_nil (by decide) (fun w' h => gm_2_nan form _ f hn noS w') (fun w' h => up_2_nan form _ w') (fun g h => by obtain ⟨n, h1, h2⟩ := h; exact ⟨n, h1, .inl (same_nan f n hn h2)⟩)
   · exact vsay_nil (by decide) (fun w' h => gm_2_infp form _ noS w' (ht w' h).ft.ten) (fun w' h => up_2_infp form _ w') (fun g h => ⟨_, h, .inl (same_self _)⟩)
   · exact vsay_nil (by decide) (fun w' h => gm_2_infm form _ noS w' (ht w' h).ft.ten) (fun w' h => up_2_infm form _ w') (fun g h => ⟨_, h, .inl (same_self _)⟩)
   · obtain ⟨sg, j, hj, hcv, hbk⟩ := short_word f hf hfin (hF rfl (fin_eq f hf hfin))
     obtain ⟨T, g, hg, hm, hun⟩ := num_2 PT hok f sg j hj hcv hbk hf hfin
     exact vsay_nil (by decide) (fun w' h => hm form _ noS w' (ht w' h).ft) (fun w' h => hun form _ B off w' (ht w' h).ta) (fun x h => ⟨g, h, fine_nigh f g hg⟩)
 · -- float64
   obtain rfl := c1 (by decide)
   obtain rfl := c2 (by decide) (by decide)
   obtain rfl := c3 (by decide)
   obtain rfl := hsn (by decide) (by decide)
   rcases f64_cases f hf with hn | rfl | rfl | hfin
   · exact vsay_nil (by decide) (fun w' h => gm_1_nan form _ f hn noS w' (ht w' h).ft.ten) (fun w' h => up_1_nan form _ w') (fun g h => by obtain ⟨n, h1, h2⟩ := h; exact ⟨n, h1, .inl (same_nan f n hn h2)⟩)
   · exact vsay_nil (by decide) (fun w' h => gm_1_infp form _ noS w' (ht w' h).ft.ten) (fun w' h => up_1_infp form _ w') (fun g h => ⟨_, h, .inl (same_self _)⟩)
   · exact vsay_nil (by decide) (fun w' h => gm_1_infm form _ noS w' (ht w' h).ft.ten) (fun w' h => up_1_infm form _ w') (fun g h => ⟨_, h, .inl (same_self _)⟩)
   · obtain ⟨T, hm, hun⟩ := num_1 PT hok f hf hfin
     exact vsay_nil (by decide) (fun w' h => hm form _ noS w' (ht w' h).ft) (fun w' h => hun form _ B off w' (ht w' h).ta) (fun x h => ⟨f, h, .inl (same_self f)⟩)
 · -- string
   obtain rfl := c1 (by decide)
   obtain rfl := c2 (by decide) (by decide)
   obtain rfl := c3 (by decide)
   obtain rfl := c4 (by decide)
   exact vsay_nil (by decide) (fun w' h => gm_9 form _ s noS w' (ht w' h).ft.ten) (fun w' h => up_9 form _ s w') (fine0 _)
 · -- bytes
   obtain rfl := c1 (by decide)
   obtain rfl := c2 (by decide) (by decide)
   obtain rfl := c3 (by decide)
   obtain rfl := c4 (by decide)
   have hl : s.toList.length ≤ 100000 := by rw [byteArray_len]; omega
   have hm := mk_list s
   rw [← hm]
   exact vsay_nil (by decide) (fun w' h => gm_12 form _ s.toList hl noS w') (fun w' h => up_12 form _ s.toList hl w' (ht w' h).tb) (fine0 _)
 · exact absurd rfl h14
 · exact absurd rfl h11
 · exact absurd rfl h10
end Go.Proofs.YtonegoemmologaaGreatDoor
namespace Go.Proofs.YtonegoemmologaaGreatDoor
open Go.RowKit
theorem box5 (w : World) (o1 o2 o3 o4 o5 : Obj) (W : World) (h : ((((w.alloc o1).alloc o2).alloc o3).alloc o4).alloc o5 = W) : W.heap[w.heap.size]? = some o1 ∧ W.heap[w.heap.size + 1]? = some o2 ∧ W.heap[w.heap.size + 1 + 1]? = some o3 ∧ W.heap[w.heap.size + 1 + 1 + 1]? = some o4 ∧ W.heap[w.heap.size + 1 + 1 + 1 + 1]? = some o5 ∧ Keeps (fun _ => False) w W ∧ W.heap.size = w.heap.size + 1 + 1 + 1 + 1 + 1 := by
 subst h
 have hs : ∀ (w : World) (o : Obj), (w.alloc o).heap.size = w.heap.size + 1 := fun w o => by show (w.heap.push o).size = _; rw [Array.size_push]
 have st : ∀ (w : World) (o : Obj) (k : Nat) (x : Obj), w.heap[k]? = some x → (w.alloc o).heap[k]? = some x := fun w o k x h => by
  show (w.heap.push o)[k]? = _
  have hk : k < w.heap.size := by
   rcases Nat.lt_or_ge k w.heap.size with h' | h'
   · exact h'
   · rw [Array.getElem?_eq_none h'] at h; cases h
  rw [Array.getElem?_push_lt hk, ← Array.getElem?_eq_getElem hk, h]
 have n1 := heap_alloc_new w o1
 have n2 := heap_alloc_new (w.alloc o1) o2
 have n3 := heap_alloc_new ((w.alloc o1).alloc o2) o3
 have n4 := heap_alloc_new (((w.alloc o1).alloc o2).alloc o3) o4
 have n5 := heap_alloc_new ((((w.alloc o1).alloc o2).alloc o3).alloc o4) o5
 simp only [hs] at n2 n3 n4 n5
 refine ⟨st _ _ _ _ (st _ _ _ _ (st _ _ _ _ (st _ _ _ _ n1))), st _ _ _ _ (st _ _ _ _ (st _ _ _ _ n2)), st _ _ _ _ (st _ _ _ _ n3), st _ _ _ _ n4, n5, ((((((Keeps.refl _ w).alloc _).alloc _).alloc _).alloc _).alloc _), by simp only [hs]⟩
theorem drew_row' {w : World} {g : Nat} {o : Obj} (h : w.heap[g]? = some o) : w.drew.heap[g]? = some o := h
theorem set7_keeps (w : World) (K : Nat) (a b c d e f g : Value) : Keeps (fun k => k = K) w (((((((w.setCell ⟨K, 0, none⟩ a).setCell ⟨K, 1, none⟩ b).setCell ⟨K, 2, none⟩ c).setCell ⟨K, 3, none⟩ d).setCell ⟨K, 4, none⟩ e).setCell ⟨K, 5, none⟩ f).setCell ⟨K, 6, none⟩ g) := keeps7 w K a b c d e f g
set_option maxRecDepth 1000000 in
set_option maxHeartbeats 8000000 in
theorem defaultOf_enum (a1 a2 am : Option Addr) (n1 c1 n2 c2 nm cm : Nat) (nme : ByteArray) (num : Int) (ty : Nat) (rep mp b : Bool) (i u f : Int) (s : ByteArray) (w : World) (es : List ET) (hE : ETsAt w (.slice a2 n2 c2) es) (hty : ty < es.length) (hl : es[ty].names.length = es[ty].numbers.length) :
 Calls Tryz.prog 6 #[.agg #[.slice a1 n1 c1, .slice a2 n2 c2], .agg #[.string nme, .int .i64 num, .int .i64 14, .bool rep, .bool mp, .int .i64 (ty : Int)], .agg #[.bool b, .int .i64 i, .int .u64 u, .int .u64 f, .string s, .slice am nm cm]] w fun en w' =>
  (∃ nv uv, en = .returned (.tuple #[.agg #[.int .i64 14, .bool b, .int .i64 i, .int .u64 u, .int .u64 f, .string s, .string (enumN es[ty].numbers es[ty].names i)], nv, uv, .bool (!(enumN es[ty].numbers es[ty].names i).toList.isEmpty)]) ∧ StrRows w' nv es[ty].names ∧ I32Rows w' uv es[ty].numbers) ∧ Keeps (fun _ => False) w w' := by
 obtain ⟨_, _, he, hca, hma⟩ := hE.len
 cases he
 obtain ⟨B, off, rfl, hc⟩ := hE.cells (by intro e; rw [e] at hty; simp at hty)
 obtain ⟨nv, uv, d0, d1, d2, d3⟩ := hc ty hty
 obtain ⟨an, cn, rfl, _, _⟩ := d2.len
 obtain ⟨au, cu, rfl, _, _⟩ := d3.len
 obtain ⟨N, hN⟩ : ∃ N, es.length = N := ⟨_, rfl⟩
 have HN := Lib.hid (fun w' (hk : Keeps (fun _ => False) w w') => enumName_any _ _ _ _ hl i w' (d2.keeps hk) (d3.keeps hk))
 have H2 := Lib.hid (fun w' (hk : Keeps (fun _ => False) w w') => d2.keeps hk)
 have H3 := Lib.hid (fun w' (hk : Keeps (fun _ => False) w w') => d3.keeps hk)
 obtain ⟨R, hR⟩ : ∃ R, enumN es[ty].numbers es[ty].names i = R := ⟨_, rfl⟩
 obtain ⟨nms, hnms⟩ : ∃ n, es[ty].names = n := ⟨_, rfl⟩
 obtain ⟨nbs, hnbs⟩ : ∃ n, es[ty].numbers = n := ⟨_, rfl⟩
 rw [hR] at HN ⊢
 rw [hnms, hnbs] at HN
 rw [hnms] at H2 d0 ⊢
 rw [hnbs] at H3 d1 ⊢
 obtain ⟨nn, hnn⟩ : ∃ n, nms.length = n := ⟨_, rfl⟩
 obtain ⟨nu, hnu⟩ : ∃ n, nbs.length = n := ⟨_, rfl⟩
 rw [hnn] at HN H2 d0
 rw [hnu] at HN H3 d1
 rw [hN] at hca hty ⊢
 have HD0 := Lib.hid d0
 have HD1 := Lib.hid d1
 have t0 : (0 : Int) ≤ (ty : Int) := by omega
 have t1 : (ty : Int) < (N : Int) := by omega
 clear hE hc d2 d3 hR hnms hnbs hnn hnu d0 d1 hl hN hty
 obtain ⟨W5, hW5⟩ : ∃ W, ((((((w.alloc (.cells #[.slice a1 n1 c1, .slice (some ⟨B, off, none⟩) N c2] 25)).alloc (.cells #[.string nme, .int .i64 num, .int .i64 14, .bool rep, .bool mp, .int .i64 (ty : Int)] 33)).alloc (.cells #[.bool b, .int .i64 i, .int .u64 u, .int .u64 f, .string s, .slice am nm cm] 39)).alloc (.cells #[.int .i64 0, .bool false, .int .i64 0, .int .u64 0, .int .u64 0, .string ⟨#[]⟩, .string ⟨#[]⟩] 42)).alloc (.cells #[.int .i64 14, .bool b, .int .i64 i, .int .u64 u, .int .u64 f, .string s, .string ⟨#[]⟩] 42))) = W := ⟨_, rfl⟩
 obtain ⟨r0, r1, r2, r3, r4, hk5, hsz5⟩ := box5 w _ _ _ _ _ W5 hW5
 have HW5 := Lib.hid hW5
 have HK5 := Lib.hid hk5
 clear hW5
 go_enter Tryz.func6, Tryz.ntmps6
 go_upto_region 2 with (fail)
 rw [HW5.out]
 clear HW5
 obtain ⟨K0, hK0⟩ : ∃ K, w.heap.size = K := ⟨_, rfl⟩
 rw [hK0] at r0 r1 r2 r3 r4 hsz5 ⊢
 obtain ⟨K1, hK1⟩ : ∃ K, K0 + 1 = K := ⟨_, rfl⟩
 rw [hK1] at r1 r2 r3 r4 hsz5 ⊢
 obtain ⟨K2, hK2⟩ : ∃ K, K1 + 1 = K := ⟨_, rfl⟩
 rw [hK2] at r2 r3 r4 hsz5 ⊢
 obtain ⟨K3, hK3⟩ : ∃ K, K2 + 1 = K := ⟨_, rfl⟩
 rw [hK3] at r3 r4 hsz5 ⊢
 obtain ⟨K4, hK4⟩ : ∃ K, K3 + 1 = K := ⟨_, rfl⟩
 rw [hK4] at r4 hsz5 ⊢
 have HKS : Hid (w.heap.size ≤ K3 ∧ K3 < K4 ∧ W5.heap.size = K4 + 1) := by show _ ∧ _ ∧ _; omega
 have s1 := cell_row (j := 1) r0
 have f2 := cell_row (j := 2) r1
 have f5 := cell_row (j := 5) r1
 have v1 := cell_row (j := 1) r2
 have o0 := cell_row (j := 0) r4
 have o1 := cell_row (j := 1) r4
 have o2 := cell_row (j := 2) r4
 have o3 := cell_row (j := 3) r4
 have o4 := cell_row (j := 4) r4
 have o5 := cell_row (j := 5) r4
 have o6 := cell_row (j := 6) r4
 simp at s1 f2 f5 v1 o0 o1 o2 o3 o4 o5 o6
 have d0 := HK5.out.cell HD0.out id
 have d1 := HK5.out.cell HD1.out id
 have HR3 := Lib.hid r3
 have HR4 := Lib.hid r4
 have HV1 := Lib.hid v1
 clear r0 r1 r2 r3 r4 hK0 hK1 hK2 hK3 hK4 hsz5 hk5
 go_upto_region 7 with (fail)
 obtain ⟨W6, hW6⟩ : ∃ W, W5.alloc (.cells #[.slice an nn cn, .slice au nu cu] 56) = W := ⟨_, rfl⟩
 have hk6 : Keeps (fun _ => False) W5 W6 := by rw [← hW6]; exact (Keeps.refl _ W5).alloc _
 have r6 : W6.heap[W5.heap.size]? = some (.cells #[.slice an nn cn, .slice au nu cu] 56 (0, 0)) := by rw [← hW6]; exact heap_alloc_new W5 _
 rw [hW6]
 obtain ⟨K5, hK5⟩ : ∃ K, W5.heap.size = K := ⟨_, rfl⟩
 rw [hK5] at r6 ⊢
 have HKS5 : Hid (K4 < K5) := by have := HKS.out; show _ < _; omega
 have e0 := cell_row (j := 0) r6
 have e1 := cell_row (j := 1) r6
 simp at e0 e1
 have v1 := hk6.cell v1 id
 have HK6 : Hid (Keeps (fun _ => False) w W6) := HK5.out.trans hk6 (fun _ _ h => h)
 have HR6 := Lib.hid r6
 have HR36 := Lib.hid (hk6.row HR3.out id)
 have HR46 := Lib.hid (hk6.row HR4.out id)
 clear hW6 hk6 r6 hK5 s1 f2 f5 o0 o1 o2 o3 o4 o5 o6 d0 d1
 go_upto_region 8 with (go_at_call 16; (with_reducible refine (HN.out _ HK6.out).mono ?_); rintro e w7 ⟨rfl, k7⟩; have K7 := Lib.hid k7; have r74 := k7.row HR46.out id; have f4 := fun j => frozen_row (j := j) r74; have o6 := cell_row (j := 6) r74; simp at o6; clear k7 r74)
 clear o6 f4
 obtain ⟨W8, hW8⟩ : ∃ W, w7.setCell ⟨K4, 6, none⟩ (.string R) = W := ⟨_, rfl⟩
 have hk8 : Keeps (fun k => k = K4) w7 W8 := by rw [← hW8]; exact (Keeps.refl (fun k => k = K4) w7).setCell ⟨K4, 6, none⟩ (fun _ => rfl) _
 have r84 : W8.heap[K4]? = some (.cells #[.int .i64 14, .bool b, .int .i64 i, .int .u64 u, .int .u64 f, .string s, .string R] 42 (0, 0)) := by
  rw [← hW8, setCell_row (K7.out.row HR46.out id)]
  rfl
 have hne1 : ¬ K5 = K4 := by have := HKS5.out; omega
 have hne2 : ¬ K3 = K4 := by have := HKS.out; omega
 have r85 := hk8.row (K7.out.row HR6.out id) hne1
 have r83 := hk8.row (K7.out.row HR36.out id) hne2
 rw [hW8]
 have HK8 : Hid (Keeps (fun _ => False) w W8) := (HK6.out.trans K7.out (fun _ _ h => h)).trans hk8 (fun j hj e => by have := HKS.out; omega)
 have o0 := cell_row (j := 0) r84
 have o1 := cell_row (j := 1) r84
 have o2 := cell_row (j := 2) r84
 have o3 := cell_row (j := 3) r84
 have o4 := cell_row (j := 4) r84
 have o5 := cell_row (j := 5) r84
 have o6 := cell_row (j := 6) r84
 have e0 := cell_row (j := 0) r85
 have e1 := cell_row (j := 1) r85
 simp at o0 o1 o2 o3 o4 o5 o6 e0 e1
 have f9 := fun j => frozen_row (j := j) r83
 have HR83 := Lib.hid r83
 have z0 := cell_row (j := 0) r83
 have z1 := cell_row (j := 1) r83
 have z2 := cell_row (j := 2) r83
 have z3 := cell_row (j := 3) r83
 have z4 := cell_row (j := 4) r83
 have z5 := cell_row (j := 5) r83
 have z6 := cell_row (j := 6) r83
 simp at z0 z1 z2 z3 z4 z5 z6
 have hne3 : ¬ K4 = K3 := by omega
 have hne4 : ¬ K5 = K3 := by have := HKS.out; have := HKS5.out; omega
 clear hW8 hk8 r83 r84 r85
 go_region
 obtain ⟨W9, hW9⟩ : ∃ W, (((((((W8.setCell ⟨K3, 0, none⟩ (.int .i64 14)).setCell ⟨K3, 1, none⟩ (.bool b)).setCell ⟨K3, 2, none⟩ (.int .i64 i)).setCell ⟨K3, 3, none⟩ (.int .u64 u)).setCell ⟨K3, 4, none⟩ (.int .u64 f)).setCell ⟨K3, 5, none⟩ (.string s)).setCell ⟨K3, 6, none⟩ (.string R)).drew = W := ⟨_, rfl⟩
 have r9 : W9.heap[K3]? = some (.cells #[.int .i64 14, .bool b, .int .i64 i, .int .u64 u, .int .u64 f, .string s, .string R] 42 (0, 0)) := by rw [← hW9]; exact drew_row' (row7 HR83.out rfl _ _ _ _ _ _ _)
 have HKF : Hid (Keeps (fun _ => False) w W9) := by
  have k := (set7_keeps W8 K3 (.int .i64 14) (.bool b) (.int .i64 i) (.int .u64 u) (.int .u64 f) (.string s) (.string R)).drew
  rw [hW9] at k
  exact HK8.out.trans k (fun j hj e => by have := HKS.out; omega)
 rw [hW9]
 clear hW9 HR83 f9 z0 z1 z2 z3 z4 z5 z6 o0 o1 o2 o3 o4 o5 o6 e0 e1
 go_wp2_with (fail)
 (try simp only [Exit.inBlock, Exit.then])
 refine bodyPost_ret (results_cell_3 rfl _ _ K3 rfl (run_loadVar_row _ _ _ _ _ (0, 0) _ r9 Tryz.underlying42 rfl (by kernel_rfl))) rfl ?_
 exact ⟨⟨_, _, rfl, H2.out _ HKF.out, H3.out _ HKF.out⟩, HKF.out⟩
end Go.Proofs.YtonegoemmologaaGreatDoor
namespace Go.Proofs.YtonegoemmologaaGreatDoor
open Go.RowKit
theorem store6_keeps (w : World) (K : Nat) (a b c d e f : Value) : Keeps (fun k => k = K) w ((((((w.setCell ⟨K, 0, none⟩ a).setCell ⟨K, 1, none⟩ b).setCell ⟨K, 2, none⟩ c).setCell ⟨K, 3, none⟩ d).setCell ⟨K, 4, none⟩ e).setCell ⟨K, 5, none⟩ f) :=
 (((((((Keeps.refl (fun k => k = K) w).setCell ⟨K, 0, none⟩ (fun _ => rfl) _).setCell ⟨K, 1, none⟩ (fun _ => rfl) _).setCell ⟨K, 2, none⟩ (fun _ => rfl) _).setCell ⟨K, 3, none⟩ (fun _ => rfl) _).setCell ⟨K, 4, none⟩ (fun _ => rfl) _).setCell ⟨K, 5, none⟩ (fun _ => rfl) _)
def NumsOk (S : Sch) : Prop := ∀ e ∈ S.enums, ∀ x ∈ e.numbers, -2147483648 ≤ x ∧ x ≤ 2147483647
def DSay (PT : Nat → Nat × Nat) (B off : Nat) (x y : Value) (S : Sch) (tag : Bool) (d : Nat) : Prop := ∀ (w : World) (t : Int) (v : Value) (fs : List (Int × List PV)), SchAt w x y S → MsgAt w d v fs → MBound d fs → DTabs PT B off w → NumsOk S →
 Calls Tryz.prog 3 #[.agg #[x, y], .int .i64 t, v, .bool tag] w fun e w' => e = .returned (.bool true) ∧ Keeps (fun _ => False) w w'
theorem def_last (PT : Nat → Nat × Nat) (B off : Nat) (w : World) (hT : DTabs PT B off w) : Calls Tryz.prog 7 #[.agg #[.int .i64 8, .bool true, .int .i64 0, .int .u64 0, .int .u64 0, .string ⟨#[]⟩, .string ⟨#[]⟩], .int .i64 1, .slice none 0 0, .slice none 0 0] w fun en w' => en = .returned (.tuple #[.string ⟨#[116, 114, 117, 101]⟩, .bool true]) ∧ Keeps (fun _ => False) w w' :=
 defMarshal_nil 8 1 0 _ 0 0 true noS noS _ _ _ [] [] _ rfl (by decide) rfl (Nat.zero_le _) rfl w (strRows_nil _) (i32Rows_nil _) (gm_8_1_true _ noS w hT.ft.ten)
theorem ValsAt.ranges {w : World} {d : Nat} {v : Value} {ps : List PV} (h : ValsAt w d v ps) {k : Nat} (hk : k < ps.length) {b : Bool} {i : Int} {u f : Nat} {s : ByteArray} {m : List (Int × List PV)} (he : ps[k] = .mk b i u f s m) :
 -9223372036854775808 ≤ i ∧ i ≤ 9223372036854775807 ∧ u < 18446744073709551616 ∧ f < 18446744073709551616 := by
 obtain ⟨ms, g1, g2, g3⟩ := h
 have g4 := g3 k hk (by omega)
 rw [he] at g4
 exact ⟨g4.1, g4.2.1, g4.2.2.1, g4.2.2.2.1⟩
theorem def_of (PT : Nat → Nat × Nat) (hPT : PTOk PT) (B off : Nat) (form : Int) (hform : form = 1 ∨ form = 2) (a1 : Option Addr) (n1 c1 : Nat) (y : Value) (S : Sch) (l : Nat) (f0 : ByteArray) (f1 f2 f5 : Int) (f3 f4 : Bool) (b : Bool) (i : Int) (u f : Nat) (s : ByteArray) (am : Option Addr) (nm cm : Nat) (m : List (Int × List PV))
 (w : World) (hT : DTabs PT B off w) (hE : ETsAt w y S.enums) (hok : SchOk S) (hdist : SchDist S) (hnum : NumsOk S) (hfok : FieldOk S ⟨f0, f1, f2, f3, f4, f5⟩) (hv : VFits S l ⟨f0, f1, f2, f3, f4, f5⟩ (.mk b i u f s m))
 (hr : -9223372036854775808 ≤ i ∧ i ≤ 9223372036854775807 ∧ u < 18446744073709551616 ∧ f < 18446744073709551616) (h11 : f2 ≠ 11) :
 Calls Tryz.prog 6 #[.agg #[.slice a1 n1 c1, y], .agg #[.string f0, .int .i64 f1, .int .i64 f2, .bool f3, .bool f4, .int .i64 f5], .agg #[.bool b, .int .i64 i, .int .u64 (u : Int), .int .u64 (f : Int), .string s, .slice am nm cm]] w fun en w' =>
  (∃ (E : ByteArray) (nv uv : Value) (okb : Bool), en = .returned (.tuple #[.agg #[.int .i64 f2, .bool b, .int .i64 i, .int .u64 (u : Int), .int .u64 (f : Int), .string s, .string E], nv, uv, .bool okb]) ∧ (okb = true → VSay f2 form b i (u : Int) f s E nv uv w')) ∧ Keeps (fun _ => False) w w' := by
 obtain ⟨⟨-, hk0, hk10⟩, hk7, -⟩ := hfok
 obtain ⟨hs, -, -, hF, hc⟩ := hv
 simp only at hk0 hk10 hk7 hF
 have hc : VClean f2 b i u f s := hc
 have hs : s.size ≤ 1000 := hs
 have hF : f2 = 2 → FOk f := hF
 obtain ⟨a2, c2, hy, _, _⟩ := hE.len
 by_cases h14 : f2 = 14
 · subst h14
   have h7 := hk7 (by decide)
   obtain ⟨ty, rfl⟩ : ∃ k : Nat, f5 = (k : Int) := ⟨f5.toNat, by omega⟩
   have hty : ty < S.enums.length := by omega
   have hmem := List.getElem_mem hty
   have he := hok.2.2.1 _ hmem
   have hd := hdist.1 _ hmem
   have hn := hnum _ hmem
   subst hy
   refine (defaultOf_enum a1 a2 am n1 c1 _ c2 nm cm f0 f1 ty f3 f4 b i (u : Int) (f : Int) s w S.enums hE hty he.1).mono fun en w' h => ?_
   obtain ⟨⟨nv, uv, h1, h2, h3⟩, hk⟩ := h
   refine ⟨⟨_, nv, uv, _, h1, fun hne => ?_⟩, hk⟩
   exact vsay_enum PT B off form b i u f s w' (hT.keeps hk) _ nv uv he.1 he.2 hd hn h2 h3 hform hc (fun e => by rw [e, ByteArray.toList_eq] at hne; exact absurd hne (by decide))
 · subst hy
   refine (defaultOf_plain a1 a2 am n1 c1 _ c2 nm cm f0 f1 f2 f5 f3 f4 b i (u : Int) (f : Int) s (by simp [h11]) (by simp [h14]) w).mono fun en w' h => ?_
   obtain ⟨h1, hk⟩ := h
   exact ⟨⟨_, _, _, _, h1, fun _ => vsay_any PT hPT B off f2 form b i u f s w' (hT.keeps hk) hk0 hk10 h11 h14 hform hc hs hF hr.1 hr.2.1 hr.2.2.1 hr.2.2.2⟩, hk⟩
end Go.Proofs.YtonegoemmologaaGreatDoor
