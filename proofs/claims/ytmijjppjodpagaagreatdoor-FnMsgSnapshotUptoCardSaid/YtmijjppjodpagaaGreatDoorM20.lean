/-
  mapFits and fieldFits of the reference: what they tell of a field's type.
-/
import Derived.Test.YtmijjppjodpagaaGreatDoorM13
import Derived.Deep.DeepCutAuto
set_option linter.unusedVariables false
set_option linter.unusedSimpArgs false
namespace Go.Proofs.YtmijjppjodpagaaGreatDoor
open Go.RowKit

/-- A field's type of a schema that fits. -/
def FieldOk (S : Sch) (f : FT) : Prop := 1 ≤ f.name.size ∧ (sortK f.kind = 7 → 0 ≤ f.type ∧ f.type < S.enums.length) ∧ (sortK f.kind = 8 → 0 ≤ f.type ∧ f.type < S.msgs.length)

set_option maxRecDepth 1000000 in
set_option maxHeartbeats 8000000 in
theorem mapFits_tells (f : FT) (x y : Value) (S : Sch) (w : World) (h : SchAt w x y S) (hr : f.kind = 11 → 0 ≤ f.type ∧ f.type < S.msgs.length) :
    Calls Tryz.prog 52 #[.agg #[x, y], .agg #[.string f.name, .int .i64 f.number, .int .i64 f.kind, .bool f.rep, .bool f.map, .int .i64 f.type]] w (Tells w True) := by
  obtain ⟨name, number, kind, rep, map, type⟩ := f
  simp only at hr ⊢
  obtain ⟨a, c, hfv, hca, hma⟩ := h.1.len
  obtain ⟨a2, c2, hfu, _, _⟩ := h.2.len
  obtain ⟨n, hnn⟩ : ∃ n, S.msgs.length = n := ⟨_, rfl⟩
  obtain ⟨n2, hn2⟩ : ∃ n, S.enums.length = n := ⟨_, rfl⟩
  rw [hnn] at hfv hr hca
  rw [hn2] at hfu
  subst hfv hfu
  unfold maxLen at hma
  have HNN := Lib.hid hnn
  clear hnn hn2
  cases rep with
  | false =>
    go_enter Tryz.func52, Tryz.ntmps52
    go_wp2
    go_ret
    exact Tells.no (((Keeps.refl _ w).alloc _).alloc _)
  | true =>
    by_cases h11 : kind = 11
    · subst h11
      obtain ⟨r1, r2⟩ := hr rfl
      obtain ⟨t, rfl⟩ : ∃ t : Nat, type = (t : Int) := ⟨type.toNat, by omega⟩
      have htn : t < S.msgs.length := by rw [HNN.out]; omega
      have h1 := h.1.keeps (((Keeps.refl (fun _ => False) w).alloc (.cells #[.slice a n c, .slice a2 n2 c2] 25)).alloc (.cells #[.string name, .int .i64 number, .int .i64 11, .bool true, .bool map, .int .i64 (t : Int)] 45))
      obtain ⟨b, off, rfl, hcell⟩ := h1.cells (by intro e; rw [e] at htn; simp at htn)
      obtain ⟨fv, e0, e1, hfv⟩ := hcell t htn
      obtain ⟨af, cf, hff, hcf, hmf⟩ := hfv.len
      obtain ⟨nf, hnf⟩ : ∃ nf, S.msgs[t].fields.length = nf := ⟨_, rfl⟩
      rw [hnf] at hff hcf
      subst hff
      unfold maxLen at hmf
      by_cases hn2 : nf = 2
      · subst hn2
        obtain ⟨bf, of, rfl, hfc⟩ := hfv.cells (by intro e; rw [e] at hnf; simp at hnf)
        obtain ⟨p0, p1, p2, p3, p4, p5⟩ := hfc 0 (by omega)
        obtain ⟨q0, q1, q2, q3, q4, q5⟩ := hfc 1 (by omega)
        obtain ⟨s0, hs0⟩ : ∃ s, (S.msgs[t].fields[0]'(by omega)).name = s := ⟨_, rfl⟩
        obtain ⟨s1, hs1⟩ : ∃ s, (S.msgs[t].fields[1]'(by omega)).name = s := ⟨_, rfl⟩
        obtain ⟨k0, hk0⟩ : ∃ s, (S.msgs[t].fields[0]'(by omega)).kind = s := ⟨_, rfl⟩
        obtain ⟨r0, hr0⟩ : ∃ s, (S.msgs[t].fields[0]'(by omega)).rep = s := ⟨_, rfl⟩
        obtain ⟨r1', hr1⟩ : ∃ s, (S.msgs[t].fields[1]'(by omega)).rep = s := ⟨_, rfl⟩
        rw [hs0] at p0
        rw [hk0] at p2
        rw [hr0] at p3
        rw [hs1] at q0
        rw [hr1] at q3
        simp only [Nat.zero_mul, Nat.one_mul, Nat.add_zero] at p0 p2 p3 q0 q3
        have HFV := Lib.hid hfv
        clear hfc hcell hfv e0 p1 p4 p5 q1 q2 q4 q5 h1 h hr hs0 hs1 hk0 hr0 hr1 hnf
        cases r0 <;> cases r1'
        all_goals
          go_enter Tryz.func52, Tryz.ntmps52
          go_wp2_with (go_at_call 51; refine (sortOf_any k0 _).mono ?_; rintro e w' ⟨rfl, rfl⟩; obtain ⟨sk, hsk⟩ : ∃ sk, sortK k0 = sk := ⟨_, rfl⟩; rw [hsk]; clear hsk)
          all_goals go_ret
          all_goals exact ⟨_, rfl, fun _ => trivial, ((Keeps.refl _ w).alloc _).alloc _⟩
      · have hne : ((nf : Int) != 2) = true := by simp; omega
        have hne2 : ((nf : Int) == 2) = false := by simp; omega
        clear hcell hfv h1 h hr e0 hnf
        go_enter Tryz.func52, Tryz.ntmps52
        go_wp2
        go_ret
        exact Tells.no (((Keeps.refl _ w).alloc _).alloc _)
    · have hne : (kind != 11) = true := by simp [h11]
      have hne2 : (kind == 11) = false := by simp [h11]
      clear hr h
      go_enter Tryz.func52, Tryz.ntmps52
      go_wp2
      go_ret
      exact Tells.no (((Keeps.refl _ w).alloc _).alloc _)

set_option maxRecDepth 1000000 in
set_option maxHeartbeats 8000000 in
theorem fieldFits_tells (f : FT) (x y : Value) (S : Sch) (w : World) (h : SchAt w x y S) (hb : FTBound f) :
    Calls Tryz.prog 28 #[.agg #[x, y], .agg #[.string f.name, .int .i64 f.number, .int .i64 f.kind, .bool f.rep, .bool f.map, .int .i64 f.type]] w (Tells w (FieldOk S f)) := by
  have hmf := mapFits_tells f x y S
  obtain ⟨name, number, kind, rep, map, type⟩ := f
  unfold FieldOk
  simp only [FTBound] at hb hmf ⊢
  obtain ⟨a, c, hfv, _, _⟩ := h.1.len
  obtain ⟨a2, c2, hfu, _, _⟩ := h.2.len
  obtain ⟨n, hnn⟩ : ∃ n, S.msgs.length = n := ⟨_, rfl⟩
  obtain ⟨n2, hn2⟩ : ∃ n, S.enums.length = n := ⟨_, rfl⟩
  rw [hnn] at hfv hmf ⊢
  rw [hn2] at hfu ⊢
  subst hfv hfu
  have HM := Lib.hid hmf
  have HH := Lib.hid h
  clear hnn hn2 hmf h
  have hid := ident_tells name hb
  have HID := Lib.hid hid
  obtain ⟨W2, hW2⟩ : ∃ W, (w.alloc (.cells #[.slice a n c, .slice a2 n2 c2] 25)).alloc (.cells #[.string name, .int .i64 number, .int .i64 kind, .bool rep, .bool map, .int .i64 type] 45) = W := ⟨_, rfl⟩
  have hk2 : Keeps (fun _ => False) w W2 := by rw [← hW2]; exact ((Keeps.refl _ w).alloc _).alloc _
  have hR1 : W2.heap[w.heap.size]? = some (.cells #[.slice a n c, .slice a2 n2 c2] 25 (0, 0)) := by rw [← hW2]; exact heap_alloc2_old w _ _
  have hR2 : W2.heap[w.heap.size + 1]? = some (.cells #[.string name, .int .i64 number, .int .i64 kind, .bool rep, .bool map, .int .i64 type] 45 (0, 0)) := by rw [← hW2]; exact heap_alloc2_new w _ _
  have HK2 := Lib.hid hk2
  have HW2 := Lib.hid hW2
  clear hk2 hid hW2
  obtain ⟨sk, hsk⟩ : ∃ sk, sortK kind = sk := ⟨_, rfl⟩
  have h11 : kind = 11 → sk = 8 := fun e => by rw [← hsk, e]; rfl
  have HSK := Lib.hid hsk
  have H11 := Lib.hid h11
  rw [hsk]
  clear hsk h11 hb
  obtain ⟨T, hT⟩ : ∃ T : Prop, (1 ≤ name.size ∧ (sk = 7 → 0 ≤ type ∧ type < (n2 : Int)) ∧ (sk = 8 → 0 ≤ type ∧ type < (n : Int))) = T := ⟨_, rfl⟩
  have HT := Lib.hid hT
  rw [hT]
  clear hT
  go_enter Tryz.func28, Tryz.ntmps28
  go_wp2_with (fail)
  rw [HW2.out]
  refine (HID.out W2).mono ?_
  rintro e w3 ⟨b1, rfl, hb1, hk3⟩
  have hR13 := hk3.row hR1 id
  have hR23 := hk3.row hR2 id
  have HK3 := Lib.hid (HK2.out.trans hk3 (fun _ _ => id))
  have s0 := cell_row (j := 0) hR13
  have s1 := cell_row (j := 1) hR13
  have f0 := cell_row (j := 0) hR23
  have f1 := cell_row (j := 1) hR23
  have f2 := cell_row (j := 2) hR23
  have f3 := cell_row (j := 3) hR23
  have f4 := cell_row (j := 4) hR23
  have f5 := cell_row (j := 5) hR23
  simp at s0 s1 f0 f1 f2 f3 f4 f5
  have HB1 := Lib.hid hb1
  clear hk3 hR13 hR23 hR1 hR2 hb1
  cases b1 with
  | false =>
    go_wp2
    go_ret
    exact Tells.no HK3.out
  | true =>
    have harm : Hid (∀ w', Keeps (fun _ => False) w w' → (kind = 11 → 0 ≤ type ∧ type < (n : Int)) → Calls Tryz.prog 52 #[.agg #[.slice a n c, .slice a2 n2 c2], .agg #[.string name, .int .i64 number, .int .i64 kind, .bool rep, .bool map, .int .i64 type]] w' (Tells w' True)) := fun w' hk hr => HM.out w' (HH.out.keeps hk) hr
    by_cases g0 : sk = 0
    · subst g0
      go_wp2_with (go_at_call 51; refine (sortOf_any kind _).mono ?_; rintro e w' ⟨rfl, rfl⟩; rw [HSK.out])
      all_goals go_ret
      all_goals exact Tells.no HK3.out
    · by_cases g7 : sk = 7
      · subst g7
        cases map
        all_goals
          go_wp2_with (first
            | (go_at_call 51; refine (sortOf_any kind _).mono ?_; rintro e w' ⟨rfl, rfl⟩; rw [HSK.out])
            | (go_at_call 52; refine (harm.out _ HK3.out (fun e => by have h := H11.out e; omega)).mono ?_; rintro e w4 ⟨b4, rfl, _, hk4⟩; have HK4 := Lib.hid (HK3.out.trans hk4 (fun _ _ => id)); clear hk4; cases b4))
          all_goals go_ret
          all_goals first
            | exact Tells.no HK3.out
            | exact Tells.no HK4.out
            | exact Tells.yes (by rw [← HT.out]; exact ⟨HB1.out (by first | rfl | trivial), fun _ => ⟨by omega, by omega⟩, fun h => by omega⟩) HK3.out
            | exact Tells.yes (by rw [← HT.out]; exact ⟨HB1.out (by first | rfl | trivial), fun _ => ⟨by omega, by omega⟩, fun h => by omega⟩) HK4.out
      · by_cases g8 : sk = 8
        · subst g8
          cases map
          all_goals
            go_wp2_with (first
              | (go_at_call 51; refine (sortOf_any kind _).mono ?_; rintro e w' ⟨rfl, rfl⟩; rw [HSK.out])
              | (go_at_call 52; refine (harm.out _ HK3.out (fun e => by omega)).mono ?_; rintro e w4 ⟨b4, rfl, _, hk4⟩; have HK4 := Lib.hid (HK3.out.trans hk4 (fun _ _ => id)); clear hk4; cases b4))
            all_goals go_ret
            all_goals first
              | exact Tells.no HK3.out
              | exact Tells.no HK4.out
              | exact Tells.yes (by rw [← HT.out]; exact ⟨HB1.out (by first | rfl | trivial), fun h => by omega, fun _ => ⟨by omega, by omega⟩⟩) HK3.out
              | exact Tells.yes (by rw [← HT.out]; exact ⟨HB1.out (by first | rfl | trivial), fun h => by omega, fun _ => ⟨by omega, by omega⟩⟩) HK4.out
        · have e0 : (sk == 0) = false := by simp [g0]
          have e7 : (sk == 7) = false := by simp [g7]
          have e8 : (sk == 8) = false := by simp [g8]
          cases map
          all_goals
            go_wp2_with (first
              | (go_at_call 51; refine (sortOf_any kind _).mono ?_; rintro e w' ⟨rfl, rfl⟩; rw [HSK.out])
              | (go_at_call 52; refine (harm.out _ HK3.out (fun e => absurd (H11.out e) g8)).mono ?_; rintro e w4 ⟨b4, rfl, _, hk4⟩; have HK4 := Lib.hid (HK3.out.trans hk4 (fun _ _ => id)); clear hk4; cases b4))
            all_goals go_ret
            all_goals first
              | exact Tells.no HK3.out
              | exact Tells.no HK4.out
              | exact Tells.yes (by rw [← HT.out]; exact ⟨HB1.out (by first | rfl | trivial), fun h => absurd h g7, fun h => absurd h g8⟩) HK3.out
              | exact Tells.yes (by rw [← HT.out]; exact ⟨HB1.out (by first | rfl | trivial), fun h => absurd h g7, fun h => absurd h g8⟩) HK4.out
end Go.Proofs.YtmijjppjodpagaaGreatDoor
