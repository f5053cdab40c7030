/-
  indexNeedEscapeInString and indexNeedEscapeInBytes of the text form: how many plain bytes are at the head.
-/
import Derived.Test.YtdckklmhnhbpiaaGreatDoorABase
import Derived.Test.YtdckklmhnhbpiaaGreatDoorAStr
namespace Go.Proofs.YtdckklmhnhbpiaaGreatDoor
open Go.RowKit

theorem pre_le (l : List UInt8) : pre l ≤ l.length := by
  unfold pre
  exact (List.takeWhile_sublist _).length_le
theorem pre_drop_cons {c : UInt8} {l : List UInt8} : pre (c :: l) = if plainC c then pre l + 1 else 0 := by
  unfold pre
  rw [List.takeWhile_cons]
  split <;> simp
/-- Behind k plain bytes: the next is plain, or k is the number. -/
theorem pre_step (l : List UInt8) (k : Nat) (hk : k < l.length) (hall : k ≤ pre l) : (plainC l[k] = true → k + 1 ≤ pre l) ∧ (plainC l[k] = false → pre l = k) := by
  induction l generalizing k with
  | nil => simp at hk
  | cons c l ih =>
    rw [pre_drop_cons] at hall ⊢
    cases k with
    | zero =>
      simp only [List.getElem_cons_zero]
      cases hc : plainC c <;> simp
    | succ k =>
      cases hc : plainC c
      · simp [hc] at hall
      · simp only [hc, if_true] at hall ⊢
        have := ih k (by simpa using hk) (by omega)
        simp only [List.getElem_cons_succ]
        exact ⟨fun h => by have := this.1 h; omega, fun h => by have := this.2 h; omega⟩

set_option maxHeartbeats 400000 in
theorem indexNeed_any (l : List UInt8) (hl : l.length ≤ 9223372036854775807) (w : World) :
    Calls Tryz.prog 39 #[.string (mk l)] w fun e w' => e = .returned (.int .i64 (pre l : Nat)) ∧ w = w' := by
  have hsz := mk_size l
  go_enter Tryz.func39, Tryz.ntmps39
  go_wp2
  go_loop [3] (fun i => ∃ k : Nat, k ≤ pre l ∧ i = .int .i64 (k : Int)) (fun i => l.length - (intOf i).toNat)
  case atStart => exact ⟨0, Nat.zero_le _, rfl⟩
  case round =>
    obtain ⟨k, hk, rfl⟩ := hrel
    have hpl := pre_le l
    by_cases hlt : k < l.length
    · have hst := pre_step l k hlt hk
      have hix := fun w' => run_at l k hlt w'
      obtain ⟨c, hc⟩ : ∃ c, l[k] = c := ⟨_, rfl⟩
      simp only [hc] at hix hst
      have HC := Lib.hid hc
      clear hc
      cases hp : plainC c with
      | true =>
        have hk1 := hst.1 hp
        have hb : ¬ c.toNat < 32 ∧ ¬ c.toNat = 34 ∧ ¬ c.toNat = 39 ∧ ¬ c.toNat = 92 ∧ ¬ 127 ≤ c.toNat := by simpa [plainC, and_assoc] using hp
        obtain ⟨b1, b2, b3, b4, b5⟩ := hb
        have t1 : ¬ (c.toNat : Int) < 32 := by omega
        have t2 : ((c.toNat : Int) == 34) = false := by simp; omega
        have t3 : ((c.toNat : Int) == 39) = false := by simp; omega
        have t4 : ((c.toNat : Int) == 92) = false := by simp; omega
        have t5 : ¬ (127 : Int) ≤ (c.toNat : Int) := by omega
        clear hst hp b1 b2 b3 b4 b5
        go_wp2
        go_round
        case rel => exact ⟨k + 1, hk1, by go_num⟩
        case measure => simp [intOf]; omega
      | false =>
        have hk1 := hst.2 hp
        have HK := Lib.hid hk1
        have hb : c.toNat < 32 ∨ c.toNat = 34 ∨ c.toNat = 39 ∨ c.toNat = 92 ∨ 127 ≤ c.toNat := by
          by_cases h1 : c.toNat < 32
          · exact .inl h1
          · by_cases h2 : c.toNat = 34
            · exact .inr (.inl h2)
            · by_cases h3 : c.toNat = 39
              · exact .inr (.inr (.inl h3))
              · by_cases h4 : c.toNat = 92
                · exact .inr (.inr (.inr (.inl h4)))
                · refine .inr (.inr (.inr (.inr ?_)))
                  simpa [plainC, h1, h2, h3, h4] using hp
        clear hst hp hk1
        have fin : ∀ e W, (e = Ending.returned (.int .i64 (k : Nat)) ∧ w = W) → (e = Ending.returned (.int .i64 (pre l : Nat)) ∧ w = W) := fun e W h => by rw [HK.out]; exact h
        rcases hb with hb | hb | hb | hb | hb
        · have t1 : (c.toNat : Int) < 32 := by omega
          go_wp2
          go_ret
          exact ⟨by rw [HK.out]; rfl, rfl⟩
        · have t1 : (c.toNat : Int) = 34 := by omega
          clear hb
          go_wp2
          go_ret
          exact ⟨by rw [HK.out]; rfl, rfl⟩
        · have t1 : (c.toNat : Int) = 39 := by omega
          clear hb
          go_wp2
          go_ret
          exact ⟨by rw [HK.out]; rfl, rfl⟩
        · have t1 : (c.toNat : Int) = 92 := by omega
          clear hb
          go_wp2
          go_ret
          exact ⟨by rw [HK.out]; rfl, rfl⟩
        · have t1 : ¬ (c.toNat : Int) < 32 := by omega
          have t2 : ((c.toNat : Int) == 34) = false := by simp; omega
          have t3 : ((c.toNat : Int) == 39) = false := by simp; omega
          have t4 : ((c.toNat : Int) == 92) = false := by simp; omega
          have t5 : (127 : Int) ≤ (c.toNat : Int) := by omega
          clear hb
          go_wp2
          go_ret
          exact ⟨by rw [HK.out]; rfl, rfl⟩
    · have hge : l.length ≤ k := by omega
      have hkl : k = l.length := by omega
      subst hkl
      have HP : Hid (pre l = l.length) := Nat.le_antisymm (pre_le l) hk
      go_wp2
      go_ret
      exact ⟨by rw [HP.out]; rfl, rfl⟩

end Go.Proofs.YtdckklmhnhbpiaaGreatDoor
