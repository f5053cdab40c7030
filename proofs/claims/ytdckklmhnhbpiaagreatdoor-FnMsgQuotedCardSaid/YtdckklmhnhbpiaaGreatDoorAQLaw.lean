/-
  The plain law of FnMsgQuoted: how long a quoted text is, the message of the fields so far, its tokens. No program in sight.
-/
import Derived.Test.YtdckklmhnhbpiaaGreatDoorAReads
namespace Go.Proofs.YtdckklmhnhbpiaaGreatDoor

theorem hexP_le (k n : Nat) (h : k ≤ 16) : (hexP k n).length ≤ 16 := by
  unfold hexP
  rw [List.length_append, List.length_replicate]
  have h1 : (hexD n).length ≤ 16 := hexF_len 16 n
  omega
theorem encStep_len (ascii : Bool) (l : List UInt8) (h : l.length ≠ 0) : (encStep ascii l).1.length ≤ 18 * (encStep ascii l).2 := by
  have h1 := dec_le l h
  have p2 := fun n => hexP_le 2 n (by omega)
  have p4 := fun n => hexP_le 4 n (by omega)
  have p8 := fun n => hexP_le 8 n (by omega)
  unfold encStep
  simp only
  repeat' split
  all_goals simp only [List.length_cons, List.length_nil, List.length_take]
  · have := p2 (gd l 0); omega
  · omega
  · omega
  · omega
  · omega
  · have := p2 (dec l).1; omega
  · have := p4 (dec l).1; omega
  · have := p8 (dec l).1; omega
  · omega
theorem encL_len (ascii : Bool) : ∀ (k : Nat) (l : List UInt8), l.length ≤ k → (encL ascii l).length ≤ 18 * l.length
  | 0, l, h => by
    have : l = [] := List.eq_nil_of_length_eq_zero (by omega)
    subst this
    simp [encL_nil]
  | k + 1, l, h => by
    by_cases h0 : l.length = 0
    · have : l = [] := List.eq_nil_of_length_eq_zero h0
      subst this
      simp [encL_nil]
    · have hs := encStep_le ascii l h0
      rw [encL_step ascii l h0, List.length_append]
      have h1 := encStep_len ascii l h0
      have h2 := encL_len ascii k (l.drop (encStep ascii l).2) (by rw [List.length_drop]; omega)
      rw [List.length_drop] at h2
      omega
theorem quote_len (ascii : Bool) (l : List UInt8) : (quote ascii l).length ≤ 18 * l.length + 2 := by
  unfold quote
  rw [enc_eq]
  have hp := pre_le l
  have h1 := encL_len ascii _ (l.drop (pre l)) (Nat.le_refl _)
  rw [List.length_drop] at h1
  simp only [List.length_cons, List.length_append, List.length_nil, List.length_take]
  omega

/-- A field that the law speaks of. -/
def QOk (p : List UInt8 × List UInt8) : Prop := p.1 ≠ [] ∧ (∀ c ∈ p.1, Letter c) ∧ p.1.length ≤ 100 ∧ p.2.length ≤ 1000
theorem msgOk_of {fs : List (List UInt8 × List UInt8)} (h : ∀ p ∈ fs, QOk p) : MsgOk fs := fun p hp => ⟨(h p hp).1, (h p hp).2.1, by have := (h p hp).2.2.1; omega, by have := (h p hp).2.2.2; omega⟩
theorem msgB_append : ∀ (a b : List (List UInt8 × List UInt8)), msgB (a ++ b) = msgB a ++ msgB b
  | [], b => rfl
  | (n, t) :: r, b => by
    simp only [List.cons_append, msgB, msgB_append r b, List.append_assoc, List.cons_append]
theorem msgB_one (n t : List UInt8) : msgB [(n, t)] = ((n ++ [58, 32]) ++ quote false t) ++ [10] := by simp [msgB]
theorem msgB_len : ∀ (fs : List (List UInt8 × List UInt8)), (∀ p ∈ fs, QOk p) → (msgB fs).length ≤ 18200 * fs.length
  | [], _ => by simp [msgB]
  | (n, t) :: r, h => by
    have h1 := h (n, t) List.mem_cons_self
    have h2 := msgB_len r (fun p hp => h p (List.mem_cons_of_mem _ hp))
    have h3 := quote_len false t
    have h4 := h1.2.2.1
    have h5 := h1.2.2.2
    simp only at h4 h5
    simp only [msgB, List.length_append, List.length_cons]
    omega
/-- The fields: names beside texts. -/
theorem zip_get {ns ts : List (List UInt8)} (hl : ns.length = ts.length) (k : Nat) (hk : k < ns.length) : (ns.zip ts)[k]? = some (ns[k], ts[k]'(by omega)) := by
  rw [List.getElem?_eq_getElem (by rw [List.length_zip]; omega), List.getElem_zip]
theorem zip_take {ns ts : List (List UInt8)} (hl : ns.length = ts.length) (k : Nat) (hk : k < ns.length) : (ns.zip ts).take (k + 1) = (ns.zip ts).take k ++ [(ns[k], ts[k]'(by omega))] := by
  rw [List.take_add_one, zip_get hl k hk]
  rfl
theorem zip_all {ns ts : List (List UInt8)} (hl : ns.length = ts.length) : (ns.zip ts).take ns.length = ns.zip ts := by
  rw [List.take_of_length_le (by rw [List.length_zip]; omega)]
end Go.Proofs.YtdckklmhnhbpiaaGreatDoor
