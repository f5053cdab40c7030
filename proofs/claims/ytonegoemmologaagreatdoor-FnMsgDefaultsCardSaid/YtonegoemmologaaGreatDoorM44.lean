/-
  The cells of a message's value tree.
-/
import Derived.Test.YtonegoemmologaaGreatDoorM08
set_option linter.unusedVariables false
set_option linter.unusedSimpArgs false
namespace Go.Proofs.YtonegoemmologaaGreatDoor
open Go.RowKit
def pcells (p : PV) (mv : Value) : List Value := match p with | .mk b i u f s _ => [Value.bool b, .int .i64 i, .int .u64 (u : Int), .int .u64 (f : Int), .string s, mv]
def ValsAt (w : World) (d : Nat) (vv : Value) (ps : List PV) : Prop := ∃ ms : List Value, ms.length = ps.length ∧
 RowsAt w vv 6 (List.zipWith pcells ps ms) ∧
 ∀ k (hk : k < ps.length) (hk' : k < ms.length), match ps[k] with
  | .mk _ i u f _ m => -9223372036854775808 ≤ i ∧ i ≤ 9223372036854775807 ∧ u < 18446744073709551616 ∧ f < 18446744073709551616 ∧ MsgAt w d ms[k] m
theorem MsgAt.len {w : World} {d : Nat} {v : Value} {fs : List (Int × List PV)} (h : MsgAt w d v fs) : ∃ a c, v = .slice a fs.length c ∧ fs.length ≤ c ∧ c ≤ maxLen := by
 cases d with
 | zero => exact absurd h (by unfold MsgAt; exact id)
 | succ d =>
  unfold MsgAt at h
  obtain ⟨vs, h1, h2, _⟩ := h
  obtain ⟨a, c, h3, h4, h5⟩ := h2.form
  rw [List.length_zipWith, h1, Nat.min_self] at h3 h4
  exact ⟨a, c, h3, h4, h5⟩
theorem MsgAt.cells {w : World} {d : Nat} {a : Option Addr} {n c : Nat} {fs : List (Int × List PV)} (h : MsgAt w (d + 1) (.slice a n c) fs) (h0 : fs ≠ []) : ∃ b off, a = some ⟨b, off, none⟩ ∧ ∀ j (hj : j < fs.length), ∃ vv,
 w.cell? ⟨b, off + j * 2, none⟩ = some (.int .i64 (fs[j]).1) ∧ w.cell? ⟨b, off + j * 2 + 1, none⟩ = some vv ∧ ValsAt w d vv (fs[j]).2 := by
 unfold MsgAt at h
 obtain ⟨vs, h1, h2, h3⟩ := h
 have hl : (List.zipWith (fun (f : Int × List PV) vv => [Value.int .i64 f.1, vv]) fs vs).length = fs.length := by rw [List.length_zipWith, h1, Nat.min_self]
 obtain ⟨b, off, rfl, hc⟩ := RowsAt.at h2 (by intro e; rw [e] at hl; exact h0 (List.eq_nil_of_length_eq_zero hl.symm))
 refine ⟨b, off, rfl, fun j hj => ⟨vs[j]'(by omega), ?_, ?_, ?_⟩⟩
 · exact hc j (by omega) 0 _ (by omega) (by rw [List.getElem_zipWith]; rfl)
 · exact hc j (by omega) 1 _ (by omega) (by rw [List.getElem_zipWith]; rfl)
 · obtain ⟨ms, g1, g2, g3⟩ := h3 j hj (by omega)
   exact ⟨ms, g1, g2, g3⟩
theorem ValsAt.keeps {w w' : World} {d : Nat} {v : Value} {ps : List PV} (h : ValsAt w d v ps) (hk : Keeps (fun _ => False) w w') : ValsAt w' d v ps := by
 obtain ⟨ms, g1, g2, g3⟩ := h
 refine ⟨ms, g1, g2.keeps hk (fun _ _ => id), fun k hk1 hk2 => ?_⟩
 have g4 := g3 k hk1 hk2
 cases he : ps[k] with
 | mk b i u f s m =>
  rw [he] at g4
  simp only at g4 ⊢
  exact ⟨g4.1, g4.2.1, g4.2.2.1, g4.2.2.2.1, g4.2.2.2.2.keeps hk⟩
theorem ValsAt.len {w : World} {d : Nat} {v : Value} {ps : List PV} (h : ValsAt w d v ps) : ∃ a c, v = .slice a ps.length c ∧ ps.length ≤ c ∧ c ≤ maxLen := by
 obtain ⟨ms, h1, h2, _⟩ := h
 obtain ⟨a, c, h3, h4, h5⟩ := h2.form
 rw [List.length_zipWith, h1, Nat.min_self] at h3 h4
 exact ⟨a, c, h3, h4, h5⟩
theorem ValsAt.cells {w : World} {d : Nat} {a : Option Addr} {n c : Nat} {ps : List PV} (h : ValsAt w d (.slice a n c) ps) (h0 : ps ≠ []) : ∃ b off, a = some ⟨b, off, none⟩ ∧ ∀ k (hk : k < ps.length) bb i u f s m, ps[k] = .mk bb i u f s m → ∃ am cm,
 w.cell? ⟨b, off + k * 6, none⟩ = some (.bool bb) ∧ w.cell? ⟨b, off + k * 6 + 1, none⟩ = some (.int .i64 i) ∧ w.cell? ⟨b, off + k * 6 + 2, none⟩ = some (.int .u64 (u : Int)) ∧
 w.cell? ⟨b, off + k * 6 + 3, none⟩ = some (.int .u64 (f : Int)) ∧ w.cell? ⟨b, off + k * 6 + 4, none⟩ = some (.string s) ∧ w.cell? ⟨b, off + k * 6 + 5, none⟩ = some (.slice am m.length cm) ∧
 MsgAt w d (.slice am m.length cm) m := by
 obtain ⟨ms, h1, h2, h3⟩ := h
 have hl : (List.zipWith pcells ps ms).length = ps.length := by rw [List.length_zipWith, h1, Nat.min_self]
 obtain ⟨b, off, rfl, hc⟩ := RowsAt.at h2 (by intro e; rw [e] at hl; exact h0 (List.eq_nil_of_length_eq_zero hl.symm))
 refine ⟨b, off, rfl, fun k hk bb i u f s m he => ?_⟩
 have g4 := h3 k hk (by omega)
 rw [he] at g4
 simp only at g4
 obtain ⟨am, cm, e5, _, _⟩ := g4.2.2.2.2.len
 have q := fun t v ht (hv : (pcells ps[k] (ms[k]'(by omega)))[t]? = some v) => hc k (by omega) t v ht (by rw [List.getElem_zipWith]; exact hv)
 rw [he] at q
 refine ⟨am, cm, q 0 _ (by omega) rfl, q 1 _ (by omega) rfl, q 2 _ (by omega) rfl, q 3 _ (by omega) rfl, q 4 _ (by omega) rfl, ?_, ?_⟩
 · exact q 5 _ (by omega) (by rw [← e5]; rfl)
 · rw [← e5]; exact g4.2.2.2.2
end Go.Proofs.YtonegoemmologaaGreatDoor
