/-
  AppendUint and AppendInt at base 10: total, and functions of the number.
  An Encoder of the text form without an indent: its row, what it has written; prepareNext.
  prepareNext where a space stands ahead.
-/
import Derived.Test.YtmijjppjodpagaaGreatDoorM11
import Derived.Defers
import Derived.Deep.RegionHeld3
set_option linter.unusedVariables false
set_option linter.unusedSimpArgs false
namespace Go.Proofs.YtmijjppjodpagaaGreatDoor
open Go.RowKit
theorem fmt10N_any (N d nd : Nat) (hN : 20 ≤ N) (hd : d < 18446744073709551616) (hn : nd ≤ 20) (hlt : d < 10 ^ nd) (w : World) (B cap : Nat) (hz : ZeroRow w B N) :
    Calls Tryz.prog 111 #[.slice (some ⟨B, 0, none⟩) nd cap, .int .u64 (d : Int)] w fun e w' => e = .returned (.tuple #[]) ∧ Keeps (fun k => k = B) w w' ∧ ∀ j, j < nd → w'.cell? ⟨B, j, none⟩ = some (.int .u8 ((Lib.dg d (nd - 1 - j)).toNat : Int)) := by
  obtain ⟨T, hrow⟩ := hz
  have hsz : (Array.replicate nd (0 : UInt8)).size = nd := Array.size_replicate
  have hH : Go.Sort.Holds encU8 w B 0 (Array.replicate nd 0) := by
    intro j hj
    rw [hsz] at hj
    constructor
    · rw [cell_row hrow]
      simp [encU8, hj, show j < N by omega]
    · exact frozen_row hrow
  have h := Any.internal_strconv_formatBase10 Tryz.lays285 B 0 cap d (Array.replicate nd 0) w hH (by rw [hsz]; exact hlt) hd (by rw [hsz]; omega)
  rw [hsz] at h
  refine h.mono ?_
  rintro e w' ⟨he, n, v', dk, hw, hf⟩
  subst hw
  refine ⟨he, putRow_keeps w B n dk, fun j hj => ?_⟩
  have hc := Go.Sort.cell?_putRow encU8 w B 0 (Array.replicate nd 0) dk hH (by rw [hsz]; exact hf.size) j (by rw [hf.size]; exact hj)
  rw [Nat.zero_add] at hc
  have hc2 : ((Go.Sort.putRow encU8 w B 0 dk).drewN n).cell? ⟨B, j, none⟩ = (Go.Sort.putRow encU8 w B 0 dk).cell? ⟨B, j, none⟩ := rfl
  rw [show (fun b : UInt8 => Value.int .u8 (b.toNat : Int)) = encU8 from rfl, hc2, hc, hf.done j (by omega) hj]
  rfl
/-- What AppendUint does: append T. -/
def AUSay (f : FuncId) (x : Value) (T : List UInt8) : Prop := ∀ (w : World) (v : Value) (l : List UInt8), Ten w → Own w v l → l.length ≤ 140737488350000 → Calls Tryz.prog f #[v, x, .int .i64 10] w (OutRes w v (l ++ T))
set_option maxRecDepth 1000000 in
set_option maxHeartbeats 8000000 in
theorem appendUint_in (u : Nat) (hu : u < 18446744073709551616) : ∃ T : List UInt8, T.length ≤ 30 ∧ AUSay 82 (.int .u64 (u : Int)) T := by
  by_cases h100 : u < 100
  · have hlen : (Lib.decDigits u).length ≤ 20 := by rw [Lib.decDigits_length]; exact Lib.nDigits_le20 u hu
    refine ⟨Lib.decDigits u, by omega, fun w v l hT hO hl => ?_⟩
    have HS := Lib.hid (Any.internal_strconv_small Tryz.lays283 u h100)
    have H0 := Lib.hid (Out.start hO)
    have h100' : (u : Int) < 100 := by omega
    obtain ⟨D, hD⟩ : ∃ D, Lib.decDigits u = D := ⟨_, rfl⟩
    rw [hD] at HS hlen ⊢
    clear hT hO hD
    go_enter Tryz.func82, Tryz.ntmps82
    go_wp2_with (first
      | (go_at_call 109; refine (HS.out _).mono ?_; rintro e w' ⟨rfl, hww⟩; obtain rfl := hww.symm)
      | (at_builtin; refine at_out_str H0.out (.tmp 13) (.tmp 16) D (by omega) rfl rfl rfl rfl ?_; intro v2 w2 o2; have O2 := Lib.hid o2; clear o2))
    go_ret
    exact ⟨_, rfl, O2.out⟩
  · obtain ⟨nd, hnd, hnd2, hnum⟩ := numDigits_ex u hu
    obtain ⟨D, hDl, hDg⟩ : ∃ m : List UInt8, m.length = nd ∧ ∀ j (h : j < m.length), m[j] = Lib.dg u (nd - 1 - j) := ⟨(List.range nd).map (fun j => Lib.dg u (nd - 1 - j)), by simp, fun j h => by simp⟩
    refine ⟨D, by omega, fun w v l hT hO hl => ?_⟩
    have HNUM := Lib.hid hnum
    have HFM := Lib.hid (fun (w : World) (B : Nat) (hz : ZeroRow w B 24) => fmt10N_any 24 u nd (by omega) hu hnd hnd2 w B 24 hz)
    have HOWN := Lib.hid hO
    have HT := Lib.hid hT
    have h100' : ¬ (u : Int) < 100 := by omega
    have hle : (nd : Int) ≤ 24 := by omega
    clear hnum hT hO hnd2
    go_enter Tryz.func82, Tryz.ntmps82
    go_upto_region 5 with (fail)
    obtain ⟨W1, hW1⟩ : ∃ W, w.alloc (.cells #[.int .u8 0, .int .u8 0, .int .u8 0, .int .u8 0, .int .u8 0, .int .u8 0, .int .u8 0, .int .u8 0, .int .u8 0, .int .u8 0, .int .u8 0, .int .u8 0, .int .u8 0, .int .u8 0, .int .u8 0, .int .u8 0, .int .u8 0, .int .u8 0, .int .u8 0, .int .u8 0, .int .u8 0, .int .u8 0, .int .u8 0, .int .u8 0] 169) = W := ⟨_, rfl⟩
    have hk1 : Keeps (fun _ => False) w W1 := by rw [← hW1]; exact (Keeps.refl _ w).alloc _
    have hz1 : ZeroRow W1 w.heap.size 24 := by rw [← hW1]; exact ⟨_, heap_alloc_new w _⟩
    rw [hW1]
    have hvb : ∀ k, v.ownBlock = some k → k < w.heap.size := HOWN.out.lt
    obtain ⟨K, hK⟩ : ∃ K, w.heap.size = K := ⟨_, rfl⟩
    have hKw : w.heap.size ≤ K := Nat.le_of_eq hK
    rw [hK] at hz1 hvb ⊢
    have HKW := Lib.hid hKw
    have HK1 := Lib.hid hk1
    have HZ1 := Lib.hid hz1
    clear hW1 hk1 hz1 hK hKw hvb
    go_wp2_with (first
      | (go_at_call 110; refine (HNUM.out _ (HT.out.keeps HK1.out id)).mono ?_; rintro e w' ⟨rfl, hww⟩; obtain rfl := hww.symm)
      | (go_at_call 111; refine (HFM.out _ _ HZ1.out).mono ?_; rintro e w3 ⟨rfl, k3, d3⟩; have K3 : Hid (Keeps (fun _ => False) w w3) := HK1.out.trans k3 (fun i hi e => by have := HKW.out; omega); have D3 := Lib.hid d3; clear k3 d3; have HB3 : Hid (BytesAt w3 (.slice (some ⟨K, 0, none⟩) nd 24) D) := ⟨_, 24, by rw [hDl], by omega, by unfold maxLen; omega, .inr ⟨K, 0, rfl, fun j hj => by rw [Nat.zero_add, hDg j hj]; exact D3.out j (by omega)⟩⟩; have H3 := Lib.hid (Out.start (HOWN.out.below K3.out)))
      | (at_builtin; refine at_out_app H3.out (.tmp 24) (.tmp 26) HB3.out (by omega) rfl rfl rfl rfl ?_; intro v2 w2 o2; have O2 := Lib.hid o2; clear o2))
    go_ret
    exact OutRes.rebase K3.out ⟨_, rfl, O2.out⟩
set_option maxRecDepth 1000000 in
set_option maxHeartbeats 8000000 in
theorem appendUint_ex (u : Nat) (hu : u < 18446744073709551616) : ∃ T : List UInt8, T.length ≤ 31 ∧ AUSay 60 (.int .u64 (u : Int)) T := by
  obtain ⟨T, hT, h⟩ := appendUint_in u hu
  refine ⟨T, by omega, fun w v l hF hO hl => ?_⟩
  have HH := Lib.hid (h w v l hF hO hl)
  clear h hF hO hl
  go_enter Tryz.func60, Tryz.ntmps60
  go_wp2_with (go_at_call 82; refine HH.out.mono ?_; rintro e w2 ⟨v2, rfl, o2⟩; have O2 := Lib.hid o2; clear o2)
  go_ret
  exact ⟨_, rfl, O2.out⟩
theorem Out.andThen {B w w' : World} {v0 v v' : Value} {l T : List UInt8} (h : Out B v0 w v l) (h2 : Out w v w' v' (l ++ T)) : Out B v0 w' v' (l ++ T) := h.step h2.own h2.keeps h2.moved (h2.pre l h.own).1 (List.prefix_append _ _)
/-- v lies in no package-level variable. -/
def Free (v : Value) : Prop := ∀ k, v.ownBlock = some k → 14 ≤ k
/-- What AppendInt does: append T. -/
def AISay (f : FuncId) (x : Value) (T : List UInt8) : Prop := ∀ (w : World) (v : Value) (l : List UInt8), Ten w → Own w v l → Free v → l.length ≤ 140737488349000 → Calls Tryz.prog f #[v, x, .int .i64 10] w (OutRes w v (l ++ T))
set_option maxRecDepth 1000000 in
set_option maxHeartbeats 8000000 in
theorem appendInt_in (n : Int) (h0 : -9223372036854775808 ≤ n) (h1 : n ≤ 9223372036854775807) : ∃ T : List UInt8, T.length ≤ 31 ∧ AISay 81 (.int .i64 n) T := by
  by_cases hn : n < 0
  · obtain ⟨u, hu⟩ : ∃ u : Nat, IntKind.u64.wrap (-IntKind.u64.wrap n) = (u : Int) := ⟨(IntKind.u64.wrap (-IntKind.u64.wrap n)).toNat, by have := wrapu_range (-IntKind.u64.wrap n); omega⟩
    have hu2 : u < 18446744073709551616 := by have := wrapu_range (-IntKind.u64.wrap n); omega
    obtain ⟨T, hT, h⟩ := appendUint_in u hu2
    refine ⟨[45] ++ T, by simp; omega, fun w v l hF hO hfr hl => ?_⟩
    have H0 := Lib.hid (Out.start hO)
    have HF := Lib.hid hF
    have HH := Lib.hid h
    have HFR : Hid (¬ blk v 5) := fun e => absurd (hfr _ e) (by decide)
    clear hO hF h hfr
    go_enter Tryz.func81, Tryz.ntmps81
    go_wp2_with (first
      | (at_builtin; refine at_out_lit H0.out (.tmp 12) (.tmp 13) [45] (by simp; omega) rfl rfl rfl rfl ?_; intro v1 w1 o1; have H1 := Lib.hid o1; clear o1)
      | (go_at_call 82; refine (HH.out _ _ _ (HF.out.keeps H1.out.keeps HFR.out) H1.out.own (by simp; omega)).mono ?_; rintro e w2 ⟨v2, rfl, o2⟩; have O2 := Lib.hid o2; clear o2))
    go_ret
    have h := H1.out.andThen O2.out
    rw [List.append_assoc] at h
    exact ⟨_, rfl, h⟩
  · obtain ⟨u, rfl⟩ : ∃ u : Nat, n = (u : Int) := ⟨n.toNat, by omega⟩
    obtain ⟨T, hT, h⟩ := appendUint_in u (by omega)
    refine ⟨T, by omega, fun w v l hF hO hfr hl => ?_⟩
    have HH := Lib.hid (h w v l hF hO (by omega))
    clear h hF hO hl hfr
    go_enter Tryz.func81, Tryz.ntmps81
    go_wp2_with (go_at_call 82; refine HH.out.mono ?_; rintro e w2 ⟨v2, rfl, o2⟩; have O2 := Lib.hid o2; clear o2)
    go_ret
    exact ⟨_, rfl, O2.out⟩
set_option maxRecDepth 1000000 in
set_option maxHeartbeats 8000000 in
theorem appendInt_ex (n : Int) (h0 : -9223372036854775808 ≤ n) (h1 : n ≤ 9223372036854775807) : ∃ T : List UInt8, T.length ≤ 31 ∧ AISay 59 (.int .i64 n) T := by
  obtain ⟨T, hT, h⟩ := appendInt_in n h0 h1
  refine ⟨T, by omega, fun w v l hF hO hfr hl => ?_⟩
  have HH := Lib.hid (h w v l hF hO hfr hl)
  clear h hF hO hl hfr
  go_enter Tryz.func59, Tryz.ntmps59
  go_wp2_with (go_at_call 81; refine HH.out.mono ?_; rintro e w2 ⟨v2, rfl, o2⟩; have O2 := Lib.hid o2; clear o2)
  go_ret
  exact ⟨_, rfl, O2.out⟩
end Go.Proofs.YtmijjppjodpagaaGreatDoor

namespace Go.Proofs.YtmijjppjodpagaaGreatDoor
open Go.RowKit

/-- The cells of an Encoder that has no indent. -/
def erow (k : Nat) (v : Value) : Array Value := #[.int .u8 (k : Int), .slice none 0 0, v, .string ⟨#[]⟩, .int .u8 123, .int .u8 125, .bool false]
/-- In w the Encoder E has written l (v owns it), last a thing of the kind k; w is B but for E, v0's block and new ones. -/
structure EOut (B : World) (E : Nat) (v0 : Value) (w : World) (k : Nat) (v : Value) (l : List UInt8) : Prop where
  row : w.heap[E]? = some (.cells (erow k v) 87 (0, 0))
  own : Own w v l
  keeps : Keeps (fun j => blk v0 j ∨ j = E) B w
  moved : Moved B v0 v
  pre : ∀ l0, Own B v0 l0 → Own w v0 l0 ∧ ∀ b, v0.ownBlock = some b → v.ownBlock = some b → l0 <+: l
  ne : v.ownBlock ≠ some E
  ne0 : v0.ownBlock ≠ some E
  free : Free v
theorem EOut.elt {B : World} {E : Nat} {v0 : Value} {w : World} {k : Nat} {v : Value} {l : List UInt8} (h : EOut B E v0 w k v l) : E < w.heap.size := row_lt h.row
theorem EOut.below {B : World} {E : Nat} {v0 : Value} {w w' : World} {k : Nat} {v : Value} {l : List UInt8} (h : EOut B E v0 w k v l) (hk : Keeps (fun _ => False) w w') : EOut B E v0 w' k v l :=
  ⟨hk.row h.row id, h.own.below hk, h.keeps.trans hk (fun _ _ h => h.elim), h.moved, fun l0 h0 => ⟨(h.pre l0 h0).1.below hk, (h.pre l0 h0).2⟩, h.ne, h.ne0, h.free⟩
/-- A store into the Encoder's row. -/
theorem EOut.set {B : World} {E : Nat} {v0 : Value} {w : World} {k k' j : Nat} {v v' : Value} {l : List UInt8} (h : EOut B E v0 w k v l) (u : Value) (hu : (erow k v).setIfInBounds j u = erow k' v) : EOut B E v0 (w.setCell ⟨E, j, none⟩ u) k' v l := by
  have hk : Keeps (fun i => i = E) w (w.setCell ⟨E, j, none⟩ u) := Keeps.setCell (S := fun i => i = E) (Keeps.refl _ w) ⟨E, j, none⟩ (fun _ => rfl) u
  refine ⟨by rw [setCell_row h.row, hu], h.own.keeps hk (fun b hb e => h.ne (by rw [hb, e])), h.keeps.trans hk (fun _ _ h => .inr h), h.moved, fun l0 h0 => ⟨(h.pre l0 h0).1.keeps hk (fun b hb e => h.ne0 (by rw [hb, e])), (h.pre l0 h0).2⟩, h.ne, h.ne0, h.free⟩
theorem EOut.last {B : World} {E : Nat} {v0 : Value} {w : World} {k : Nat} {v : Value} {l : List UInt8} (h : EOut B E v0 w k v l) (k' : Nat) : EOut B E v0 (w.setCell ⟨E, 0, none⟩ (.int .u8 (k' : Int))) k' v l := EOut.set (v' := v) h _ rfl
/-- What is appended is stored. -/
theorem EOut.app {B : World} {E : Nat} {v0 : Value} {w : World} {k : Nat} {v : Value} {l T : List UInt8} {w1 : World} {v1 : Value} (h : EOut B E v0 w k v l) (hf : 14 ≤ w.heap.size) (o : Out w v w1 v1 (l ++ T)) : EOut B E v0 (w1.setCell ⟨E, 2, none⟩ v1) k v1 (l ++ T) := by
  have hE := h.elt
  have hne1 : v1.ownBlock ≠ some E := fun e => by
    rcases o.moved E e with h1 | h1
    · exact h.ne h1
    · omega
  have hk : Keeps (fun i => i = E) w1 (w1.setCell ⟨E, 2, none⟩ v1) := Keeps.setCell (S := fun i => i = E) (Keeps.refl _ w1) ⟨E, 2, none⟩ (fun _ => rfl) v1
  have hrow := o.keeps.row h.row h.ne
  refine ⟨by rw [setCell_row hrow]; rfl, o.own.keeps hk (fun b hb e => hne1 (by rw [hb, e])), ?_, ?_, fun l0 h0 => ?_, hne1, h.ne0, fun b hb => ?_⟩
  · refine (h.keeps.trans o.keeps (fun i hi h1 => ?_)).trans hk (fun _ _ h => .inr h)
    rcases h.moved i h1 with h2 | h2
    · exact .inl h2
    · omega
  · exact h.moved.trans h.keeps o.moved
  · obtain ⟨h1, h2⟩ := h.pre l0 h0
    have hold := (o.pre l h.own).1
    refine ⟨Own.keeps ?_ hk (fun b hb e => h.ne0 (by rw [hb, e])), fun b e0 e1 => ?_⟩
    · cases e0 : v0.ownBlock with
      | none => exact h1.keeps o.keeps (fun b hb => by rw [e0] at hb; cases hb)
      | some b =>
        by_cases e : v.ownBlock = some b
        · exact h1.part h.own hold e0 e (h2 b e0 e)
        · exact h1.keeps o.keeps (fun b2 hb2 h3 => e (by rw [e0] at hb2; cases hb2; exact h3))
    · rcases o.moved b e1 with h3 | h3
      · exact (h2 b e0 h3).trans (List.prefix_append _ _)
      · have := h1.lt b e0
        omega
  · rcases o.moved b hb with h3 | h3
    · exact h.free b h3
    · omega
section
variable {ops : Array Oper} {o : Oper} {a : Act} {Q : Exit → Act → World → Prop} {w : World} {B : World} {v0 : Value} {K : Act → World → Prop} {E : Prop}
theorem step_out_lit {v : Value} {l : List UInt8} (s x : Operand) (c : List UInt8) (hb : l.length + c.length ≤ 140737488355328)
    (hgd : o.guard = none) (ho : o.op = .call { callee := .builtin .append, args := #[s, x], argTypes := #[31, 31] }) (h : Out B v0 w v l) (hs : a.eval s = v) (hx : a.eval x = .slice (some ⟨w.heap.size, 0, none⟩) c.length c.length)
    (hk : ∀ v' w', Out B v0 w' v' (l ++ c) → K (a.put o.dst v') w') : if Region.wanted o (yielded ops a.tmps) = true then Oper.wp Tryz.prog o a (w.alloc (.cells (bv c).toArray 5)) K Q else E :=
  step_out_app (h.alloc _) s x (bytesAt_new w c (by unfold maxLen; omega)) hb hgd ho hs hx hk
end
theorem Own.sform {w : World} {v : Value} {l : List UInt8} (h : Own w v l) : ∃ a n c, v = .slice a n c := by
  obtain ⟨a, c, h1, _⟩ := h.form
  exact ⟨a, _, c, h1⟩
/-- What an Encoder's method leaves. -/
def EPost (B : World) (E : Nat) (v0 : Value) (k : Nat) (l : List UInt8) (e : Ending) (w' : World) : Prop := e = .returned (.tuple #[]) ∧ ∃ v', EOut B E v0 w' k v' l

set_option maxRecDepth 1000000 in
theorem prep_deferred (E P N nx : Nat) (c0 : Value) (u : FrameMode) (w : World) (hP : w.cell? ⟨P, 0, none⟩ = some (.pointer (some ⟨E, 0, none⟩))) (hN : w.cell? ⟨N, 0, none⟩ = some (.int .u8 (nx : Int))) (hD : w.cell? ⟨E, 0, none⟩ = some c0) (hf : w.frozen? ⟨E, 0, none⟩ = false) :
    CallsD Tryz.prog 74 #[.pointer (some ⟨N, 0, none⟩), .pointer (some ⟨P, 0, none⟩)] u w fun e u' w' => u' = u ∧ (e = .returned (.tuple #[]) ∧ w' = w.setCell ⟨E, 0, none⟩ (.int .u8 (nx : Int))) := by
  go_enter_d Tryz.func74, Tryz.ntmps74
  go_wp2
  go_end0
  exact ⟨rfl, rfl⟩
/-- Does a space stand ahead of a thing of the kind nx, behind one of the kind k? -/
def spaced (k nx : Nat) : Bool := (bits .and .u8 (k : Int) 10 != 0) && nx == 1

set_option maxRecDepth 1000000 in
set_option maxHeartbeats 20000000 in
theorem prep_no (B : World) (E : Nat) (v0 : Value) (w : World) (k nx : Nat) (v : Value) (l : List UInt8) (h : EOut B E v0 w k v l) (hs : spaced k nx = false) :
    Calls Tryz.prog 56 #[.pointer (some ⟨E, 0, none⟩), .int .u8 (nx : Int)] w (EPost B E v0 nx l) := by
  have hmf : ∀ (fn : Fn) (first cap : Array Value) (w : World), (Instr.makeFunc fn first cap).run Tryz.prog w = .ok (.func fn first cap) w := fun _ _ _ _ => rfl
  obtain ⟨W0, hW0⟩ : ∃ W0, (w.alloc (.cells #[.pointer (some ⟨E, 0, none⟩)] 56)).alloc (.cells #[.int .u8 (nx : Int)] 64) = W0 := ⟨_, rfl⟩
  have hk0 : Keeps (fun _ => False) w W0 := by rw [← hW0]; exact ((Keeps.refl _ w).alloc _).alloc _
  have rP : W0.heap[w.heap.size]? = some (.cells #[.pointer (some ⟨E, 0, none⟩)] 56 (0, 0)) := by rw [← hW0, heap_alloc2_old w _ _]
  have rN : W0.heap[w.heap.size + 1]? = some (.cells #[.int .u8 (nx : Int)] 64 (0, 0)) := by rw [← hW0]; exact heap_alloc2_new w _ _
  have h0 := h.below hk0
  have cP := cell_row (j := 0) rP
  have cN := cell_row (j := 0) rN
  have c0 := cell_row (j := 0) h0.row
  have c3 := cell_row (j := 3) h0.row
  simp [erow] at cP cN c0 c3
  have H0 := Lib.hid h0
  have HW0 := Lib.hid hW0
  clear hW0 hk0 rP rN h h0
  go_enter_defers Tryz.func56, Tryz.ntmps56
  go_upto_region 2 with (fail)
  rw [HW0.out]
  obtain ⟨P, hP⟩ : ∃ P, w.heap.size = P := ⟨_, rfl⟩
  obtain ⟨N, hN⟩ : ∃ N, w.heap.size + 1 = N := ⟨_, rfl⟩
  rw [hN] at cN ⊢
  rw [hP] at cP ⊢
  clear hN hP HW0
  have hfin : ∀ w', w' = W0.setCell ⟨E, 0, none⟩ (.int .u8 (nx : Int)) → EPost B E v0 nx l (.returned (.tuple #[])) w' := fun w' hw => ⟨rfl, v, by rw [hw]; exact H0.out.last nx⟩
  have HFIN := Lib.hid hfin
  have HDEF := Lib.hid (prep_deferred E P N nx (.int .u8 (k : Int)) .returning W0 cP cN c0 (frozen_row H0.out.row))
  clear hfin
  by_cases hb : (bits .and .u8 (k : Int) 10 != 0) = true
  · have hn : ((nx : Int) == 1) = false := by
      unfold spaced at hs
      rw [hb] at hs
      simp at hs ⊢
      omega
    clear hs
    go_wp2_with (fail)
    refine leaves_cons (f := 74) (args := #[.pointer (some ⟨N, 0, none⟩), .pointer (some ⟨P, 0, none⟩)]) (by simp) (by simp [go_sem]) ?_
    refine HDEF.out.mono ?_
    rintro e u' w6 ⟨rfl, rfl, hw6⟩
    exact ⟨_, results_none rfl _ _ _, HFIN.out w6 hw6⟩
  · have hb' : (bits .and .u8 (k : Int) 10 != 0) = false := by simpa using hb
    clear hs hb
    go_wp2_with (fail)
    refine leaves_cons (f := 74) (args := #[.pointer (some ⟨N, 0, none⟩), .pointer (some ⟨P, 0, none⟩)]) (by simp) (by simp [go_sem]) ?_
    refine HDEF.out.mono ?_
    rintro e u' w6 ⟨rfl, rfl, hw6⟩
    exact ⟨_, results_none rfl _ _ _, HFIN.out w6 hw6⟩
end Go.Proofs.YtmijjppjodpagaaGreatDoor

namespace Go.Proofs.YtmijjppjodpagaaGreatDoor
open Go.RowKit
set_option maxRecDepth 1000000 in
set_option maxHeartbeats 20000000 in
theorem prep_sp (B : World) (E : Nat) (v0 : Value) (w : World) (k nx : Nat) (v : Value) (l : List UInt8) (h : EOut B E v0 w k v l) (hs : spaced k nx = true) (hl : l.length ≤ 140737488350000) (hTB : 14 ≤ w.heap.size) :
    Calls Tryz.prog 56 #[.pointer (some ⟨E, 0, none⟩), .int .u8 (nx : Int)] w (EPost B E v0 nx (l ++ [32])) := by
  have hmf : ∀ (fn : Fn) (first cap : Array Value) (w : World), (Instr.makeFunc fn first cap).run Tryz.prog w = .ok (.func fn first cap) w := fun _ _ _ _ => rfl
  obtain ⟨W0, hW0⟩ : ∃ W0, (w.alloc (.cells #[.pointer (some ⟨E, 0, none⟩)] 56)).alloc (.cells #[.int .u8 (nx : Int)] 64) = W0 := ⟨_, rfl⟩
  have hk0 : Keeps (fun _ => False) w W0 := by rw [← hW0]; exact ((Keeps.refl _ w).alloc _).alloc _
  have rP : W0.heap[w.heap.size]? = some (.cells #[.pointer (some ⟨E, 0, none⟩)] 56 (0, 0)) := by rw [← hW0, heap_alloc2_old w _ _]
  have rN : W0.heap[w.heap.size + 1]? = some (.cells #[.int .u8 (nx : Int)] 64 (0, 0)) := by rw [← hW0]; exact heap_alloc2_new w _ _
  have h0 := h.below hk0
  have hlt := h.own.lt
  have HKS := Lib.hid hk0.size
  have HEL := Lib.hid h.elt
  have cP := cell_row (j := 0) rP
  have cN := cell_row (j := 0) rN
  have c0 := cell_row (j := 0) h0.row
  have c3 := cell_row (j := 3) h0.row
  simp [erow] at cP cN c0 c3
  have H0 := Lib.hid h0
  have HW0 := Lib.hid hW0
  clear hW0 hk0 rP rN h h0
  go_enter_defers Tryz.func56, Tryz.ntmps56
  go_upto_region 2 with (fail)
  rw [HW0.out]
  obtain ⟨P, hP⟩ : ∃ P, w.heap.size = P := ⟨_, rfl⟩
  have hvP0 : ∀ b, v.ownBlock = some b → b ≠ P := fun b hb e => by have := hlt b hb; omega
  obtain ⟨N, hN⟩ : ∃ N, w.heap.size + 1 = N := ⟨_, rfl⟩
  have hvN0 : ∀ b, v.ownBlock = some b → b ≠ N := fun b hb e => by have := hlt b hb; omega
  have hTB0 : 14 ≤ W0.heap.size := Nat.le_trans hTB HKS.out
  have hPE : ¬ P = E := fun e => by have := HEL.out; omega
  have hNE : ¬ N = E := fun e => by have := HEL.out; omega
  rw [hN] at cN ⊢
  rw [hP] at cP ⊢
  clear hN hP HW0
  have hb : (bits .and .u8 (k : Int) 10 != 0) = true := by
    unfold spaced at hs
    simp at hs ⊢
    exact hs.1
  have hn : ((nx : Int) == 1) = true := by
    unfold spaced at hs
    simp at hs ⊢
    omega
  have c2 := cell_row (j := 2) H0.out.row
  have hf2 := frozen_row (j := 2) H0.out.row
  simp [erow] at c2
  clear hs
  go_upto_region 4 with (fail)
  have HS : Hid (∀ w', Keeps (fun _ => False) W0 w' → w'.cell? ⟨P, 0, none⟩ = some (.pointer (some ⟨E, 0, none⟩)) ∧ w'.cell? ⟨E, 2, none⟩ = some v) := fun w' h => ⟨h.cell cP id, h.cell c2 id⟩
  have HO0 := Lib.hid (Out.start H0.out.own)
  have hvP : ¬ blk v P := fun e => hvP0 P e rfl
  have hvE : ¬ blk v E := H0.out.ne
  have hvN : ¬ blk v N := fun e => hvN0 N e rfl
  have HBA : Hid (BytesAt ((W0.alloc (.cells #[.int .u8 32] 5)).drew) (.slice (some ⟨W0.heap.size, 0, none⟩) 1 1) [32]) := (bytesAt_new W0 [32] (by decide)).keeps ((Keeps.refl (fun _ => False) _).drew) (fun _ _ => id)
  have p1 : W0.drew.cell? ⟨P, 0, none⟩ = some (.pointer (some ⟨E, 0, none⟩)) := cP
  have p2 : W0.drew.cell? ⟨E, 2, none⟩ = some v := c2
  have p3 : (W0.alloc (.cells #[.int .u8 32] 5)).cell? ⟨P, 0, none⟩ = some (.pointer (some ⟨E, 0, none⟩)) := ((Keeps.refl (fun _ => False) W0).alloc _).cell cP id
  have p4 : (W0.alloc (.cells #[.int .u8 32] 5)).cell? ⟨E, 2, none⟩ = some v := ((Keeps.refl (fun _ => False) W0).alloc _).cell c2 id
  refine wp_region_noPanic ?_
  go_region_law (refine step_out_app (B := W0) (v0 := v) (r := [32]) (HO0.out.below ?_) (.tmp 27) (.tmp 28) (xv := .slice (some ⟨W0.heap.size, 0, none⟩) 1 1) ?_ (by simp; omega) rfl rfl (by simp [Act.eval]) (by simp [Act.eval]) ?_; (repeat (first | exact Keeps.refl _ _ | apply Keeps.drew | apply Keeps.alloc)); (exact HBA.out); intro v2 w2 o2; obtain ⟨a2, n2, q2, rfl⟩ := o2.own.sform; have O2 := Lib.hid o2; have s1 := o2.keeps.cell cP hvP; have s2 := o2.keeps.cell c2 hvE; have s3 := o2.keeps.cell cN hvN; have r2 := o2.keeps.row H0.out.row hvE; have z2 := frozen_row (j := 2) r2; clear o2 r2)
  all_goals refine NoPanic.normal ?_
  all_goals go_wp2_with (fail)
  all_goals
    have h1 := EOut.app H0.out hTB0 O2.out
    have k1 : Keeps (fun i => i = E) w2 (w2.setCell ⟨E, 2, none⟩ (.slice a2 n2 q2)) := Keeps.setCell (S := fun i => i = E) (Keeps.refl _ w2) ⟨E, 2, none⟩ (fun _ => rfl) _
    refine leaves_cons (f := 74) (args := #[.pointer (some ⟨N, 0, none⟩), .pointer (some ⟨P, 0, none⟩)]) (by simp) (by simp [go_sem]) ?_
    refine (prep_deferred E P N nx (.int .u8 (k : Int)) .returning _ (k1.cell s1 hPE) (k1.cell s3 hNE) ((cell_row h1.row).trans rfl) (frozen_row h1.row)).mono ?_
    rintro e u' w6 ⟨rfl, rfl, hw6⟩
    exact ⟨_, results_none rfl _ _ _, rfl, _, by rw [hw6]; exact h1.last nx⟩
end Go.Proofs.YtmijjppjodpagaaGreatDoor
