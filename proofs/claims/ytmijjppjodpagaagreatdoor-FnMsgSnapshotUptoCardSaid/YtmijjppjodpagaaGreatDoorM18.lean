/-
  What the methods of an Encoder without an indent write.
  WriteString, StartMessage, EndMessage of an Encoder without an indent.
-/
import Derived.Test.YtmijjppjodpagaaGreatDoorM12
import Derived.Test.YtmijjppjodpagaaGreatDoorM14
import Derived.Test.YtmijjppjodpagaaGreatDoorM17
set_option linter.unusedVariables false
set_option linter.unusedSimpArgs false
namespace Go.Proofs.YtmijjppjodpagaaGreatDoor
open Go.RowKit
/-- What prepareNext writes. -/
def sp (k nx : Nat) : List UInt8 := if spaced k nx = true then [32] else []
theorem sp_le (k nx : Nat) : (sp k nx).length ≤ 1 := by
  unfold sp
  split <;> simp
theorem prep_any (nx : Nat) (B : World) (E : Nat) (v0 : Value) (w : World) (k : Nat) (v : Value) (l : List UInt8) (h : EOut B E v0 w k v l) (hTB : 14 ≤ w.heap.size) (hl : l.length ≤ 140737488340000) : Calls Tryz.prog 56 #[.pointer (some ⟨E, 0, none⟩), .int .u8 (nx : Int)] w (EPost B E v0 nx (l ++ sp k nx)) := by
  cases hs : spaced k nx with
  | false =>
    have e : sp k nx = [] := by unfold sp; rw [hs]; rfl
    rw [e, List.append_nil]
    exact prep_no B E v0 w k nx v l h hs
  | true =>
    have e : sp k nx = [32] := by unfold sp; rw [hs]; rfl
    rw [e]
    exact prep_sp B E v0 w k nx v l h hs (by omega) hTB
theorem EOut.size {B : World} {E : Nat} {v0 : Value} {w : World} {k : Nat} {v : Value} {l : List UInt8} (hB : 14 ≤ B.heap.size) (h : EOut B E v0 w k v l) : 14 ≤ w.heap.size := Nat.le_trans hB h.keeps.size
set_option maxRecDepth 1000000 in
set_option maxHeartbeats 20000000 in
theorem writeName_any (s : List UInt8) (hs : s.length ≤ 2147483647) (B : World) (E : Nat) (v0 : Value) (w : World) (k : Nat) (v : Value) (l : List UInt8) (h : EOut B E v0 w k v l) (hTB : 14 ≤ B.heap.size) (hl : l.length ≤ 130000000000000) : Calls Tryz.prog 33 #[.pointer (some ⟨E, 0, none⟩), .string (mk s)] w (EPost B E v0 1 (((l ++ sp k 1) ++ s) ++ [58])) := by
  have hl0 := hl
  have hl : l.length ≤ 140737488340000 := by omega
  have HP := Lib.hid (prep_any 1 B E v0 w k v l h (EOut.size hTB h) hl)
  obtain ⟨S0, hS0⟩ : ∃ S0, sp k 1 = S0 := ⟨_, rfl⟩
  have hS1 : S0.length ≤ 1 := by rw [← hS0]; exact sp_le k 1
  rw [hS0] at HP ⊢
  have HTB := Lib.hid hTB
  clear h hS0 hTB
  go_enter Tryz.func33, Tryz.ntmps33
  go_upto_region 2 with (first
    | (go_at_call 56; refine HP.out.mono ?_; rintro e w1 ⟨rfl, v1, h1⟩; have c2 := cell_row (j := 2) h1.row; have f2 := frozen_row (j := 2) h1.row; simp [erow] at c2; have H1 := Lib.hid h1; have O1 := Lib.hid (Out.start h1.own); clear h1)
    | (at_builtin; refine at_out_str O1.out (.tmp 11) (.tmp 12) s (by simp; omega) rfl rfl rfl rfl ?_; intro v2 w2 o2; obtain ⟨a2, n2, q2, rfl⟩ := o2.own.sform; have f2 := frozen_row (j := 2) (o2.keeps.row H1.out.row H1.out.ne); have c2 := cell_row (j := 2) (o2.keeps.row H1.out.row H1.out.ne); simp [erow] at c2; have O2 := Lib.hid o2; clear o2))
  have h2 := EOut.app H1.out (EOut.size HTB.out H1.out) O2.out
  obtain ⟨W2, hW2⟩ : ∃ W, w2.setCell ⟨E, 2, none⟩ (.slice a2 n2 q2) = W := ⟨_, rfl⟩
  rw [hW2] at h2 ⊢
  clear hW2 c2 f2
  have c2 := cell_row (j := 2) h2.row
  have f2 := frozen_row (j := 2) h2.row
  simp [erow] at c2
  have H3 := Lib.hid h2
  have O3 := Lib.hid (Out.start h2.own)
  clear h2
  go_wp2_with (at_builtin; refine at_out_lit O3.out (.tmp 22) (.tmp 23) [58] (by simp; omega) rfl rfl rfl rfl ?_; intro v4 w4 o4; obtain ⟨a4, n4, q4, rfl⟩ := o4.own.sform; have f4 := frozen_row (j := 2) (o4.keeps.row H3.out.row H3.out.ne); have c4 := cell_row (j := 2) (o4.keeps.row H3.out.row H3.out.ne); simp [erow] at c4; have O4 := Lib.hid o4; clear o4)
  go_end0
  exact ⟨rfl, _, EOut.app H3.out (EOut.size HTB.out H3.out) O4.out⟩
set_option maxRecDepth 1000000 in
set_option maxHeartbeats 20000000 in
theorem writeLiteral_any (s : List UInt8) (hs : s.length ≤ 2147483647) (B : World) (E : Nat) (v0 : Value) (w : World) (k : Nat) (v : Value) (l : List UInt8) (h : EOut B E v0 w k v l) (hTB : 14 ≤ B.heap.size) (hl : l.length ≤ 130000000000000) : Calls Tryz.prog 40 #[.pointer (some ⟨E, 0, none⟩), .string (mk s)] w (EPost B E v0 2 ((l ++ sp k 2) ++ s)) := by
  have hl0 := hl
  have hl : l.length ≤ 140737488340000 := by omega
  have HP := Lib.hid (prep_any 2 B E v0 w k v l h (EOut.size hTB h) hl)
  obtain ⟨S0, hS0⟩ : ∃ S0, sp k 2 = S0 := ⟨_, rfl⟩
  have hS1 : S0.length ≤ 1 := by rw [← hS0]; exact sp_le k 2
  rw [hS0] at HP ⊢
  have HTB := Lib.hid hTB
  clear h hS0 hTB
  go_enter Tryz.func40, Tryz.ntmps40
  go_wp2_with (first
    | (go_at_call 56; refine HP.out.mono ?_; rintro e w1 ⟨rfl, v1, h1⟩; have c2 := cell_row (j := 2) h1.row; have f2 := frozen_row (j := 2) h1.row; simp [erow] at c2; have H1 := Lib.hid h1; have O1 := Lib.hid (Out.start h1.own); clear h1)
    | (at_builtin; refine at_out_str O1.out (.tmp 11) (.tmp 12) s (by simp; omega) rfl rfl rfl rfl ?_; intro v2 w2 o2; obtain ⟨a2, n2, q2, rfl⟩ := o2.own.sform; have f2 := frozen_row (j := 2) (o2.keeps.row H1.out.row H1.out.ne); have c2 := cell_row (j := 2) (o2.keeps.row H1.out.row H1.out.ne); simp [erow] at c2; have O2 := Lib.hid o2; clear o2))
  go_end0
  exact ⟨rfl, _, EOut.app H1.out (EOut.size HTB.out H1.out) O2.out⟩
set_option maxRecDepth 1000000 in
set_option maxHeartbeats 20000000 in
theorem writeBool_any (b : Bool) (B : World) (E : Nat) (v0 : Value) (w : World) (k : Nat) (v : Value) (l : List UInt8) (h : EOut B E v0 w k v l) (hTB : 14 ≤ B.heap.size) (hl : l.length ≤ 130000000000000) : Calls Tryz.prog 34 #[.pointer (some ⟨E, 0, none⟩), .bool b] w (EPost B E v0 2 ((l ++ sp k 2) ++ (if b then [116, 114, 117, 101] else [102, 97, 108, 115, 101]))) := by
  have HT := Lib.hid (writeLiteral_any [116, 114, 117, 101] (by decide) B E v0 w k v l h hTB hl)
  have HF := Lib.hid (writeLiteral_any [102, 97, 108, 115, 101] (by decide) B E v0 w k v l h hTB hl)
  clear h
  cases b
  · go_enter Tryz.func34, Tryz.ntmps34
    go_wp2_with (go_at_call 40; refine HF.out.mono ?_; rintro e w1 ⟨rfl, v1, h1⟩; have H1 := Lib.hid h1; clear h1)
    go_end0
    have h := H1.out
    simp only [List.append_assoc] at h ⊢
    exact ⟨rfl, _, h⟩
  · go_enter Tryz.func34, Tryz.ntmps34
    go_wp2_with (go_at_call 40; refine HT.out.mono ?_; rintro e w1 ⟨rfl, v1, h1⟩; have H1 := Lib.hid h1; clear h1)
    go_end0
    have h := H1.out
    simp only [List.append_assoc] at h ⊢
    exact ⟨rfl, _, h⟩
theorem FT2.keepsS {PT : Nat → Nat × Nat} {S : Nat → Prop} {w w' : World} (h : FT2 PT w) (hk : Keeps S w w') (hS : ∀ k, k < 14 → ¬ S k) : FT2 PT w' :=
  ⟨fun i hi => ⟨hk.cell (h.p10 i hi).1 (hS 9 (by decide)), hk.cell (h.p10 i hi).2.1 (hS 9 (by decide)), (h.p10 i hi).2.2⟩, h.ten.keeps hk (hS _ (by decide)), Nat.lt_of_lt_of_le h.size.1 hk.size, Nat.lt_of_lt_of_le h.size.2 hk.size⟩
/-- The tables lie in the base world, and neither the Encoder nor its first slice in them. -/
structure ETab (PT : Nat → Nat × Nat) (B : World) (E : Nat) (v0 : Value) : Prop where
  tabs : Tabs B
  ft : FT2 PT B
  v0 : Free v0
  e : 14 ≤ E
theorem ETab.spare {PT : Nat → Nat × Nat} {B : World} {E : Nat} {v0 : Value} (h : ETab PT B E v0) : ∀ k, k < 14 → ¬ (blk v0 k ∨ k = E) := fun k hk hs => by
  rcases hs with hs | hs
  · have := h.v0 k hs; omega
  · have := h.e; omega
theorem ETab.ft2 {PT : Nat → Nat × Nat} {B : World} {E : Nat} {v0 : Value} {w : World} {k : Nat} {v : Value} {l : List UInt8} (h : ETab PT B E v0) (o : EOut B E v0 w k v l) : FT2 PT w := h.ft.keepsS o.keeps h.spare
theorem ETab.tabs2 {PT : Nat → Nat × Nat} {B : World} {E : Nat} {v0 : Value} {w : World} {k : Nat} {v : Value} {l : List UInt8} (h : ETab PT B E v0) (o : EOut B E v0 w k v l) : Tabs w := h.tabs.keeps o.keeps h.spare
set_option maxRecDepth 1000000 in
set_option maxHeartbeats 20000000 in
theorem writeInt_any (PT : Nat → Nat × Nat) (B : World) (E : Nat) (v0 : Value) (n : Int) (T : List UInt8) (hT : T.length ≤ 2000) (hsay : AISay 59 (.int .i64 n) T) (hET : ETab PT B E v0) (w : World) (k : Nat) (v : Value) (l : List UInt8) (h : EOut B E v0 w k v l) (hTB : 14 ≤ B.heap.size) (hl : l.length ≤ 130000000000000) : Calls Tryz.prog 38 #[.pointer (some ⟨E, 0, none⟩), .int .i64 n] w (EPost B E v0 2 ((l ++ sp k 2) ++ T)) := by
  have hl0 := hl
  have hl : l.length ≤ 140737488340000 := by omega
  have HSAY := Lib.hid hsay
  have HET := Lib.hid hET
  clear hsay hET
  have HP := Lib.hid (prep_any 2 B E v0 w k v l h (EOut.size hTB h) hl)
  obtain ⟨S0, hS0⟩ : ∃ S0, sp k 2 = S0 := ⟨_, rfl⟩
  have hS1 : S0.length ≤ 1 := by rw [← hS0]; exact sp_le k 2
  rw [hS0] at HP ⊢
  have HTB := Lib.hid hTB
  clear h hS0 hTB
  go_enter Tryz.func38, Tryz.ntmps38
  go_wp2_with (first
    | (go_at_call 56; refine HP.out.mono ?_; rintro e w1 ⟨rfl, v1, h1⟩; have c2 := cell_row (j := 2) h1.row; have f2 := frozen_row (j := 2) h1.row; simp [erow] at c2; have H1 := Lib.hid h1; have O1 := Lib.hid (Out.start h1.own); clear h1)
    | (go_at_call 59; refine (HSAY.out _ _ _ (HET.out.ft2 H1.out).ten H1.out.own H1.out.free (by simp; omega)).mono ?_; rintro e w2 ⟨v2, rfl, o2⟩; obtain ⟨a2, n2, q2, rfl⟩ := o2.own.sform; have f2 := frozen_row (j := 2) (o2.keeps.row H1.out.row H1.out.ne); have c2 := cell_row (j := 2) (o2.keeps.row H1.out.row H1.out.ne); simp [erow] at c2; have O2 := Lib.hid o2; clear o2))
  go_end0
  exact ⟨rfl, _, EOut.app H1.out (EOut.size HTB.out H1.out) O2.out⟩
set_option maxRecDepth 1000000 in
set_option maxHeartbeats 20000000 in
theorem writeUint_any (PT : Nat → Nat × Nat) (B : World) (E : Nat) (v0 : Value) (n : Nat) (T : List UInt8) (hT : T.length ≤ 2000) (hsay : AUSay 60 (.int .u64 (n : Int)) T) (hET : ETab PT B E v0) (w : World) (k : Nat) (v : Value) (l : List UInt8) (h : EOut B E v0 w k v l) (hTB : 14 ≤ B.heap.size) (hl : l.length ≤ 130000000000000) : Calls Tryz.prog 39 #[.pointer (some ⟨E, 0, none⟩), .int .u64 (n : Int)] w (EPost B E v0 2 ((l ++ sp k 2) ++ T)) := by
  have hl0 := hl
  have hl : l.length ≤ 140737488340000 := by omega
  have HSAY := Lib.hid hsay
  have HET := Lib.hid hET
  clear hsay hET
  have HP := Lib.hid (prep_any 2 B E v0 w k v l h (EOut.size hTB h) hl)
  obtain ⟨S0, hS0⟩ : ∃ S0, sp k 2 = S0 := ⟨_, rfl⟩
  have hS1 : S0.length ≤ 1 := by rw [← hS0]; exact sp_le k 2
  rw [hS0] at HP ⊢
  have HTB := Lib.hid hTB
  clear h hS0 hTB
  go_enter Tryz.func39, Tryz.ntmps39
  go_wp2_with (first
    | (go_at_call 56; refine HP.out.mono ?_; rintro e w1 ⟨rfl, v1, h1⟩; have c2 := cell_row (j := 2) h1.row; have f2 := frozen_row (j := 2) h1.row; simp [erow] at c2; have H1 := Lib.hid h1; have O1 := Lib.hid (Out.start h1.own); clear h1)
    | (go_at_call 60; refine (HSAY.out _ _ _ (HET.out.ft2 H1.out).ten H1.out.own (by simp; omega)).mono ?_; rintro e w2 ⟨v2, rfl, o2⟩; obtain ⟨a2, n2, q2, rfl⟩ := o2.own.sform; have f2 := frozen_row (j := 2) (o2.keeps.row H1.out.row H1.out.ne); have c2 := cell_row (j := 2) (o2.keeps.row H1.out.row H1.out.ne); simp [erow] at c2; have O2 := Lib.hid o2; clear o2))
  go_end0
  exact ⟨rfl, _, EOut.app H1.out (EOut.size HTB.out H1.out) O2.out⟩
set_option maxRecDepth 1000000 in
set_option maxHeartbeats 20000000 in
theorem writeFloat_any (PT : Nat → Nat × Nat) (B : World) (E : Nat) (v0 : Value) (b : Nat) (sz : Int) (T : List UInt8) (hT : T.length ≤ 2000) (hsay : AFSay PT b sz T) (hET : ETab PT B E v0) (w : World) (k : Nat) (v : Value) (l : List UInt8) (h : EOut B E v0 w k v l) (hTB : 14 ≤ B.heap.size) (hl : l.length ≤ 130000000000000) : Calls Tryz.prog 36 #[.pointer (some ⟨E, 0, none⟩), .float .f64 b, .int .i64 sz] w (EPost B E v0 2 ((l ++ sp k 2) ++ T)) := by
  have hl0 := hl
  have hl : l.length ≤ 140737488340000 := by omega
  have HSAY := Lib.hid hsay
  have HET := Lib.hid hET
  clear hsay hET
  have HP := Lib.hid (prep_any 2 B E v0 w k v l h (EOut.size hTB h) hl)
  obtain ⟨S0, hS0⟩ : ∃ S0, sp k 2 = S0 := ⟨_, rfl⟩
  have hS1 : S0.length ≤ 1 := by rw [← hS0]; exact sp_le k 2
  rw [hS0] at HP ⊢
  have HTB := Lib.hid hTB
  clear h hS0 hTB
  go_enter Tryz.func36, Tryz.ntmps36
  go_wp2_with (first
    | (go_at_call 56; refine HP.out.mono ?_; rintro e w1 ⟨rfl, v1, h1⟩; have c2 := cell_row (j := 2) h1.row; have f2 := frozen_row (j := 2) h1.row; simp [erow] at c2; have H1 := Lib.hid h1; have O1 := Lib.hid (Out.start h1.own); clear h1)
    | (go_at_call 58; refine (HSAY.out _ _ _ (HET.out.ft2 H1.out) H1.out.own (by simp; omega)).mono ?_; rintro e w2 ⟨v2, rfl, o2⟩; obtain ⟨a2, n2, q2, rfl⟩ := o2.own.sform; have f2 := frozen_row (j := 2) (o2.keeps.row H1.out.row H1.out.ne); have c2 := cell_row (j := 2) (o2.keeps.row H1.out.row H1.out.ne); simp [erow] at c2; have O2 := Lib.hid o2; clear o2))
  go_end0
  exact ⟨rfl, _, EOut.app H1.out (EOut.size HTB.out H1.out) O2.out⟩
end Go.Proofs.YtmijjppjodpagaaGreatDoor

namespace Go.Proofs.YtmijjppjodpagaaGreatDoor
open Go.RowKit
set_option maxRecDepth 1000000 in
set_option maxHeartbeats 20000000 in
theorem startMessage_any (B : World) (E : Nat) (v0 : Value) (w : World) (k : Nat) (v : Value) (l : List UInt8) (h : EOut B E v0 w k v l) (hTB : 14 ≤ B.heap.size) (hl : l.length ≤ 130000000000000) : Calls Tryz.prog 41 #[.pointer (some ⟨E, 0, none⟩)] w (EPost B E v0 4 ((l ++ sp k 4) ++ [123])) := by
  have hl0 := hl
  have hl : l.length ≤ 140737488340000 := by omega
  have HP := Lib.hid (prep_any 4 B E v0 w k v l h (EOut.size hTB h) hl)
  obtain ⟨S0, hS0⟩ : ∃ S0, sp k 4 = S0 := ⟨_, rfl⟩
  have hS1 : S0.length ≤ 1 := by rw [← hS0]; exact sp_le k 4
  rw [hS0] at HP ⊢
  have HTB := Lib.hid hTB
  clear h hS0 hTB
  go_enter Tryz.func41, Tryz.ntmps41
  go_upto_region 1 with (go_at_call 56; refine HP.out.mono ?_; rintro e w1 ⟨rfl, v1, h1⟩; have H1 := Lib.hid h1; clear h1)
  have HO := Lib.hid (Out.start H1.out.own)
  have c2 := cell_row (j := 2) H1.out.row
  have c4 := cell_row (j := 4) H1.out.row
  simp [erow] at c2 c4
  have p2 : (w1.alloc (.cells #[.int .u8 123] 5)).cell? ⟨E, 2, none⟩ = some v1 := ((Keeps.refl (fun _ => False) w1).alloc _).cell c2 id
  have p4 : (w1.alloc (.cells #[.int .u8 123] 5)).cell? ⟨E, 4, none⟩ = some (.int .u8 123) := ((Keeps.refl (fun _ => False) w1).alloc _).cell c4 id
  have HBA : Hid (BytesAt ((w1.alloc (.cells #[.int .u8 123] 5)).drew) (.slice (some ⟨w1.heap.size, 0, none⟩) 1 1) [123]) := (bytesAt_new w1 [123] (by decide)).keeps ((Keeps.refl (fun _ => False) _).drew) (fun _ _ => id)
  have hvE : ¬ blk v1 E := H1.out.ne
  go_region_law (refine step_out_app (B := w1) (v0 := v1) (r := [123]) (HO.out.below ?_) (.tmp 9) (.tmp 15) (xv := .slice (some ⟨w1.heap.size, 0, none⟩) 1 1) ?_ (by simp; omega) rfl rfl (by simp [Act.eval]) (by simp [Act.eval]) ?_; (repeat (first | exact Keeps.refl _ _ | apply Keeps.drew | apply Keeps.alloc)); (exact HBA.out); intro v2 w2 o2; obtain ⟨a2, n2, q2, rfl⟩ := o2.own.sform; have O2 := Lib.hid o2; have s2 := o2.keeps.cell c2 hvE; have s4 := o2.keeps.cell c4 hvE; have r2 := o2.keeps.row H1.out.row hvE; have z2 := frozen_row (j := 2) r2; clear o2 r2)
  all_goals go_wp2_with (fail)
  all_goals go_end0
  all_goals exact ⟨rfl, _, EOut.app H1.out (EOut.size HTB.out H1.out) O2.out⟩
set_option maxRecDepth 1000000 in
set_option maxHeartbeats 20000000 in
theorem endMessage_any (B : World) (E : Nat) (v0 : Value) (w : World) (k : Nat) (v : Value) (l : List UInt8) (h : EOut B E v0 w k v l) (hTB : 14 ≤ B.heap.size) (hl : l.length ≤ 130000000000000) : Calls Tryz.prog 42 #[.pointer (some ⟨E, 0, none⟩)] w (EPost B E v0 8 ((l ++ sp k 8) ++ [125])) := by
  have hl0 := hl
  have hl : l.length ≤ 140737488340000 := by omega
  have HP := Lib.hid (prep_any 8 B E v0 w k v l h (EOut.size hTB h) hl)
  obtain ⟨S0, hS0⟩ : ∃ S0, sp k 8 = S0 := ⟨_, rfl⟩
  have hS1 : S0.length ≤ 1 := by rw [← hS0]; exact sp_le k 8
  rw [hS0] at HP ⊢
  have HTB := Lib.hid hTB
  clear h hS0 hTB
  go_enter Tryz.func42, Tryz.ntmps42
  go_upto_region 1 with (go_at_call 56; refine HP.out.mono ?_; rintro e w1 ⟨rfl, v1, h1⟩; have H1 := Lib.hid h1; clear h1)
  have HO := Lib.hid (Out.start H1.out.own)
  have c2 := cell_row (j := 2) H1.out.row
  have c4 := cell_row (j := 5) H1.out.row
  simp [erow] at c2 c4
  have p2 : (w1.alloc (.cells #[.int .u8 125] 5)).cell? ⟨E, 2, none⟩ = some v1 := ((Keeps.refl (fun _ => False) w1).alloc _).cell c2 id
  have p4 : (w1.alloc (.cells #[.int .u8 125] 5)).cell? ⟨E, 5, none⟩ = some (.int .u8 125) := ((Keeps.refl (fun _ => False) w1).alloc _).cell c4 id
  have HBA : Hid (BytesAt ((w1.alloc (.cells #[.int .u8 125] 5)).drew) (.slice (some ⟨w1.heap.size, 0, none⟩) 1 1) [125]) := (bytesAt_new w1 [125] (by decide)).keeps ((Keeps.refl (fun _ => False) _).drew) (fun _ _ => id)
  have hvE : ¬ blk v1 E := H1.out.ne
  go_region_law (refine step_out_app (B := w1) (v0 := v1) (r := [125]) (HO.out.below ?_) (.tmp 9) (.tmp 15) (xv := .slice (some ⟨w1.heap.size, 0, none⟩) 1 1) ?_ (by simp; omega) rfl rfl (by simp [Act.eval]) (by simp [Act.eval]) ?_; (repeat (first | exact Keeps.refl _ _ | apply Keeps.drew | apply Keeps.alloc)); (exact HBA.out); intro v2 w2 o2; obtain ⟨a2, n2, q2, rfl⟩ := o2.own.sform; have O2 := Lib.hid o2; have s2 := o2.keeps.cell c2 hvE; have s4 := o2.keeps.cell c4 hvE; have r2 := o2.keeps.row H1.out.row hvE; have z2 := frozen_row (j := 2) r2; clear o2 r2)
  all_goals go_wp2_with (fail)
  all_goals go_end0
  all_goals exact ⟨rfl, _, EOut.app H1.out (EOut.size HTB.out H1.out) O2.out⟩
set_option maxRecDepth 1000000 in
set_option maxHeartbeats 20000000 in
theorem writeString_any (PT : Nat → Nat × Nat) (s : List UInt8) (hs : s.length ≤ 2147483647) (B : World) (E : Nat) (v0 : Value) (hET : ETab PT B E v0) (w : World) (k : Nat) (v : Value) (l : List UInt8) (h : EOut B E v0 w k v l) (hTB : 14 ≤ B.heap.size) (hl : l.length ≤ 130000000000000) : Calls Tryz.prog 35 #[.pointer (some ⟨E, 0, none⟩), .string (mk s)] w (EPost B E v0 2 ((l ++ sp k 2) ++ quote false s)) := by
  have hl0 := hl
  have hl : l.length ≤ 140737488340000 := by omega
  have HP := Lib.hid (prep_any 2 B E v0 w k v l h (EOut.size hTB h) hl)
  obtain ⟨S0, hS0⟩ : ∃ S0, sp k 2 = S0 := ⟨_, rfl⟩
  have hS1 : S0.length ≤ 1 := by rw [← hS0]; exact sp_le k 2
  rw [hS0] at HP ⊢
  have HTB := Lib.hid hTB
  have HET := Lib.hid hET
  clear h hS0 hTB hET
  go_enter Tryz.func35, Tryz.ntmps35
  go_upto_region 1 with (go_at_call 56; refine HP.out.mono ?_; rintro e w1 ⟨rfl, v1, h1⟩; have H1 := Lib.hid h1; clear h1)
  have HO := Lib.hid (Out.start H1.out.own)
  have c2 := cell_row (j := 2) H1.out.row
  have c6 := cell_row (j := 6) H1.out.row
  simp [erow] at c2 c6
  have hvE : ¬ blk v1 E := H1.out.ne
  have HAS : Hid (∀ w', Keeps (fun _ => False) w1 w' → Calls Tryz.prog 57 #[v1, .string (mk s), .bool false] w' (OutRes w1 v1 ((l ++ S0) ++ quote false s))) := fun w' hk => appendString_any w1 v1 v1 (l ++ S0) s false w' (HO.out.below hk) (by simp; omega) (HET.out.tabs2 H1.out) H1.out.free
  go_region_with ((go_at_call 57; refine (HAS.out _ ?_).mono ?_; (repeat (first | exact Keeps.refl _ _ | apply Keeps.drew | apply Keeps.alloc)); rintro e w2 ⟨v2, rfl, o2⟩; obtain ⟨a2, n2, q2, rfl⟩ := o2.own.sform; have O2 := Lib.hid o2; have s2 := o2.keeps.cell c2 hvE; have s6 := o2.keeps.cell c6 hvE; have r2 := o2.keeps.row H1.out.row hvE; have z2 := frozen_row (j := 2) r2; clear o2 r2))
  all_goals go_wp2_with (fail)
  all_goals go_end0
  all_goals exact ⟨rfl, _, EOut.app H1.out (EOut.size HTB.out H1.out) O2.out⟩
end Go.Proofs.YtmijjppjodpagaaGreatDoor
