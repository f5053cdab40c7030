/-
  Lemmas on worlds, on slices of bytes and on strings: what is read, what is owned, what an append leaves. No function of the program is named here.
-/
import Derived.Test.YtonegoemmologaaGreatDoorProg
import Derived.WalkKit
import Derived.WalkSpells
import Derived.WalkLawsBesides
import Derived.Handy
import Derived.Lib.Hide
import Derived.Lib.AppendStr
set_option linter.unusedVariables false
set_option linter.unusedSimpArgs false
namespace Go.Proofs.YtonegoemmologaaGreatDoor
open Go.RowKit
structure Keeps (S : Nat → Prop) (w w' : World) : Prop where
 os : w'.os = w.os
 tape : w'.tape = w.tape
 output : w'.output = w.output
 size : w.heap.size ≤ w'.heap.size
 block : ∀ k, k < w.heap.size → ¬ S k → w'.heap[k]? = w.heap[k]?
theorem Keeps.refl (S : Nat → Prop) (w : World) : Keeps S w w := ⟨rfl, rfl, rfl, Nat.le_refl _, fun _ _ _ => rfl⟩
theorem Keeps.trans {S S1 : Nat → Prop} {a b c : World} (h : Keeps S a b) (k : Keeps S1 b c) (hs : ∀ i, i < a.heap.size → S1 i → S i) : Keeps S a c :=
 ⟨k.os.trans h.os, k.tape.trans h.tape, k.output.trans h.output, Nat.le_trans h.size k.size,
  fun i hi hn => (k.block i (Nat.lt_of_lt_of_le hi h.size) (fun h1 => hn (hs i hi h1))).trans (h.block i hi hn)⟩
theorem Keeps.mono {S S1 : Nat → Prop} {a b : World} (h : Keeps S a b) (hs : ∀ i, i < a.heap.size → S i → S1 i) : Keeps S1 a b :=
 ⟨h.os, h.tape, h.output, h.size, fun i hi hn => h.block i hi (fun h1 => hn (hs i hi h1))⟩
theorem Keeps.of_below {S : Nat → Prop} {w w' : World} (h : Below w.heap.size w w') : Keeps S w w' := ⟨h.os, h.tape, h.output, h.size, fun k hk _ => h.block k hk⟩
theorem Keeps.below {S : Nat → Prop} {w w' : World} (h : Keeps S w w') (hs : ∀ i, i < w.heap.size → ¬ S i) : Below w.heap.size w w' := ⟨h.os, h.tape, h.output, h.size, fun k hk => h.block k hk (hs k hk)⟩
theorem Keeps.alloc {S : Nat → Prop} {a w : World} (h : Keeps S a w) (o : Obj) : Keeps S a (w.alloc o) :=
 h.trans (S1 := fun _ => False) ⟨rfl, rfl, rfl, by simp, fun k hk _ => Below.heap_alloc _ _ _ hk⟩ (fun _ _ => False.elim)
theorem Keeps.drew {S : Nat → Prop} {a w : World} (h : Keeps S a w) : Keeps S a w.drew := ⟨h.os, h.tape, h.output, h.size, h.block⟩
theorem Keeps.drewN {S : Nat → Prop} {a w : World} (h : Keeps S a w) (n : Nat) : Keeps S a (w.drewN n) := ⟨h.os, h.tape, h.output, h.size, h.block⟩
theorem Keeps.setCell {S : Nat → Prop} {a w : World} (h : Keeps S a w) (p : Addr) (hp : p.block < a.heap.size → S p.block) (u : Value) : Keeps S a (w.setCell p u) :=
 h.trans (S1 := fun k => k = p.block) ⟨rfl, rfl, rfl, by simp [World.setCell], fun k _ hn => Below.heap_setCell _ _ _ _ hn⟩ (fun i hi e => by subst e; exact hp hi)
theorem Keeps.cell {S : Nat → Prop} {w w' : World} (h : Keeps S w w') {p : Addr} {v : Value} (hc : w.cell? p = some v) (hn : ¬ S p.block) : w'.cell? p = some v :=
 (World.cell?_of_block (h.block p.block (World.block_lt_of_cell? w p hc) hn)).trans hc
theorem Keeps.row {S : Nat → Prop} {w w' : World} (h : Keeps S w w') {g : Nat} {o : Obj} (hc : w.heap[g]? = some o) (hn : ¬ S g) : w'.heap[g]? = some o :=
 (h.block g (Array.getElem?_eq_some_iff.1 hc).1 hn).trans hc
theorem row_lt {w : World} {g : Nat} {o : Obj} (h : w.heap[g]? = some o) : g < w.heap.size := (Array.getElem?_eq_some_iff.1 h).1
def lenOf : Value → Nat | .slice _ n _ => n | _ => 0
def bv (l : List UInt8) : List Value := l.map fun c => Value.int .u8 (c.toNat : Int)
theorem bv_length (l : List UInt8) : (bv l).length = l.length := by simp [bv]
theorem bv_append (l r : List UInt8) : bv (l ++ r) = bv l ++ bv r := by simp [bv]
theorem bv_get {l : List UInt8} {j : Nat} (h : j < l.length) : (bv l)[j]? = some (.int .u8 (l[j].toNat : Int)) := by simp [bv, h]
theorem bv_oneCell (l : List UInt8) : ∀ u ∈ bv l, u.oneCell' = true := by
 intro u hu
 simp only [bv, List.mem_map] at hu
 obtain ⟨b, _, rfl⟩ := hu
 rfl
def mk (l : List UInt8) : ByteArray := ⟨l.toArray⟩
theorem mk_size (l : List UInt8) : (mk l).size = l.length := rfl
theorem mk_data (l : List UInt8) : (mk l).data.toList = l := rfl
theorem mk_toList (l : List UInt8) : (mk l).toList = l := by rw [ByteArray.toList_eq]; rfl
theorem mk_of (s : ByteArray) : mk s.data.toList = s := by cases s; rfl
theorem strCells_mk (l : List UInt8) : Lib.strCells (mk l) = bv l := rfl
theorem mk_get {l : List UInt8} {i : Nat} (h : i < (mk l).size) : (mk l)[i] = l[i]'(by simpa [mk_size] using h) := rfl
def BytesAt (w : World) (v : Value) (l : List UInt8) : Prop :=
 ∃ a c, v = .slice a l.length c ∧ l.length ≤ c ∧ c ≤ maxLen ∧
  (l = [] ∨ ∃ b off, a = some ⟨b, off, none⟩ ∧ ∀ j (h : j < l.length), w.cell? ⟨b, off + j, none⟩ = some (.int .u8 (l[j].toNat : Int)))
def sliceFrom (a : Option Addr) (n c k : Nat) : Value := .slice (if c = k then a else a.map (·.add k)) (n - k) (c - k)
theorem BytesAt.drop {w : World} {a : Option Addr} {n c : Nat} {l : List UInt8} (h : BytesAt w (.slice a n c) l) (k : Nat) (hk : k ≤ l.length) :
 BytesAt w (sliceFrom a n c k) (l.drop k) := by
 obtain ⟨a', c', hv, hc, hm, h⟩ := h
 cases hv
 refine ⟨_, _, by rw [sliceFrom, List.length_drop], by rw [List.length_drop]; omega, by omega, ?_⟩
 by_cases hkl : k = l.length
 · left; subst hkl; simp
 · right
   rcases h with h | ⟨b, off, ha, h⟩
   · subst h; simp at hk; simp at hkl; omega
   · have : c ≠ k := by omega
     refine ⟨b, off + k, by simp [this, ha, Addr.add_lit], ?_⟩
     intro j hj
     have := h (k + j) (by simp at hj; omega)
     simpa [Nat.add_assoc] using this
theorem BytesAt.take {w : World} {a : Option Addr} {n c : Nat} {l : List UInt8} (h : BytesAt w (.slice a n c) l) (k c' : Nat) (hk : k ≤ l.length) (hk' : k ≤ c') (hc' : c' ≤ c) :
 BytesAt w (.slice a k c') (l.take k) := by
 obtain ⟨a', c0, hv, hc, hm, h⟩ := h
 cases hv
 refine ⟨a, c', by rw [List.length_take, Nat.min_eq_left hk], by rw [List.length_take]; omega, by omega, ?_⟩
 rcases h with h | ⟨b, off, ha, h⟩
 · left; subst h; simp
 · right
   refine ⟨b, off, ha, fun j hj => ?_⟩
   rw [List.length_take] at hj
   rw [h j (by omega)]
   simp
theorem BytesAt.cons {w : World} {v : Value} {x : UInt8} {l : List UInt8} (h : BytesAt w v (x :: l)) :
 ∃ b off c, v = .slice (some ⟨b, off, none⟩) (l.length + 1) c ∧ l.length + 1 ≤ c ∧ c ≤ maxLen ∧ w.cell? ⟨b, off, none⟩ = some (.int .u8 (x.toNat : Int)) := by
 obtain ⟨a, c, rfl, hc, hm, h | ⟨b, off, rfl, h⟩⟩ := h
 · cases h
 · exact ⟨b, off, c, rfl, hc, hm, h 0 (by simp)⟩
theorem BytesAt.keeps {S : Nat → Prop} {w w' : World} {v : Value} {l : List UInt8} (h : BytesAt w v l) (hk : Keeps S w w') (hn : ∀ k, v.ownBlock = some k → ¬ S k) : BytesAt w' v l := by
 obtain ⟨a, c, rfl, hc, hm, h⟩ := h
 refine ⟨a, c, rfl, hc, hm, ?_⟩
 rcases h with h | ⟨b, off, rfl, h⟩
 · exact .inl h
 · exact .inr ⟨b, off, rfl, fun j hj => hk.cell (h j hj) (hn b rfl)⟩
theorem BytesAt.below {w w' : World} {v : Value} {l : List UInt8} (h : BytesAt w v l) (hk : Below w.heap.size w w') : BytesAt w' v l :=
 h.keeps (S := fun _ => False) (Keeps.of_below hk) (fun _ _ => id)
def Own (w : World) (v : Value) (l : List UInt8) : Prop :=
 (v = .slice none 0 0 ∧ l = []) ∨
  ∃ g cap cur, v = .slice (some ⟨g, 0, none⟩) l.length cap ∧ w.heap[g]? = some (.cells cur 5 (0, 0)) ∧ l.length ≤ cap ∧ cap ≤ maxLen ∧ cur.size = cap ∧ cur.toList.take l.length = bv l
theorem Own.nil (w : World) : Own w (.slice none 0 0) [] := .inl ⟨rfl, rfl⟩
theorem Own.cells {w : World} {g : Nat} {n cap : Nat} {l : List UInt8} (h : Own w (.slice (some ⟨g, 0, none⟩) n cap) l) : ∀ j u, (bv l)[j]? = some u → w.cell? ((⟨g, 0, none⟩ : Addr).add j) = some u := by
 intro j u hu
 rcases h with ⟨h, _⟩ | ⟨g', cap', cur, hv, hg, hn, _, hs, ht⟩
 · cases h
 · cases hv
   rw [Addr.add_lit, Nat.zero_add, cell_of_row w g j cur _ (0, 0) hg]
   rw [← ht, List.getElem?_take] at hu
   split at hu
   · simpa using hu
   · cases hu
theorem Own.bytes {w : World} {v : Value} {l : List UInt8} (h : Own w v l) : BytesAt w v l := by
 have h0 := h
 rcases h with ⟨rfl, rfl⟩ | ⟨g, cap, cur, rfl, hg, hn, hm, hs, ht⟩
 · exact ⟨none, 0, rfl, Nat.le_refl _, Nat.zero_le _, .inl rfl⟩
 · exact ⟨_, cap, rfl, hn, hm, .inr ⟨g, 0, rfl, fun j hj => by simpa [Addr.add_lit] using h0.cells j _ (bv_get hj)⟩⟩
theorem Own.keeps {S : Nat → Prop} {w w' : World} {v : Value} {l : List UInt8} (h : Own w v l) (hk : Keeps S w w') (hn : ∀ k, v.ownBlock = some k → ¬ S k) : Own w' v l := by
 rcases h with h | ⟨g, cap, cur, rfl, hg, h⟩
 · exact .inl h
 · exact .inr ⟨g, cap, cur, rfl, hk.row hg (hn g rfl), h⟩
theorem Own.alloc {w : World} {v : Value} {l : List UInt8} (h : Own w v l) (o : Obj) : Own (w.alloc o) v l := h.keeps ((Keeps.refl (fun _ => False) w).alloc o) (fun _ _ => id)
theorem Own.drew {w : World} {v : Value} {l : List UInt8} (h : Own w v l) : Own w.drew v l := h.keeps ((Keeps.refl (fun _ => False) w).drew) (fun _ _ => id)
theorem Own.below {w w' : World} {v : Value} {l : List UInt8} (h : Own w v l) (hk : Keeps (fun _ => False) w w') : Own w' v l := h.keeps hk (fun _ _ => id)
theorem Own.form {w : World} {v : Value} {l : List UInt8} (h : Own w v l) : ∃ a c, v = .slice a l.length c ∧ l.length ≤ c ∧ c ≤ maxLen := by
 obtain ⟨a, c, h1, h2, h3, _⟩ := h.bytes
 exact ⟨a, c, h1, h2, h3⟩
def Moved (w : World) (v v' : Value) : Prop := ∀ k, v'.ownBlock = some k → v.ownBlock = some k ∨ w.heap.size ≤ k
theorem Moved.refl (w : World) (v : Value) : Moved w v v := fun _ h => .inl h
theorem Moved.trans {S : Nat → Prop} {w w1 : World} {v v1 v2 : Value} (h : Moved w v v1) (hk : Keeps S w w1) (h1 : Moved w1 v1 v2) : Moved w v v2 := fun k hk2 => by
 rcases h1 k hk2 with h1 | h1
 · exact h k h1
 · exact .inr (Nat.le_trans hk.size h1)
def blk (v : Value) : Nat → Prop := fun k => v.ownBlock = some k
theorem Keeps.moved {S : Nat → Prop} {w w1 w2 : World} {v v1 : Value} (h : Keeps S w w1) (hv : ∀ k, v.ownBlock = some k → k < w.heap.size → S k) (hm : Moved w v v1) (h2 : Keeps (blk v1) w1 w2) : Keeps S w w2 :=
 h.trans h2 fun i hi h1 => by
  rcases hm i h1 with h1 | h1
  · exact hv i h1 hi
  · omega
theorem info5 : (Tryz.prog.info? 5).map (fun i => (i.zero, i.size, i.bytes)) = some (some (.int .u8 0), 1, 1) := by kernel_rfl
theorem run_own_app (ty : TypeId) (w : World) {v x : Value} {l r : List UInt8} (h : Own w v l) (hx : BytesAt w x r) (hb : l.length + r.length ≤ 140737488355328) :
 ∃ v' w', (Builtin.append_ #[72, 72] ty #[v, x]).run Tryz.prog w = .ok v' w' ∧ Own w' v' (l ++ r) ∧ Keeps (blk v) w w' ∧ Moved w v v' ∧ Own w' v l := by
 obtain ⟨i0, hi, hz0, hz1, hz2⟩ := info_parts info5
 obtain ⟨a, c, rfl, hc, hm, hx⟩ := hx
 rcases hx with rfl | ⟨b, off, rfl, hx⟩
 · -- nothing is appended
   rcases h with ⟨rfl, rfl⟩ | ⟨g, cap, cur, rfl, hg, hn, hcm, hs, ht⟩
   · refine ⟨.slice none 0 0, w, ?_, Own.nil w, Keeps.refl _ _, Moved.refl _ _, Own.nil w⟩
     simp [Builtin.append_, run_underlying Tryz.underlying72, sizeOf, typeInfo, hi, Builtin.lenOf, Builtin.firstCells]
     cases a <;> simp [loadCells, loadCellsFrom]
   · refine ⟨.slice (some ⟨g, 0, none⟩) l.length cap, w, ?_, ?_, Keeps.refl _ _, Moved.refl _ _, .inr ⟨g, cap, cur, rfl, hg, hn, hcm, hs, ht⟩⟩
     · simp [Builtin.append_, run_underlying Tryz.underlying72, sizeOf, typeInfo, hi, Builtin.lenOf, Builtin.firstCells, hn]
       cases a <;> simp [loadCells, loadCellsFrom, storeCells]
     · rw [List.append_nil]; exact .inr ⟨g, cap, cur, rfl, hg, hn, hcm, hs, ht⟩
 · have hnews : ∀ j u, (bv r)[j]? = some u → w.cell? ((⟨b, off, none⟩ : Addr).add j) = some u := by
    intro j u hu
    have hj : j < r.length := by have := (List.getElem?_eq_some_iff.1 hu).1; simpa [bv_length] using this
    rw [bv_get hj] at hu
    rw [Addr.add_lit, hx j hj]; exact hu
   have hl1 : (bv r).length = r.length * i0.size := by rw [bv_length, hz1, Nat.mul_one]
   have hrow : ∀ (k : Nat), l.length + r.length ≤ k → k ≤ maxLen →
    Own (w.drew.alloc (.cells ((bv l).toArray ++ (bv r).toArray ++ Builtin.zeroCells (Value.int .u8 0).cells (k - (l.length + r.length))) 5)) (.slice (some ⟨w.heap.size, 0, none⟩) (l.length + r.length) k) (l ++ r) := by
    intro k hk hkm
    refine .inr ⟨w.heap.size, k, _, by rw [List.length_append], heap_alloc_new w.drew _, by rw [List.length_append]; exact hk, hkm, ?_, ?_⟩
    · simp only [Array.size_append, List.size_toArray, size_zeroCells, bv_length]
      rw [show (Value.int IntKind.u8 0).cells.size = 1 from rfl, Nat.mul_one]
      omega
    · simp only [Array.toList_append, List.append_assoc, List.length_append]
      rw [← List.append_assoc, ← bv_append, ← List.length_append, ← bv_length (l ++ r)]
      exact List.take_left
   have hkeep : ∀ o, Keeps (fun _ => False) w (w.drew.alloc o) := fun o => ⟨rfl, rfl, rfl, by simp, fun k hk _ => Below.heap_alloc w.drew o k hk⟩
   have hml : l.length + r.length ≤ maxLen := by unfold maxLen; omega
   rcases h with ⟨rfl, rfl⟩ | ⟨g, cap, cur, rfl, hg, hn, hcm, hs, ht⟩
   · by_cases hr : r = []
     · subst hr
       refine ⟨.slice none 0 0, w, ?_, Own.nil w, Keeps.refl _ _, Moved.refl _ _, Own.nil w⟩
       simp [Builtin.append_, run_underlying Tryz.underlying72, sizeOf, typeInfo, hi, Builtin.lenOf, Builtin.firstCells, loadCells, loadCellsFrom]
     · have hr0 : 0 < r.length := List.length_pos_iff.2 hr
       have hrun := run_append_nil (P := Tryz.prog) w 72 ty 5 i0 _ Tryz.underlying72 hi hz0 ⟨b, off, none⟩ r.length c (bv r) hl1 hnews hr0 (by simp at hb; omega) (by rw [hz2]; simp at hb; omega)
       have hge := grownCap_ge w r.length 0 5
       have hgm := grownCap_le_maxLen w r.length 0 5 (by simpa using hml)
       have ho := hrow (grownCap w r.length 0 5) (by simpa using hge) hgm
       simp only [List.length_nil, Nat.zero_add, bv, List.map_nil, Array.empty_append, List.nil_append] at ho
       refine ⟨_, _, hrun, by simpa [bv] using ho, (hkeep _).mono (fun _ _ => False.elim), fun k hk => ?_, Own.nil _⟩
       simp [Value.ownBlock] at hk
       exact .inr (by omega)
   · by_cases hroom : l.length + r.length ≤ cap
     · have hfit : l.length * i0.size + (bv r).length ≤ cur.size := by rw [hz1, bv_length]; omega
       have hrun := run_append_room (P := Tryz.prog) w 72 ty 5 i0 Tryz.underlying72 hi g l.length cap cur hg ⟨b, off, none⟩ r.length c (bv r) hl1 hnews (bv_oneCell r) hroom hfit
       refine ⟨_, _, hrun, .inr ⟨g, cap, _, by rw [List.length_append], setRow_heap w g cur _ _ _ hg, by rw [List.length_append]; exact hroom, hcm, ?_, ?_⟩, ⟨rfl, rfl, rfl, by simp, fun k _ hk => setRow_other w g k _ (fun e => hk (by subst e; rfl))⟩, Moved.refl _ _, .inr ⟨g, cap, _, rfl, setRow_heap w g cur _ _ _ hg, hn, hcm, ?_, ?_⟩⟩
       · simp only [List.size_toArray, List.length_append, List.length_take, List.length_drop, Array.length_toList, bv_length, hz1]
         omega
       · rw [hz1, Nat.mul_one, ht, bv_append, List.length_append, ← bv_length l, ← bv_length r, ← List.length_append]
         simp only []
         exact List.take_left
       · simp only [List.size_toArray, List.length_append, List.length_take, List.length_drop, Array.length_toList, bv_length, hz1]
         omega
       · rw [hz1, Nat.mul_one, ht]
         simp only [List.append_assoc]
         rw [← bv_length l]
         exact List.take_left
     · have hrun := run_append_grow (P := Tryz.prog) w 72 ty 5 i0 _ Tryz.underlying72 hi hz0 ⟨g, 0, none⟩ l.length cap (bv l) (by rw [bv_length, hz1, Nat.mul_one])
        (Own.cells (n := l.length) (cap := cap) (.inr ⟨g, cap, cur, rfl, hg, hn, hcm, hs, ht⟩)) ⟨b, off, none⟩ r.length c (bv r) hl1 hnews (by omega) (by omega) (by rw [hz2]; exact growslice_fits (by omega) (by omega))
       have hge := grownCap_ge w (l.length + r.length) cap 5
       have hgm := grownCap_le_maxLen w (l.length + r.length) cap 5 hml
       refine ⟨_, _, hrun, hrow _ hge hgm, (hkeep _).mono (fun _ _ => False.elim), fun k hk => ?_, Own.keeps (.inr ⟨g, cap, cur, rfl, hg, hn, hcm, hs, ht⟩) (hkeep _) (fun _ _ => id)⟩
       simp [Value.ownBlock] at hk
       exact .inr (by omega)
theorem run_own_str (ty : TypeId) (w : World) {v : Value} {l r : List UInt8} (h : Own w v l) (hb : l.length + r.length ≤ 140737488355328) :
 ∃ v' w', (Builtin.append_ #[72, 9] ty #[v, .string (mk r)]).run Tryz.prog w = .ok v' w' ∧ Own w' v' (l ++ r) ∧ Keeps (blk v) w w' ∧ Moved w v v' ∧ Own w' v l := by
 obtain ⟨i0, hi, hz0, hz1, hz2⟩ := info_parts info5
 have hrow : ∀ (k : Nat), l.length + r.length ≤ k → k ≤ maxLen →
  Own (w.drew.alloc (.cells ((bv l).toArray ++ (bv r).toArray ++ Builtin.zeroCells (Value.int .u8 0).cells (k - (l.length + r.length))) 5)) (.slice (some ⟨w.heap.size, 0, none⟩) (l.length + r.length) k) (l ++ r) := by
  intro k hk hkm
  refine .inr ⟨w.heap.size, k, _, by rw [List.length_append], heap_alloc_new w.drew _, by rw [List.length_append]; exact hk, hkm, ?_, ?_⟩
  · simp only [Array.size_append, List.size_toArray, size_zeroCells, bv_length]
    rw [show (Value.int IntKind.u8 0).cells.size = 1 from rfl, Nat.mul_one]
    omega
  · simp only [Array.toList_append, List.append_assoc, List.length_append]
    rw [← List.append_assoc, ← bv_append, ← List.length_append, ← bv_length (l ++ r)]
    exact List.take_left
 have hkeep : ∀ o, Keeps (fun _ => False) w (w.drew.alloc o) := fun o => ⟨rfl, rfl, rfl, by simp, fun k hk _ => Below.heap_alloc w.drew o k hk⟩
 have hml : l.length + r.length ≤ maxLen := by unfold maxLen; omega
 rcases h with ⟨rfl, rfl⟩ | ⟨g, cap, cur, rfl, hg, hn, hcm, hs, ht⟩
 · by_cases hr : r = []
   · subst hr
     refine ⟨.slice none 0 0, w, ?_, Own.nil w, Keeps.refl _ _, Moved.refl _ _, Own.nil w⟩
     simp [Builtin.append_, run_underlying Tryz.underlying72, run_underlying Tryz.underlying9, sizeOf, typeInfo, hi, Builtin.lenOf, Builtin.firstCells, mk]
     rw [if_pos (show ({ data := #[] } : ByteArray) = ByteArray.empty from rfl)]; rfl
   · have hr0 : 0 < r.length := List.length_pos_iff.2 hr
     have hrun := run_append_nil_string (P := Tryz.prog) w 72 9 ty 5 i0 _ Tryz.underlying72 Tryz.underlying9 hi hz0 (mk r) hr0 (by rw [mk_size]; simp at hb; omega) (by rw [hz2, mk_size]; simp at hb; omega)
     rw [mk_size] at hrun
     have hge := grownCap_ge w r.length 0 5
     have hgm := grownCap_le_maxLen w r.length 0 5 (by simpa using hml)
     have ho := hrow (grownCap w r.length 0 5) (by simpa using hge) hgm
     simp only [List.length_nil, Nat.zero_add, bv, List.map_nil, Array.empty_append, List.nil_append] at ho
     have e1 : ((mk r).data.map fun b => Value.int .u8 (b.toNat : Int)) = (r.map fun b => Value.int .u8 (b.toNat : Int)).toArray := by
      apply Array.ext'
      simp [mk]
     rw [e1] at hrun
     refine ⟨_, _, hrun, by simpa using ho, (hkeep _).mono (fun _ _ => False.elim), fun k hk => ?_, Own.nil _⟩
     simp [Value.ownBlock] at hk
     exact .inr (by omega)
 · by_cases hroom : l.length + r.length ≤ cap
   · have hrun := Lib.run_append_room_string (P := Tryz.prog) w 72 9 ty 5 i0 Tryz.underlying72 Tryz.underlying9 hi hz1 g l.length cap cur hg (mk r) (by rw [mk_size]; exact hroom) (by rw [mk_size]; omega)
     rw [mk_size, strCells_mk] at hrun
     refine ⟨_, _, hrun, .inr ⟨g, cap, _, by rw [List.length_append], setRow_heap w g cur _ _ _ hg, by rw [List.length_append]; exact hroom, hcm, ?_, ?_⟩, ⟨rfl, rfl, rfl, by simp, fun k _ hk => setRow_other w g k _ (fun e => hk (by subst e; rfl))⟩, Moved.refl _ _, .inr ⟨g, cap, _, rfl, setRow_heap w g cur _ _ _ hg, hn, hcm, ?_, ?_⟩⟩
     · simp only [List.size_toArray, List.length_append, List.length_take, List.length_drop, Array.length_toList, bv_length]
       omega
     · rw [ht, bv_append, List.length_append, ← bv_length l, ← bv_length r, ← List.length_append]
       simp only []
       exact List.take_left
     · simp only [List.size_toArray, List.length_append, List.length_take, List.length_drop, Array.length_toList, bv_length]
       omega
     · rw [ht]
       simp only [List.append_assoc]
       rw [← bv_length l]
       exact List.take_left
   · have hrun := Lib.run_append_grow_string (P := Tryz.prog) w 72 9 ty 5 i0 _ Tryz.underlying72 Tryz.underlying9 hi hz0 ⟨g, 0, none⟩ l.length cap (bv l) (by rw [bv_length, hz1, Nat.mul_one])
      (Own.cells (n := l.length) (cap := cap) (.inr ⟨g, cap, cur, rfl, hg, hn, hcm, hs, ht⟩)) (mk r) (by rw [mk_size]; omega) (by rw [mk_size]; omega) (by rw [hz2, mk_size]; exact growslice_fits (by omega) (by omega))
     rw [mk_size, strCells_mk] at hrun
     have hge := grownCap_ge w (l.length + r.length) cap 5
     have hgm := grownCap_le_maxLen w (l.length + r.length) cap 5 hml
     refine ⟨_, _, hrun, hrow _ hge hgm, (hkeep _).mono (fun _ _ => False.elim), fun k hk => ?_, Own.keeps (.inr ⟨g, cap, cur, rfl, hg, hn, hcm, hs, ht⟩) (hkeep _) (fun _ _ => id)⟩
     simp [Value.ownBlock] at hk
     exact .inr (by omega)
theorem run_full_app (ty : TypeId) (w : World) {a : Option Addr} {x : Value} {l r : List UInt8} (h : BytesAt w (.slice a l.length l.length) l) (ha : a.isSome = true) (hx : BytesAt w x r) (hr : r ≠ []) (hb : l.length + r.length ≤ 140737488355328) :
 ∃ v' w', (Builtin.append_ #[72, 72] ty #[.slice a l.length l.length, x]).run Tryz.prog w = .ok v' w' ∧ Own w' v' (l ++ r) ∧ Keeps (fun _ => False) w w' ∧ (∀ k, v'.ownBlock = some k → w.heap.size ≤ k) := by
 obtain ⟨i0, hi, hz0, hz1, hz2⟩ := info_parts info5
 obtain ⟨a', c, rfl, hc, hm, hx'⟩ := hx
 obtain ⟨b, off, rfl, hx⟩ := hx'.resolve_left hr
 clear hx'
 have hr0 : 0 < r.length := List.length_pos_iff.2 hr
 have hnews : ∀ j u, (bv r)[j]? = some u → w.cell? ((⟨b, off, none⟩ : Addr).add j) = some u := by
  intro j u hu
  have hj : j < r.length := by have := (List.getElem?_eq_some_iff.1 hu).1; simpa [bv_length] using this
  rw [bv_get hj] at hu
  rw [Addr.add_lit, hx j hj]; exact hu
 have hl1 : (bv r).length = r.length * i0.size := by rw [bv_length, hz1, Nat.mul_one]
 obtain ⟨a0, c0, hv0, hc0, hm0, h0⟩ := h
 cases hv0
 obtain ⟨p, rfl⟩ := Option.isSome_iff_exists.1 ha
 have holds : ∀ j u, (bv l)[j]? = some u → w.cell? (p.add j) = some u := by
  intro j u hu
  have hj : j < l.length := by have := (List.getElem?_eq_some_iff.1 hu).1; simpa [bv_length] using this
  rw [bv_get hj] at hu
  rcases h0 with h0 | ⟨b0, off0, e0, h0⟩
  · subst h0; simp at hj
  · cases e0
    rw [Addr.add_lit, h0 j hj]; exact hu
 have hrun := run_append_grow (P := Tryz.prog) w 72 ty 5 i0 _ Tryz.underlying72 hi hz0 p l.length l.length (bv l) (by rw [bv_length, hz1, Nat.mul_one])
  holds ⟨b, off, none⟩ r.length c (bv r) hl1 hnews (by omega) (by omega) (by rw [hz2]; exact growslice_fits (by omega) (by omega))
 have hge := grownCap_ge w (l.length + r.length) l.length 5
 have hgm := grownCap_le_maxLen w (l.length + r.length) l.length 5 (by unfold maxLen; omega)
 refine ⟨_, _, hrun, .inr ⟨w.heap.size, _, _, by rw [List.length_append], heap_alloc_new w.drew _, by rw [List.length_append]; exact hge, hgm, ?_, ?_⟩, ⟨rfl, rfl, rfl, by simp, fun k hk _ => Below.heap_alloc w.drew _ k hk⟩, fun k hk => ?_⟩
 · simp only [Array.size_append, List.size_toArray, size_zeroCells, bv_length]
   rw [show (Value.int IntKind.u8 0).cells.size = 1 from rfl, Nat.mul_one]
   omega
 · simp only [Array.toList_append, List.append_assoc, List.length_append]
   rw [← List.append_assoc, ← bv_append, ← List.length_append, ← bv_length (l ++ r)]
   exact List.take_left
 · simp [Value.ownBlock] at hk
   omega
section
variable {ops : Array Oper} {rest : List Oper} {o : Oper} {a : Act} {Q : Exit → Act → World → Prop} {w : World}
theorem at_own_app (hgd : o.guard = none) (s x : Operand) (ho : o.op = .call { callee := .builtin .append, args := #[s, x], argTypes := #[72, 72] })
 {v xv : Value} {l r : List UInt8} (h : Own w v l) (hs : a.eval s = v) (hx : a.eval x = xv) (hxb : BytesAt w xv r) (hb : l.length + r.length ≤ 140737488355328)
 (hk : ∀ v' w', Own w' v' (l ++ r) → Keeps (blk v) w w' → Moved w v v' → Own w' v l → wpList Tryz.prog ops Q rest (a.put o.dst v') w') : wpList Tryz.prog ops Q (o :: rest) a w := by
 refine wpList_plain hgd fun K hK => ?_
 obtain ⟨v', w', hr, h2, h3, h4, h5⟩ := run_own_app o.type w h hxb hb
 unfold Oper.wp execOp
 simp only [ho, resolve, invoke, builtin, Sem.run_bind, Sem.run_pure, Result.andThen_ok, List.map_toArray, List.map_cons, List.map_nil, hs, hx, hr]
 exact hK _ _ (hk v' w' h2 h3 h4 h5)
theorem at_own_str (hgd : o.guard = none) (s x : Operand) (ho : o.op = .call { callee := .builtin .append, args := #[s, x], argTypes := #[72, 9] })
 {v : Value} {l r : List UInt8} (h : Own w v l) (hs : a.eval s = v) (hx : a.eval x = .string (mk r)) (hb : l.length + r.length ≤ 140737488355328)
 (hk : ∀ v' w', Own w' v' (l ++ r) → Keeps (blk v) w w' → Moved w v v' → Own w' v l → wpList Tryz.prog ops Q rest (a.put o.dst v') w') : wpList Tryz.prog ops Q (o :: rest) a w := by
 refine wpList_plain hgd fun K hK => ?_
 obtain ⟨v', w', hr, h2, h3, h4, h5⟩ := run_own_str o.type w h hb
 unfold Oper.wp execOp
 simp only [ho, resolve, invoke, builtin, Sem.run_bind, Sem.run_pure, Result.andThen_ok, List.map_toArray, List.map_cons, List.map_nil, hs, hx, hr]
 exact hK _ _ (hk v' w' h2 h3 h4 h5)
end
section
variable {ops : Array Oper} {o : Oper} {a : Act} {Q : Exit → Act → World → Prop} {w : World} {K : Act → World → Prop} {E : Prop}
end
theorem bytesAt_new (w : World) (l : List UInt8) (hl : l.length ≤ maxLen) : BytesAt (w.alloc (.cells (bv l).toArray 5)) (.slice (some ⟨w.heap.size, 0, none⟩) l.length l.length) l := by
 refine ⟨_, _, rfl, Nat.le_refl _, hl, .inr ⟨_, 0, rfl, fun j hj => ?_⟩⟩
 rw [cell_of_row _ w.heap.size (0 + j) (bv l).toArray _ (0, 0) (heap_alloc_new w _)]
 simpa using bv_get hj
structure Out (B : World) (v0 : Value) (w : World) (v : Value) (l : List UInt8) : Prop where
 own : Own w v l
 keeps : Keeps (blk v0) B w
 moved : Moved B v0 v
 pre : ∀ l0, Own B v0 l0 → Own w v0 l0 ∧ ∀ k, v0.ownBlock = some k → v.ownBlock = some k → l0 <+: l
theorem bv_inj : ∀ {l r : List UInt8}, bv l = bv r → l = r
 | [], [], _ => rfl
 | [], y :: r, h => by simp [bv] at h
 | x :: l, [], h => by simp [bv] at h
 | x :: l, y :: r, h => by
  simp only [bv, List.map_cons, List.cons.injEq, Value.int.injEq, true_and] at h
  obtain ⟨h1, h2⟩ := h
  have e1 : x = y := UInt8.toNat_inj.1 (by omega)
  have e2 : l = r := bv_inj h2
  rw [e1, e2]
theorem Own.same {w : World} {v : Value} {l r : List UInt8} (h : Own w v l) (h' : Own w v r) : l = r := by
 rcases h with ⟨rfl, rfl⟩ | ⟨g, cap, cur, rfl, hg, hn, hm, hs, ht⟩
 · rcases h' with ⟨_, rfl⟩ | ⟨g, cap, cur, hv, _⟩
   · rfl
   · cases hv
 · rcases h' with ⟨hv, _⟩ | ⟨g', cap', cur', hv, hg', hn', hm', hs', ht'⟩
   · cases hv
   · simp only [Value.slice.injEq, Option.some.injEq, Addr.mk.injEq, and_true] at hv
     obtain ⟨rfl, hl, rfl⟩ := hv
     rw [hg] at hg'
     cases hg'
     rw [← hl, ht] at ht'
     exact bv_inj ht'
theorem Own.lt {w : World} {v : Value} {l : List UInt8} (h : Own w v l) : ∀ k, v.ownBlock = some k → k < w.heap.size := by
 intro k hk
 rcases h with ⟨rfl, _⟩ | ⟨g, cap, cur, rfl, hg, _⟩
 · simp [Value.ownBlock] at hk
 · simp [Value.ownBlock] at hk
   subst hk
   exact row_lt hg
theorem Own.part {w w' : World} {v v0 : Value} {l l0 : List UInt8} (h0 : Own w v0 l0) (h : Own w v l) (h' : Own w' v l) {k : Nat} (e0 : v0.ownBlock = some k) (e : v.ownBlock = some k) (hp : l0 <+: l) : Own w' v0 l0 := by
 rcases h0 with ⟨rfl, rfl⟩ | ⟨g, cap, cur, rfl, hg, hn, hm, hs, ht⟩
 · exact .inl ⟨rfl, rfl⟩
 · simp only [Value.ownBlock, Option.some.injEq] at e0
   subst e0
   rcases h with ⟨rfl, _⟩ | ⟨g1, cap1, cur1, rfl, hg1, hn1, hm1, hs1, ht1⟩
   · simp [Value.ownBlock] at e
   · simp only [Value.ownBlock, Option.some.injEq] at e
     subst e
     rw [hg] at hg1
     cases hg1
     rcases h' with ⟨hv, _⟩ | ⟨g2, cap2, cur2, hv, hg2, hn2, hm2, hs2, ht2⟩
     · cases hv
     · simp only [Value.slice.injEq, Option.some.injEq, Addr.mk.injEq, and_true] at hv
       obtain ⟨rfl, _, rfl⟩ := hv
       refine .inr ⟨g1, cap, cur2, rfl, hg2, hn, hm, by omega, ?_⟩
       obtain ⟨r, rfl⟩ := hp
       have h3 := congrArg (List.take l0.length) ht2
       rw [List.take_take, List.length_append, Nat.min_eq_left (by omega), bv_append] at h3
       rw [h3, ← bv_length l0]
       exact List.take_left
theorem Out.start {w : World} {v : Value} {l : List UInt8} (h : Own w v l) : Out w v w v l := ⟨h, Keeps.refl _ _, Moved.refl _ _, fun l0 h0 => ⟨h0, fun _ _ _ => by rw [h0.same h]; exact List.prefix_refl _⟩⟩
theorem Out.step {B w w' : World} {v0 v v' : Value} {l l' : List UInt8} (h : Out B v0 w v l) (ho : Own w' v' l') (hk : Keeps (blk v) w w') (hm : Moved w v v') (hold : Own w' v l) (hp : l <+: l') : Out B v0 w' v' l' :=
 ⟨ho, h.keeps.moved (fun _ h _ => h) h.moved hk, h.moved.trans h.keeps hm, fun l0 h0 => by
  obtain ⟨h1, h2⟩ := h.pre l0 h0
  refine ⟨?_, fun k e0 e => ?_⟩
  · cases e0 : v0.ownBlock with
    | none => exact h1.keeps hk (fun k hk2 => by rw [e0] at hk2; cases hk2)
    | some k =>
     by_cases e : v.ownBlock = some k
     · exact h1.part h.own hold e0 e (h2 k e0 e)
     · exact h1.keeps hk (fun k2 hk2 h3 => e (by rw [e0] at hk2; cases hk2; exact h3))
  · rcases hm k e with h3 | h3
    · exact (h2 k e0 h3).trans hp
    · have := h1.lt k e0
      omega⟩
theorem Out.below {B w w' : World} {v0 v : Value} {l : List UInt8} (h : Out B v0 w v l) (hk : Keeps (fun _ => False) w w') : Out B v0 w' v l :=
 ⟨h.own.below hk, h.keeps.trans hk (fun _ _ => False.elim), h.moved, fun l0 h0 => ⟨(h.pre l0 h0).1.below hk, (h.pre l0 h0).2⟩⟩
theorem Out.alloc {B w : World} {v0 v : Value} {l : List UInt8} (h : Out B v0 w v l) (o : Obj) : Out B v0 (w.alloc o) v l := h.below ((Keeps.refl _ w).alloc o)
theorem Out.drew {B w : World} {v0 v : Value} {l : List UInt8} (h : Out B v0 w v l) : Out B v0 w.drew v l := h.below (Keeps.refl _ w).drew
theorem Out.drewN {B w : World} {v0 v : Value} {l : List UInt8} (h : Out B v0 w v l) (n : Nat) : Out B v0 (w.drewN n) v l := h.below ((Keeps.refl _ w).drewN n)
theorem setCell_row {w : World} {g j : Nat} {cur : Array Value} {T : TypeId} {fr : Nat × Nat} (h : w.heap[g]? = some (.cells cur T fr)) (u : Value) :
 (w.setCell ⟨g, j, none⟩ u).heap[g]? = some (.cells (cur.setIfInBounds j u) T fr) := by
 simp only [World.setCell, Array.getElem?_modify, if_true, h]
 rfl
theorem cell_row {w : World} {g j : Nat} {cur : Array Value} {T : TypeId} {fr : Nat × Nat} (h : w.heap[g]? = some (.cells cur T fr)) : w.cell? ⟨g, j, none⟩ = cur[j]? := cell_of_row w g j cur T fr h
theorem frozen_row {w : World} {g j : Nat} {cur : Array Value} {T : TypeId} (h : w.heap[g]? = some (.cells cur T (0, 0))) : w.frozen? ⟨g, j, none⟩ = false := by
 simp [World.frozen?, h]
def OutRes (B : World) (v0 : Value) (l : List UInt8) (e : Ending) (w' : World) : Prop := ∃ v', e = .returned v' ∧ Out B v0 w' v' l
section
variable {ops : Array Oper} {rest : List Oper} {o : Oper} {a : Act} {Q : Exit → Act → World → Prop} {w : World} {B : World} {v0 : Value}
theorem at_out_app {v : Value} {l : List UInt8} (h : Out B v0 w v l) (s x : Operand) {xv : Value} {r : List UInt8} (hxb : BytesAt w xv r) (hb : l.length + r.length ≤ 140737488355328)
 (hgd : o.guard = none) (ho : o.op = .call { callee := .builtin .append, args := #[s, x], argTypes := #[72, 72] }) (hs : a.eval s = v) (hx : a.eval x = xv)
 (hk : ∀ v' w', Out B v0 w' v' (l ++ r) → wpList Tryz.prog ops Q rest (a.put o.dst v') w') : wpList Tryz.prog ops Q (o :: rest) a w :=
 at_own_app hgd s x ho h.own hs hx hxb hb fun v' w' h1 h2 h3 h4 => hk v' w' (h.step h1 h2 h3 h4 (List.prefix_append _ _))
theorem at_out_lit {v : Value} {l : List UInt8} (h : Out B v0 w v l) (s x : Operand) (c : List UInt8) (hb : l.length + c.length ≤ 140737488355328)
 (hgd : o.guard = none) (ho : o.op = .call { callee := .builtin .append, args := #[s, x], argTypes := #[72, 72] }) (hs : a.eval s = v) (hx : a.eval x = .slice (some ⟨w.heap.size, 0, none⟩) c.length c.length)
 (hk : ∀ v' w', Out B v0 w' v' (l ++ c) → wpList Tryz.prog ops Q rest (a.put o.dst v') w') : wpList Tryz.prog ops Q (o :: rest) a (w.alloc (.cells (bv c).toArray 5)) :=
 at_out_app (h.alloc _) s x (bytesAt_new w c (by unfold maxLen; omega)) hb hgd ho hs hx hk
theorem at_out_str {v : Value} {l : List UInt8} (h : Out B v0 w v l) (s x : Operand) (r : List UInt8) (hb : l.length + r.length ≤ 140737488355328)
 (hgd : o.guard = none) (ho : o.op = .call { callee := .builtin .append, args := #[s, x], argTypes := #[72, 9] }) (hs : a.eval s = v) (hx : a.eval x = .string (mk r))
 (hk : ∀ v' w', Out B v0 w' v' (l ++ r) → wpList Tryz.prog ops Q rest (a.put o.dst v') w') : wpList Tryz.prog ops Q (o :: rest) a w :=
 at_own_str hgd s x ho h.own hs hx hb fun v' w' h1 h2 h3 h4 => hk v' w' (h.step h1 h2 h3 h4 (List.prefix_append _ _))
variable {K : Act → World → Prop} {E : Prop}
end
theorem run_at (l : List UInt8) (k : Nat) (h : k < l.length) (w : World) : (Instr.index 9 (.string (mk l)) (.int .i64 (k : Int))).run Tryz.prog w = .ok (.int .u8 (l[k].toNat : Int)) w := by
 rw [run_index_string w 9 (mk l) .i64 k Tryz.underlying9, dif_pos ⟨by omega, by rw [mk_size]; omega⟩]
 rfl
theorem extract_mk (l : List UInt8) (a b : Nat) : (mk l).extract a b = mk ((l.drop a).take (b - a)) := ByteArray.extract_mk l a b
theorem run_from (l : List UInt8) (k : Nat) (h : k ≤ l.length) (w : World) : (Instr.slice 9 (.string (mk l)) (some (.int .i64 (k : Int))) none none).run Tryz.prog w = .ok (.string (mk (l.drop k))) w := by
 rw [run_slice_string_from_if w 9 (mk l) .i64 k Tryz.underlying9, if_pos ⟨by omega, by rw [mk_size]; omega⟩, Int.toNat_natCast, extract_mk, mk_size, List.take_of_length_le (by simp)]
theorem run_sfrom (a : Option Addr) (n c k : Nat) (hk : k ≤ n) (w : World) : (Instr.slice 72 (.slice a n c) (some (.int .i64 (k : Int))) none none).run Tryz.prog w = .ok (sliceFrom a n c k) w := by
 obtain ⟨i0, hi, hz0, hz1, hz2⟩ := info_parts info5
 have h1 := run_sliceBound (P := Tryz.prog) w .i64 (k : Int) n .sliceB (by omega) (by omega)
 simp [Instr.slice, Instr.sliceBounds, run_underlying Tryz.underlying72, h1, sizeOf, typeInfo, hi, hz1, sliceFrom]
theorem run_sto (a : Option Addr) (n c k : Nat) (hc : k ≤ c) (w : World) : (Instr.slice 72 (.slice a n c) none (some (.int .i64 (k : Int))) none).run Tryz.prog w = .ok (.slice a k c) w := by
 obtain ⟨i0, hi, hz0, hz1, hz2⟩ := info_parts info5
 have h1 := run_sliceBound (P := Tryz.prog) w .i64 (k : Int) c .sliceAcap (by omega) (by omega)
 simp [Instr.slice, Instr.sliceBounds, run_underlying Tryz.underlying72, h1, sizeOf, typeInfo, hi]
 intro _
 cases a <;> simp [Addr.add]
theorem run_sto3 (a : Option Addr) (n c k : Nat) (hc : k ≤ c) (w : World) : (Instr.slice 72 (.slice a n c) none (some (.int .i64 (k : Int))) (some (.int .i64 (k : Int)))).run Tryz.prog w = .ok (.slice a k k) w := by
 obtain ⟨i0, hi, hz0, hz1, hz2⟩ := info_parts info5
 have h1 := run_sliceBound (P := Tryz.prog) w .i64 (k : Int) c .slice3Acap (by omega) (by omega)
 have h2 := run_sliceBound (P := Tryz.prog) w .i64 (k : Int) k .slice3B (by omega) (by omega)
 simp [Instr.slice, Instr.sliceBounds, run_underlying Tryz.underlying72, h1, h2, sizeOf, typeInfo, hi]
 intro _
 cases a <;> simp [Addr.add]
end Go.Proofs.YtonegoemmologaaGreatDoor
