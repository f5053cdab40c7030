/-
  parseFieldName of the text form, at a name and a colon.
  Small parts of the text form's Decoder: NewDecoder, currentOpenKind at the top, UnmarshalString.
  parseNext: what holds ahead of its tests, and what it leaves.
-/
import Derived.Test.YtmijjppjodpagaaGreatDoorM28
import Derived.Test.YtmijjppjodpagaaGreatDoorM30
import Derived.Defers
import Derived.Test.YtmijjppjodpagaaGreatDoorM29
import Derived.Deep.MidRow
set_option linter.unusedVariables false
set_option linter.unusedSimpArgs false
namespace Go.Proofs.YtmijjppjodpagaaGreatDoor
open Go.RowKit

set_option maxRecDepth 1000000 in
set_option maxHeartbeats 4000000 in
theorem tryColon (D : Nat) (cur : Array Value) (vi : Value) (T : List UInt8) (w : World) (hrow : w.heap[D]? = some (.cells cur 129 (0, 0)))
    (hin : cur[10]? = some vi) (hv : BytesAt w vi (58 :: T)) (hs : ∀ r, skip T ≠ 35 :: r) :
    Calls Tryz.prog 139 #[.pointer (some ⟨D, 0, none⟩), .int .u8 58] w fun e w' =>
      e = .returned (.bool true) ∧ ∃ V, BytesAt w V (skip T) ∧ Within vi V ∧ w' = w.setCell ⟨D, 10, none⟩ V := by
  have hc10 : w.cell? ⟨D, 10, none⟩ = some vi := (cell_row hrow).trans hin
  obtain ⟨b, off, c, rfl, hcc, hcm, hx⟩ := hv.cons
  have hx' : w.cell? ⟨b, off, none⟩ = some (.int .u8 58) := hx
  have hd : Calls Tryz.prog 113 #[.pointer (some ⟨D, 0, none⟩), .int .i64 1] w fun e w' =>
      e = .returned (.tuple #[]) ∧ ∃ V, BytesAt w V (skip T) ∧ Within (.slice (some ⟨b, off, none⟩) (T.length + 1) c) V ∧ w' = w.setCell ⟨D, 10, none⟩ V :=
    dconsume D cur _ (58 :: T) 1 (by simp) w hrow hin hv (by simpa using hs)
  clear hx hv
  go_enter Tryz.func139, Tryz.ntmps139
  go_wp2_with (go_at_call 113; refine hd.mono ?_; rintro e w2 ⟨rfl, V, hb, hi, rfl⟩)
  go_ret
  exact ⟨rfl, V, hb, hi, rfl⟩

set_option maxRecDepth 1000000 in
set_option maxHeartbeats 4000000 in
/-- The deferred closure of parseFieldName, no error laid, a colon ahead. -/
theorem field_deferred (D E B K : Nat) (cur : Array Value) (vi : Value) (T : List UInt8) (u : FrameMode) (w : World) (hrow : w.heap[D]? = some (.cells cur 129 (0, 0)))
    (hin : cur[10]? = some vi) (hv : BytesAt w vi (58 :: T)) (hs : ∀ r, skip T ≠ 35 :: r)
    (hE : w.cell? ⟨E, 0, none⟩ = some .nilIface) (hB : w.cell? ⟨B, 0, none⟩ = some (.pointer (some ⟨D, 0, none⟩))) (hK : w.cell? ⟨K, 1, none⟩ = some (.int .u8 1)) (hKf : w.frozen? ⟨K, 1, none⟩ = false) (hKD : K ≠ D) :
    CallsD Tryz.prog 138 #[.pointer (some ⟨E, 0, none⟩), .pointer (some ⟨B, 0, none⟩), .pointer (some ⟨K, 0, none⟩)] u w fun e u' w' =>
      u' = u ∧ (e = .returned (.tuple #[]) ∧ ∃ V, BytesAt w V (skip T) ∧ Within vi V ∧ w' = (w.setCell ⟨D, 10, none⟩ V).setCell ⟨K, 1, none⟩ (.int .u8 129)) := by
  go_enter_d Tryz.func138, Tryz.ntmps138
  go_wp2_with (go_at_call 139; refine (tryColon D cur vi T w hrow hin hv hs).mono ?_; rintro e w2 ⟨rfl, V, hb, hi, rfl⟩; have hK2 : (w.setCell ⟨D, 10, none⟩ V).cell? ⟨K, 1, none⟩ = some (.int .u8 1) := (World.cell?_setCell_other _ _ _ _ (by simp [hKD])).trans hK; have hK3 : (w.setCell ⟨D, 10, none⟩ V).frozen? ⟨K, 1, none⟩ = false := by simpa using hKf)
  go_end0
  exact ⟨rfl, V, hb, hi, rfl⟩
/-- The same, where some blocks have changed that V does not lie in. -/
theorem BytesAt.back' {S : Nat → Prop} {w w1 : World} {v V : Value} {l l0 : List UInt8} (h : BytesAt w1 V l) (hk : Keeps S w w1) (hv : BytesAt w v l0) (hi : Within v V) (hS : ∀ k, v.ownBlock = some k → ¬ S k) (hl : l ≠ [] → l0 ≠ []) : BytesAt w V l := by
  obtain ⟨a, c, rfl, hc, hm, hx0⟩ := h
  refine ⟨a, c, rfl, hc, hm, ?_⟩
  by_cases h0 : l = []
  · exact .inl h0
  · obtain ⟨b, off, rfl, hx⟩ := hx0.resolve_left h0
    refine .inr ⟨b, off, rfl, fun j hj => ?_⟩
    have hb := hi b rfl
    obtain ⟨b', off', c', rfl, _, _⟩ := hv.form' (hl h0)
    have hb2 := hS b hb
    simp only [Value.ownBlock, Option.some.injEq] at hb
    subst hb
    have hpos : 0 < l0.length := List.length_pos_iff.2 (hl h0)
    have hlt := World.block_lt_of_cell? w _ (hv.cell.2 0 hpos)
    exact (World.cell?_of_block (hk.block b' hlt hb2)).symm.trans (hx j hj)

theorem letter_ne {x : UInt8} (h : Letter x) : x.toNat ≠ 91 := by
  rcases h with h | h | h <;> omega

/-- Six cells stored. -/
def store6 (w : World) (K : Nat) (a b c d e f : Value) : World :=
  (((((w.setCell ⟨K, 0, none⟩ a).setCell ⟨K, 1, none⟩ b).setCell ⟨K, 2, none⟩ c).setCell ⟨K, 3, none⟩ d).setCell ⟨K, 4, none⟩ e).setCell ⟨K, 5, none⟩ f
theorem store6_keeps (w : World) (K : Nat) (a b c d e f : Value) : Keeps (fun k => k = K) w (store6 w K a b c d e f) := by
  have st : ∀ (w' : World) (j : Nat) (v : Value), Keeps (fun k => k = K) w w' → Keeps (fun k => k = K) w (w'.setCell ⟨K, j, none⟩ v) := fun w' j v h => Keeps.setCell (S := fun k => k = K) h ⟨K, j, none⟩ (fun _ => rfl) v
  exact st _ _ _ (st _ _ _ (st _ _ _ (st _ _ _ (st _ _ _ (st _ _ _ (Keeps.refl _ w))))))
theorem store6_row {w : World} {K : Nat} {T : TypeId} {fr : Nat × Nat} {a0 b0 c0 d0 e0 f0 : Value} (h : w.heap[K]? = some (.cells #[a0, b0, c0, d0, e0, f0] T fr)) (a b c d e f : Value) :
    (store6 w K a b c d e f).heap[K]? = some (.cells #[a, b, c, d, e, f] T fr) := by
  unfold store6
  rw [setCell_row (setCell_row (setCell_row (setCell_row (setCell_row (setCell_row h a) b) c) d) e) f]
  simp

theorem results_cells {fn : Func} {p q : Tmp} {ty ty2 : TypeId} (h : fn.results = #[.cell p ty, .cell q ty2]) (tmps : Array Value) (w : World) (g g2 : Nat)
    (hp : tmps.getD p undef = .pointer (some ⟨g, 0, none⟩)) (hq : tmps.getD q undef = .pointer (some ⟨g2, 0, none⟩)) {u v : Value}
    (hu : (loadVar ty ⟨g, 0, none⟩).run Tryz.prog w = .ok u w) (hv : (loadVar ty2 ⟨g2, 0, none⟩).run Tryz.prog w = .ok v w) :
    (results fn tmps).run Tryz.prog w = .ok (.tuple #[u, v]) w := by
  have hp' : tmps[p]?.getD undef = .pointer (some ⟨g, 0, none⟩) := by simpa using hp
  have hq' : tmps[q]?.getD undef = .pointer (some ⟨g2, 0, none⟩) := by simpa using hq
  simp [results, h, hp', hq', asAddr, hu, hv]
/-- A variable of an interface's type. -/
theorem run_loadVar_iface {w : World} {g : Nat} {v : Value} (h : w.cell? ⟨g, 0, none⟩ = some v) : (loadVar 58 ⟨g, 0, none⟩).run Tryz.prog w = .ok v w := by
  simp [loadVar, go_sem, h]

/-- A result in a row of six cells, and a nil error in a slot. -/
theorem results_cell_slot {fn : Func} {p u : Tmp} (h : fn.results = #[.cell p 120, .tmp u]) (tmps : Array Value) (w : World) (g : Nat) (fr : Nat × Nat) (hp : tmps.getD p undef = .pointer (some ⟨g, 0, none⟩))
    {x1 x2 x3 x4 x5 x6 : Value} (hrow : w.heap[g]? = some (.cells #[x1, x2, x3, x4, x5, x6] 120 fr)) : (results fn tmps).run Tryz.prog w = .ok (.tuple #[.agg #[x1, x2, x3, x4, x5, x6], tmps.getD u undef]) w := by
  rw [results_cell_tmp h, hp]
  simp only [asAddr, Sem.run_pure, Result.andThen_ok]
  rw [run_loadVar_row _ _ _ _ _ fr _ hrow Tryz.underlying120 rfl (by kernel_rfl)]
  rfl

theorem heap_alloc3_mid (w : World) (A B C : Obj) : (((w.alloc A).alloc B).alloc C).heap[w.heap.size + 1]? = some B := by
  rw [heap_alloc_old _ _ (by simp)]
  exact heap_alloc2_new w A B
theorem heap_alloc3_lastrow (w : World) (A B C : Obj) : (((w.alloc A).alloc B).alloc C).heap[w.heap.size + 1 + 1]? = some C := by
  have h := heap_alloc_new ((w.alloc A).alloc B) C
  simpa using h
theorem heap_alloc3_last (w : World) (A B : Obj) (c : Value) {T : TypeId} : (((w.alloc A).alloc B).alloc (.cells #[c] T)).cell? ⟨w.heap.size + 1 + 1, 0, none⟩ = some c := by
  rw [cell_row (heap_alloc3_lastrow w A B _)]
  rfl
theorem heap_alloc3_first (w : World) (c : Value) {T : TypeId} (B C : Obj) : (((w.alloc (.cells #[c] T)).alloc B).alloc C).cell? ⟨w.heap.size, 0, none⟩ = some c := by
  have h : (((w.alloc (.cells #[c] T)).alloc B).alloc C).heap[w.heap.size]? = some (.cells #[c] T (0, 0)) := by
    rw [heap_alloc_old _ _ (by simp; omega)]
    exact heap_alloc2_old w _ _
  rw [cell_row h]
  rfl

set_option maxRecDepth 1000000 in
set_option maxHeartbeats 8000000 in
theorem parseFieldName_any (D : Nat) (cur : Array Value) (vo vi : Value) (orig nm T : List UInt8) (w : World) (hrow : w.heap[D]? = some (.cells cur 129 (0, 0)))
    (ho : cur[9]? = some vo) (hin : cur[10]? = some vi) (hsz : cur.size = 11) (hvo : BytesAt w vo orig) (hv : BytesAt w vi (nm ++ 58 :: T)) (hn0 : nm ≠ []) (hnl : ∀ c ∈ nm, Letter c) (hnm : nm.length ≤ 1000000) (hs : ∀ r, skip T ≠ 35 :: r) (hvD : vi.ownBlock ≠ some D) :
    Calls Tryz.prog 115 #[.pointer (some ⟨D, 0, none⟩)] w fun e w' =>
      ∃ raw V pos, e = .returned (.tuple #[.agg #[.int .u8 2, .int .u8 129, .int .u8 0, .int .i64 pos, raw, .string ⟨#[]⟩], .nilIface]) ∧ BytesAt w raw nm ∧ Within vi raw ∧ BytesAt w V (skip T) ∧ Within vi V ∧
        Keeps (fun k => k = D) w w' ∧ w'.heap[D]? = some (.cells (cur.setIfInBounds 10 V) 129 (0, 0)) := by
  have hmf : ∀ (fn : Fn) (first cap : Array Value) (w : World), (Instr.makeFunc fn first cap).run Tryz.prog w = .ok (.func fn first cap) w := fun _ _ _ _ => rfl
  have hc10 : w.cell? ⟨D, 10, none⟩ = some vi := (cell_row hrow).trans hin
  have hD := row_lt hrow
  obtain ⟨x, t, rfl⟩ : ∃ x t, nm = x :: t := by cases nm with
    | nil => exact absurd rfl hn0
    | cons x t => exact ⟨x, t, rfl⟩
  have hv' := hv
  rw [List.cons_append] at hv'
  obtain ⟨b, off, c, hvf, hcc, hcm, hx⟩ := hv'.cons
  obtain ⟨n, hn⟩ : ∃ n, (t ++ 58 :: T).length = n := ⟨_, rfl⟩
  rw [hn] at hvf hcc
  have HN := Lib.hid hn
  clear hn
  have hx91 : ((x.toNat : Int) == 91) = false := by have := letter_ne (hnl x (by simp)); simp; omega
  obtain ⟨d, hd⟩ : ∃ d, x.toNat = d := ⟨_, rfl⟩
  rw [hd] at hx hx91
  have hpos : (0 : Int) < ((x :: t).length : Int) := by simp only [List.length_cons]; omega
  obtain ⟨m, hm⟩ : ∃ m, (x :: t).length = m := ⟨_, rfl⟩
  have hK3 : ∀ A B C, Keeps (fun _ => False) w (((w.alloc A).alloc B).alloc C) := fun A B C => (((Keeps.refl _ w).alloc A).alloc B).alloc C
  have cid := fun w1 (h : BytesAt w1 vi (x :: t ++ 58 :: T)) => parseIdent_any vi (x :: t) T w1 hn0 hnl h hnm
  have hdrop : (x :: t ++ 58 :: T).drop m = 58 :: T := by rw [← hm]; exact List.drop_left
  have htake : (x :: t ++ 58 :: T).take m = x :: t := by rw [← hm]; exact List.take_left
  have hsk : skip (58 :: T) = 58 :: T := by rw [skip_cons]; rfl
  have ctk := fun w1 (hr : w1.heap[D]? = some (.cells cur 129 (0, 0))) (h1 : BytesAt w1 vo orig) (h : BytesAt w1 vi (x :: t ++ 58 :: T)) =>
    consumeToken_any D cur vo vi orig (x :: t ++ 58 :: T) 2 m 1 (by rw [← hm]; simp) w1 hr ho hin h1 h (by rw [hdrop, hsk]; intro r hr; cases hr)
  simp only [hdrop, htake, hsk] at ctk
  rw [hm] at hpos
  simp only [hm] at cid
  have HM := Lib.hid hm
  have HVF := Lib.hid hvf
  have HVO := Lib.hid hvo
  have HV := Lib.hid hv
  have HR := Lib.hid hrow
  clear hm hv hvo hv' hdrop htake hsk hrow
  subst hvf
  have hcA := fun A B C => (hK3 A B C).cell hc10 id
  have hxA := fun A B C => (hK3 A B C).cell hx id
  go_enter_defers Tryz.func115, Tryz.ntmps115
  go_wp2_with (first
    | (go_at_call 141; refine (cid _ (HV.out.keeps (hK3 _ _ _) (fun _ _ => id))).mono ?_; rintro e w1 ⟨rfl, rfl⟩)
    | (go_at_call 114; refine (ctk _ ((hK3 _ _ _).row HR.out id) (HVO.out.keeps (hK3 _ _ _) (fun _ _ => id)) (HV.out.keeps (hK3 _ _ _) (fun _ _ => id))).mono ?_; rintro e w2 ⟨raw, V, pos, rfl, hraw, hri, hV, hVi, hk, hrow2⟩; have hrK := hk.row (heap_alloc3_mid w _ _ _) (by omega); have hcE := hk.cell (heap_alloc3_last w _ _ _) (by simp; omega); have hcB := hk.cell (heap_alloc3_first w _ _ _) (by simp; omega); have hfE := hk.row (heap_alloc3_lastrow w _ _ _) (by omega); have hfK := fun j => frozen_row (j := j) hrK; have hfE' := frozen_row (j := 0) hfE; have k0 := cell_row (j := 0) hrK; have k1 := cell_row (j := 1) hrK; have k2 := cell_row (j := 2) hrK; have k3 := cell_row (j := 3) hrK; have k4 := cell_row (j := 4) hrK; have k5 := cell_row (j := 5) hrK; simp at k0 k1 k2 k3 k4 k5; obtain ⟨ar, cr, rfl, _, _⟩ := hraw.form))
  have hEq : Hid (w.heap.size = w.heap.size) := rfl
  obtain ⟨W6, hW6⟩ : ∃ W6, store6 w2 (w.heap.size + 1) (.int .u8 2) (.int .u8 1) (.int .u8 0) (.int .i64 pos) (.slice ar (t.length + 1) cr) (.string ⟨#[]⟩) = W6 := ⟨_, rfl⟩
  have h6k : Keeps (fun k => k = w.heap.size + 1) w2 W6 := by rw [← hW6]; exact store6_keeps _ _ _ _ _ _ _ _
  have h6r : W6.heap[w.heap.size + 1]? = some (.cells #[.int .u8 2, .int .u8 1, .int .u8 0, .int .i64 pos, .slice ar (t.length + 1) cr, .string ⟨#[]⟩] 120 (0, 0)) := by
    rw [← hW6]; exact store6_row hrK _ _ _ _ _ _
  have h7r := setCell_row (j := 0) (h6k.row hfE (by omega)) .nilIface
  obtain ⟨W7, hW7⟩ : ∃ W7, W6.setCell ⟨w.heap.size + 1 + 1, 0, none⟩ .nilIface = W7 := ⟨_, rfl⟩
  rw [hW7] at h7r
  have h7k : Keeps (fun k => k = w.heap.size + 1 + 1) W6 W7 := by rw [← hW7]; exact Keeps.setCell (S := fun k => k = w.heap.size + 1 + 1) (Keeps.refl _ W6) _ (fun _ => rfl) _
  have h7K := h7k.row h6r (by omega)
  have h7D := h7k.row (h6k.row hrow2 (by omega)) (by omega)
  have h7B := h7k.cell (h6k.cell hcB (by simp)) (by simp; omega)
  have h7E : W7.cell? ⟨w.heap.size + 1 + 1, 0, none⟩ = some .nilIface := (cell_row h7r).trans rfl
  have h7all : Keeps (fun k => k = D ∨ w.heap.size ≤ k) w W7 :=
    ((((hK3 _ _ _).mono (S1 := fun k => k = D ∨ w.heap.size ≤ k) (fun _ _ => False.elim)).trans hk (fun i hi h => .inl h)).trans h6k (fun i hi h => by omega)).trans h7k (fun i hi h => by omega)
  unfold store6 at hW6
  rw [hW6, hW7]
  have hbl : b < w.heap.size := World.block_lt_of_cell? w _ hx
  have hnot : ∀ U, Within (.slice (some ⟨b, off, none⟩) (n + 1) c) U → ∀ k, U.ownBlock = some k → ¬ (k = D ∨ w.heap.size ≤ k) := by
    intro U hU k hk1 hor
    have h2 := hU k hk1
    have h3 : b = k := by simpa [Value.ownBlock] using h2
    have h4 : b ≠ D := fun e => hvD (by simp [Value.ownBlock, e])
    omega
  have hVw : BytesAt w V (58 :: T) := hV.back (hK3 _ _ _) HV.out hVi (fun _ => by simp)
  have hrw : BytesAt w (.slice ar (t.length + 1) cr) (x :: t) := hraw.back (hK3 _ _ _) HV.out hri (fun _ => by simp)
  refine leaves_cons (f := 138) (args := #[.pointer (some ⟨w.heap.size + 1 + 1, 0, none⟩), .pointer (some ⟨w.heap.size, 0, none⟩), .pointer (some ⟨w.heap.size + 1, 0, none⟩)]) (by simp) (by simp [go_sem]) ?_
  refine (field_deferred D (w.heap.size + 1 + 1) w.heap.size (w.heap.size + 1) (cur.setIfInBounds 10 V) V T .returning W7 h7D (by simp [hsz]) (hVw.keeps h7all (hnot V hVi)) hs h7E h7B ((cell_row h7K).trans rfl) (frozen_row h7K) (by omega)).mono ?_
  rintro e u' w3 ⟨rfl, rfl, V', hb', hi', rfl⟩
  have hkD : Keeps (fun k => k = D) W7 (W7.setCell ⟨D, 10, none⟩ V') := Keeps.setCell (S := fun k => k = D) (Keeps.refl _ W7) ⟨D, 10, none⟩ (fun _ => rfl) V'
  have hkK : Keeps (fun k => k = w.heap.size + 1) (W7.setCell ⟨D, 10, none⟩ V') ((W7.setCell ⟨D, 10, none⟩ V').setCell ⟨w.heap.size + 1, 1, none⟩ (.int .u8 129)) := Keeps.setCell (S := fun k => k = w.heap.size + 1) (Keeps.refl _ _) ⟨w.heap.size + 1, 1, none⟩ (fun _ => rfl) _
  have h8K := setCell_row (j := 1) (hkD.row h7K (by omega)) (.int .u8 129)
  have h8E := hkK.cell (hkD.cell h7E (by simp; omega)) (by simp)
  have h8D := hkK.row (setCell_row (j := 10) h7D V') (by omega)
  have hVb : BytesAt w V' (skip T) := hb'.back' h7all hVw hi' (fun k hk h => hnot V hVi k hk h) (fun h1 h2 => by simp at h2)
  refine ⟨_, results_cells rfl _ _ (w.heap.size + 1) (w.heap.size + 1 + 1) rfl rfl (run_loadVar_row _ _ _ _ _ (0, 0) _ h8K Tryz.underlying120 rfl (by kernel_rfl)) (run_loadVar_iface h8E), .slice ar (t.length + 1) cr, V', pos, by simp, hrw, hri, hVb, hVi.trans hi', ?_, ?_⟩
  · refine ⟨(hkK.os.trans hkD.os).trans h7all.os, (hkK.tape.trans hkD.tape).trans h7all.tape, (hkK.output.trans hkD.output).trans h7all.output, Nat.le_trans h7all.size (Nat.le_trans hkD.size hkK.size), fun k hk1 hk2 => ?_⟩
    rw [hkK.block k (by have := h7all.size; have := hkD.size; omega) (by omega), hkD.block k (by have := h7all.size; omega) hk2, h7all.block k hk1 (by omega)]
  · rw [h8D]
    simp
end Go.Proofs.YtmijjppjodpagaaGreatDoor

namespace Go.Proofs.YtmijjppjodpagaaGreatDoor
open Go.RowKit

/-- The cells of a new Decoder over v. -/
def dec0 (v : Value) : Array Value := #[.int .u8 0, .int .u8 0, .int .u8 0, .int .u8 0, .int .i64 0, .slice none 0 0, .string ⟨#[]⟩, .nilIface, .slice none 0 0, v, v]

set_option maxRecDepth 1000000 in
theorem newDecoder_any (a : Option Addr) (n c : Nat) (w : World) :
    Calls Tryz.prog 44 #[.slice a n c] w fun e w' => e = .returned (.pointer (some ⟨w.heap.size, 0, none⟩)) ∧ w' = w.alloc (.cells (dec0 (.slice a n c)) 129) := by
  go_enter Tryz.func44, Tryz.ntmps44
  go_wp2
  go_ret
  exact ⟨rfl, rfl⟩

set_option maxRecDepth 1000000 in
theorem openKind_top (D : Nat) (w : World) (h : w.cell? ⟨D, 8, none⟩ = some (.slice none 0 0)) :
    Calls Tryz.prog 118 #[.pointer (some ⟨D, 0, none⟩)] w fun e w' => e = .returned (.tuple #[.int .u8 0, .int .u8 0]) ∧ w = w' := by
  go_enter Tryz.func118, Tryz.ntmps118
  go_wp2
  go_ret2
  exact ⟨rfl, rfl⟩
end Go.Proofs.YtmijjppjodpagaaGreatDoor

namespace Go.Proofs.YtmijjppjodpagaaGreatDoor
open Go.RowKit

/-- What a call of parseNext leaves: a token, and the Decoder's rest. -/
def NextPost (D : Nat) (cur : Array Value) (vi : Value) (w : World) (k a na : Nat) (s : ByteArray) (rw rest : List UInt8) (e : Ending) (w' : World) : Prop :=
  ∃ raw V pos, e = .returned (.tuple #[.agg #[.int .u8 k, .int .u8 a, .int .u8 na, .int .i64 pos, raw, .string s], .nilIface]) ∧ BytesAt w' raw rw ∧ Within vi raw ∧ BytesAt w' V rest ∧ Within vi V ∧
    Keeps (fun k => k = D) w w' ∧ w'.heap[D]? = some (.cells (cur.setIfInBounds 10 V) 129 (0, 0))

theorem infoTok : (Tryz.prog.info? 120).map (·.size) = some 6 := by kernel_rfl
theorem tok_one (k a na pos : Int) (ar : Option Addr) (n c : Nat) (s : ByteArray) : (#[.int .u8 k, .int .u8 a, .int .u8 na, .int .i64 pos, .slice ar n c, .string s] : Array Value).all (·.oneCell') = true := by
  simp [Value.oneCell']
/-- A token stored into six cells of a row. -/
theorem run_store6 {w : World} {K : Nat} {cur : Array Value} {T : TypeId} (hrow : w.heap[K]? = some (.cells cur T (0, 0))) (j : Nat) (hj : j + 6 ≤ cur.size) (cs : Array Value) (h6 : cs.size = 6) (h1 : cs.all (·.oneCell') = true) :
    (Instr.storeAt 120 (.pointer (some ⟨K, j, none⟩)) (.agg cs)).run Tryz.prog w = .ok () (w.setCells K j cs.toList) :=
  run_storeAt_mid w K j 120 cs (fun i hi => ⟨by rw [cell_row hrow]; simp; omega, frozen_row hrow⟩) (by rw [infoTok, h6]) h1
theorem setCells_keeps (K : Nat) : ∀ (vs : List Value) (j : Nat) (w : World), Keeps (fun k => k = K) w (w.setCells K j vs)
  | [], _, w => Keeps.refl _ w
  | v :: r, j, w => (Keeps.setCell (S := fun k => k = K) (Keeps.refl _ w) ⟨K, j, none⟩ (fun _ => rfl) v).trans (setCells_keeps K r (j + 1) (w.setCell ⟨K, j, none⟩ v)) (fun _ _ h => h)
theorem setCells6_row {w : World} {K : Nat} {cur : Array Value} {T : TypeId} {fr : Nat × Nat} (h : w.heap[K]? = some (.cells cur T fr)) (j : Nat) (a b c d e f : Value) :
    (w.setCells K j [a, b, c, d, e, f]).heap[K]? = some (.cells ((((((cur.setIfInBounds j a).setIfInBounds (j + 1) b).setIfInBounds (j + 1 + 1) c).setIfInBounds (j + 1 + 1 + 1) d).setIfInBounds (j + 1 + 1 + 1 + 1) e).setIfInBounds (j + 1 + 1 + 1 + 1 + 1) f) T fr) := by
  simp only [World.setCells]
  exact setCell_row (setCell_row (setCell_row (setCell_row (setCell_row (setCell_row h a) b) c) d) e) f

theorem setIn_same {cur : Array Value} {V : Value} (h : cur.size = 11) : (cur.setIfInBounds 10 V)[10]? = some V := by simp [h]
theorem setIn_other {cur : Array Value} {V v : Value} (h : cur[8]? = some v) : (cur.setIfInBounds 10 V)[8]? = some v := by simpa using h
theorem setIn_other' {cur : Array Value} {V : Value} {j : Nat} (h : j ≠ 10) : (cur.setIfInBounds 10 V)[j]? = cur[j]? := by
  rw [Array.getElem?_setIfInBounds, if_neg (Ne.symm h)]

theorem next_start (D : Nat) (cur : Array Value) (vi V0 : Value) (l : List UInt8) (w w1 : World) (o : Obj) (hrow : w.heap[D]? = some (.cells cur 129 (0, 0))) (hv : BytesAt w vi l) (hvD : vi.ownBlock ≠ some D) (hi : Within vi V0)
    {l' : List UInt8} (hb : BytesAt (w.alloc o) V0 l') (hw : w1 = (w.alloc o).setCell ⟨D, 10, none⟩ V0) :
    w1.heap[D]? = some (.cells (cur.setIfInBounds 10 V0) 129 (0, 0)) ∧ w1.heap[w.heap.size]? = some o ∧ Keeps (fun k => k = D) w w1 ∧ BytesAt w1 V0 l' := by
  have hDl := row_lt hrow
  have hk : Keeps (fun k => k = D) (w.alloc o) w1 := by rw [hw]; exact Keeps.setCell (S := fun k => k = D) (Keeps.refl _ _) ⟨D, 10, none⟩ (fun _ => rfl) V0
  have h1 : (w.alloc o).heap[D]? = some (.cells cur 129 (0, 0)) := ((Keeps.refl (fun _ => False) w).alloc o).row hrow id
  refine ⟨by rw [hw]; exact setCell_row h1 V0, hk.row (heap_alloc_new w o) (by omega), ((Keeps.refl _ w).alloc o).trans hk (fun _ _ h => h), hb.keeps hk ?_⟩
  intro k hk1 hk2
  subst hk2
  exact hvD (hi k hk1)

/-- The end of a call that hands on a callee's token: it is stored into the result's row. -/
theorem next_end (D : Nat) (cur : Array Value) (vi : Value) (w w1 w2 : World) (K : Nat) (hK : w.heap.size ≤ K) (hDl : D < w.heap.size) (h1k : Keeps (fun k => k = D) w w1) (h2 : Keeps (fun k => k = D) w1 w2) {k a na : Nat} {pos : Int} {raw V : Value} {s : ByteArray} {rw rest : List UInt8}
    (hraw : BytesAt w1 raw rw) (hri : Within vi raw) (hV : BytesAt w1 V rest) (hVi : Within vi V) (hvD : vi.ownBlock ≠ some D) (hvl : ∀ j, vi.ownBlock = some j → j < w.heap.size)
    (hrD : w2.heap[D]? = some (.cells (cur.setIfInBounds 10 V) 129 (0, 0))) :
    NextPost D cur vi w k a na s rw rest (.returned (.tuple #[.agg #[.int .u8 k, .int .u8 a, .int .u8 na, .int .i64 pos, raw, .string s], .nilIface])) (store6 w2 K (.int .u8 k) (.int .u8 a) (.int .u8 na) (.int .i64 pos) raw (.string s)) := by
  have hs := store6_keeps w2 K (.int .u8 k) (.int .u8 a) (.int .u8 na) (.int .i64 pos) raw (.string s)
  have ne : ∀ U, Within vi U → ∀ j, U.ownBlock = some j → ¬ j = K := fun U hU j hj e => by have := hvl j (hU j hj); omega
  have nd : ∀ U, Within vi U → ∀ j, U.ownBlock = some j → ¬ j = D := fun U hU j hj e => by subst e; exact hvD (hU j hj)
  exact ⟨raw, V, pos, rfl, (hraw.keeps h2 (nd raw hri)).keeps hs (ne raw hri), hri, (hV.keeps h2 (nd V hVi)).keeps hs (ne V hVi), hVi, (h1k.trans h2 (fun _ _ h => h)).trans hs (fun i hi h => by omega), hs.row hrD (by omega)⟩
/-- The same, over a callee that has said where its token lies behind the call. -/
theorem next_end2 (D : Nat) (cur : Array Value) (vi : Value) (w w1 w2 : World) (K : Nat) (hK : w.heap.size ≤ K) (hDl : D < w.heap.size) (h1k : Keeps (fun k => k = D) w w1) (h2 : Keeps (fun k => k = D) w1 w2) {k a na : Nat} {pos : Int} {raw V : Value} {s : ByteArray} {rw rest : List UInt8}
    (hraw : BytesAt w2 raw rw) (hri : Within vi raw) (hV : BytesAt w2 V rest) (hVi : Within vi V) (_ : vi.ownBlock ≠ some D) (hvl : ∀ j, vi.ownBlock = some j → j < w.heap.size)
    (hrD : w2.heap[D]? = some (.cells (cur.setIfInBounds 10 V) 129 (0, 0))) :
    NextPost D cur vi w k a na s rw rest (.returned (.tuple #[.agg #[.int .u8 k, .int .u8 a, .int .u8 na, .int .i64 pos, raw, .string s], .nilIface])) (store6 w2 K (.int .u8 k) (.int .u8 a) (.int .u8 na) (.int .i64 pos) raw (.string s)) := by
  have hs := store6_keeps w2 K (.int .u8 k) (.int .u8 a) (.int .u8 na) (.int .i64 pos) raw (.string s)
  have ne : ∀ U, Within vi U → ∀ j, U.ownBlock = some j → ¬ j = K := fun U hU j hj e => by have := hvl j (hU j hj); omega
  exact ⟨raw, V, pos, rfl, hraw.keeps hs (ne raw hri), hri, hV.keeps hs (ne V hVi), hVi, (h1k.trans h2 (fun _ _ h => h)).trans hs (fun i hi h => by omega), hs.row hrD (by omega)⟩
theorem bytes_lt {w : World} {v : Value} {l : List UInt8} (h : BytesAt w v l) (hl : l ≠ []) : ∀ j, v.ownBlock = some j → j < w.heap.size := by
  intro j hj
  obtain ⟨b, off, c, rfl, _, _⟩ := h.form' hl
  simp only [Value.ownBlock, Option.some.injEq] at hj
  subst hj
  exact World.block_lt_of_cell? w _ (h.cell.2 0 (List.length_pos_iff.2 hl))
end Go.Proofs.YtmijjppjodpagaaGreatDoor
