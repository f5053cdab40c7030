/-
  The JSON decoder: consume, consumeToken, and parseNumber at one digit ahead of a bracket. parseNext of the JSON decoder at a bracket, at one digit ahead of a bracket, at the end; isValueNext.
-/
import Derived.Test.YtmijjppjodpagaaGreatDoorM30
import Derived.BigQuiet
import Derived.Deep.QuietTactic
set_option linter.unusedVariables false
set_option linter.unusedSimpArgs false
namespace Go.Proofs.YtmijjppjodpagaaGreatDoor
open Go.RowKit

/-- The cells of a JSON Decoder: its last token's five, the open stack, its whole input, its rest. -/
def jRow (k p r b s os vo vi : Value) : Array Value := #[.int .u8 0, k, p, r, b, s, .nilIface, os, vo, vi]
/-- How long the slice in a JSON Decoder's last cell is. -/
def restLen (w : World) (D : Nat) : Nat := match w.cell? ⟨D, 9, none⟩ with
  | some v => lenOf v
  | none => 0
theorem restLen_eq {w : World} {D : Nat} {v : Value} (h : w.cell? ⟨D, 9, none⟩ = some v) : restLen w D = lenOf v := by unfold restLen; rw [h]

def store5 (w : World) (K : Nat) (a b c d e : Value) : World :=
  ((((w.setCell ⟨K, 0, none⟩ a).setCell ⟨K, 1, none⟩ b).setCell ⟨K, 2, none⟩ c).setCell ⟨K, 3, none⟩ d).setCell ⟨K, 4, none⟩ e
theorem store5_keeps (w : World) (K : Nat) (a b c d e : Value) : Keeps (fun k => k = K) w (store5 w K a b c d e) := by
  have st : ∀ (w' : World) (j : Nat) (v : Value), Keeps (fun k => k = K) w w' → Keeps (fun k => k = K) w (w'.setCell ⟨K, j, none⟩ v) := fun w' j v h => Keeps.setCell (S := fun k => k = K) h ⟨K, j, none⟩ (fun _ => rfl) v
  exact st _ _ _ (st _ _ _ (st _ _ _ (st _ _ _ (st _ _ _ (Keeps.refl _ w)))))
theorem store5_row {w : World} {K : Nat} {T : TypeId} {fr : Nat × Nat} {a0 b0 c0 d0 e0 : Value} (h : w.heap[K]? = some (.cells #[a0, b0, c0, d0, e0] T fr)) (a b c d e : Value) :
    (store5 w K a b c d e).heap[K]? = some (.cells #[a, b, c, d, e] T fr) := by
  unfold store5
  rw [setCell_row (setCell_row (setCell_row (setCell_row (setCell_row h a) b) c) d) e]
  simp

def JCons (D : Nat) (cur : Array Value) (v : Value) (w : World) (l : List UInt8) (wr : World) : Prop :=
  ∃ r V, BytesAt wr V r ∧ Within v V ∧ skip r = skip l ∧ Keeps (fun k => k = D) w wr ∧ wr.heap[D]? = some (.cells (cur.setIfInBounds 9 V) 143 (0, 0))

set_option maxRecDepth 1000000 in
set_option maxHeartbeats 4000000 in
theorem jconsume (D : Nat) (cur : Array Value) (v : Value) (l : List UInt8) (n : Nat) (hn : n ≤ l.length) (w : World) (hrow : w.heap[D]? = some (.cells cur 143 (0, 0))) (hsz : cur.size = 10) (hin : cur[9]? = some v)
    (hv : BytesAt w v l) (hvD : v.ownBlock ≠ some D) :
    Calls Tryz.prog 99 #[.pointer (some ⟨D, 0, none⟩), .int .i64 n] w fun e w' =>
      e = .returned (.tuple #[]) ∧ ∃ V, BytesAt w' V (skip (l.drop n)) ∧ Within v V ∧ Keeps (fun k => k = D) w w' ∧ w'.heap[D]? = some (.cells (cur.setIfInBounds 9 V) 143 (0, 0)) := by
  obtain ⟨V0, hV0, hb0, hi0⟩ := hv.from n hn
  obtain ⟨a0, c0, hf0, _, _⟩ := hb0.form
  obtain ⟨n0, hn0⟩ : ∃ n0, (l.drop n).length = n0 := ⟨_, rfl⟩
  rw [hn0] at hf0
  subst hf0
  have hc : w.cell? ⟨D, 9, none⟩ = some v := (cell_row hrow).trans hin
  have hf : w.frozen? ⟨D, 9, none⟩ = false := frozen_row hrow
  have nD : ∀ U, Within v U → ∀ j, U.ownBlock = some j → ¬ j = D := fun U hU j hj e => by subst e; exact hvD (hU j hj)
  have hkS : ∀ (wr : World) (U : Value), Keeps (fun k => k = D) wr (wr.setCell ⟨D, 9, none⟩ U) := fun wr U => Keeps.setCell (S := fun k => k = D) (Keeps.refl _ _) ⟨D, 9, none⟩ (fun _ => rfl) U
  have HST : Hid (JCons D cur v w (l.drop n) (w.setCell ⟨D, 9, none⟩ (.slice a0 n0 c0))) := ⟨l.drop n, _, hb0.keeps (hkS _ _) (nD _ hi0), hi0, rfl, hkS _ _, setCell_row hrow _⟩
  have HND := Lib.hid nD
  have HKS := Lib.hid hkS
  clear hv hb0 hi0 hrow nD hkS hn0
  go_enter Tryz.func99, Tryz.ntmps99
  go_wp2
  go_loopw [25] (fun _ wr => JCons D cur v w (l.drop n) wr) (fun _ wr => restLen wr D)
  case atStart => exact HST.out
  case round =>
    obtain ⟨r, V, hr, hi, he, hk, hrw⟩ := hrel
    have c9 : wr.cell? ⟨D, 9, none⟩ = some V := (cell_row hrw).trans (by simp [hsz])
    have f9 : wr.frozen? ⟨D, 9, none⟩ = false := frozen_row hrw
    have HS : Hid (skip r = skip (l.drop n)) := he
    have HI := Lib.hid hi
    have HK := Lib.hid hk
    have HRW := Lib.hid hrw
    clear he hi hk hrw
    cases r with
    | nil =>
      obtain ⟨a', c', rfl, hc', hm', _⟩ := id hr
      have HR := Lib.hid hr
      clear hr
      go_wp2
      (try simp only [Exit.inBlock, Exit.then]); first | (refine bodyPost_ret (results_none rfl _ _ _) rfl ?_) | go_end0
      exact ⟨rfl, _, by rw [← HS.out]; exact HR.out, HI.out, HK.out, HRW.out⟩
    | cons x r =>
      obtain ⟨V1, hV1, hb1, hi1⟩ := hr.from 1 (by simp)
      obtain ⟨b, off, c', rfl, hc', hm', hx⟩ := hr.cons
      obtain ⟨a1, c1, hf1, _, _⟩ := hb1.form
      obtain ⟨n1, hn1⟩ : ∃ n1, (List.drop 1 (x :: r)).length = n1 := ⟨_, rfl⟩
      rw [hn1] at hf1
      subst hf1
      have HN1 := Lib.hid hn1
      have HR := Lib.hid hr
      have HD := Lib.hid hb1
      have HI1 := Lib.hid hi1
      have hV1' : ∀ w', (Instr.slice 31 (.slice (some ⟨b, off, none⟩) (r.length + 1) c') (some (.int .i64 1)) none none).run Tryz.prog w' = .ok (.slice a1 n1 c1) w' := hV1
      clear hr hb1 hi1 hV1 hn1
      cases hx32 : isSp x with
      | true =>
        have H32 := Lib.hid hx32
        have hsp : x.toNat = 32 ∨ x.toNat = 10 ∨ x.toNat = 13 ∨ x.toNat = 9 := by simpa [isSp, or_assoc] using hx32
        clear hx32
        rcases hsp with hsp | hsp | hsp | hsp
        all_goals
          have H1 := Lib.hid hsp
          rw [hsp] at hx
          clear hsp
          go_wp2
          go_roundw
          case rel => exact ⟨r, _, (show BytesAt wr _ r from HD.out).keeps (HKS.out wr _) (HND.out _ (HI.out.trans HI1.out)), HI.out.trans HI1.out, by rw [← HS.out, skip_cons, if_pos H32.out], HK.out.trans (HKS.out wr _) (fun _ _ h => h), by rw [setCell_row HRW.out _, Array.setIfInBounds_setIfInBounds]⟩
          case measure =>
            rw [restLen_eq c9, restLen_eq (by rw [cell_row (setCell_row HRW.out _)]; simp [hsz]; rfl)]
            have h1 := HN1.out
            simp [lenOf] at h1 ⊢
            omega
      | false =>
        have H32 := Lib.hid hx32
        have h0 : ((x.toNat : Int) == 32) = false := by simp [isSp] at hx32; simp; omega
        have h1 : ((x.toNat : Int) == 10) = false := by simp [isSp] at hx32; simp; omega
        have h2 : ((x.toNat : Int) == 13) = false := by simp [isSp] at hx32; simp; omega
        have h3 : ((x.toNat : Int) == 9) = false := by simp [isSp] at hx32; simp; omega
        clear hx32 hV1'
        go_wp2
        (try simp only [Exit.inBlock, Exit.then]); first | (refine bodyPost_ret (results_none rfl _ _ _) rfl ?_) | go_end0
        exact ⟨rfl, _, by rw [← HS.out, skip_cons, H32.out, if_neg (by simp)]; exact HR.out, HI.out, HK.out, HRW.out⟩

set_option maxRecDepth 1000000 in
set_option maxHeartbeats 4000000 in
theorem jconsumeToken (D : Nat) (cur : Array Value) (vo vi : Value) (orig l : List UInt8) (k n : Nat) (hn : n ≤ l.length) (w : World) (hrow : w.heap[D]? = some (.cells cur 143 (0, 0))) (hsz : cur.size = 10)
    (ho : cur[8]? = some vo) (hin : cur[9]? = some vi) (hvo : BytesAt w vo orig) (hv : BytesAt w vi l) (hvD : vi.ownBlock ≠ some D) (hvl : ∀ j, vi.ownBlock = some j → j < w.heap.size) :
    Calls Tryz.prog 122 #[.pointer (some ⟨D, 0, none⟩), .int .u16 k, .int .i64 n] w fun e w' =>
      ∃ raw V pos, e = .returned (.agg #[.int .u16 k, .int .i64 pos, raw, .bool false, .string ⟨#[]⟩]) ∧ BytesAt w' raw (l.take n) ∧ Within vi raw ∧ BytesAt w' V (skip (l.drop n)) ∧ Within vi V ∧ Keeps (fun k => k = D) w w' ∧ w'.heap[D]? = some (.cells (cur.setIfInBounds 9 V) 143 (0, 0)) := by
  have hc8 : w.cell? ⟨D, 8, none⟩ = some vo := (cell_row hrow).trans ho
  have hc9 : w.cell? ⟨D, 9, none⟩ = some vi := (cell_row hrow).trans hin
  obtain ⟨ao, co, rfl, _, _⟩ := hvo.form
  obtain ⟨ai, ci, rfl, hci, hmi⟩ := hv.form
  have h1 := fun w' => run_sto ai l.length ci n (by omega) w'
  have hlt := row_lt hrow
  go_enter Tryz.func122, Tryz.ntmps122
  go_wp2
  go_region
  go_simp
  have hK : ∀ A B, Keeps (fun _ => False) w ((w.alloc A).alloc B).drew := fun A B => (((Keeps.refl _ w).alloc A).alloc B).drew
  go_wp2_with (go_at_call 99; refine (jconsume D cur _ l n hn _ ((hK _ _).row hrow id) hsz hin (hv.keeps (hK _ _) (fun _ _ => id)) hvD).mono ?_; rintro e w2 ⟨rfl, V, hb, hi, hk2, hrD⟩; have hrT := hk2.row (g := w.heap.size + 1) (heap_alloc2_new w _ _) (by omega); have hrR := hk2.row (g := w.heap.size) (heap_alloc2_old w _ _) (by omega); have hfR := fun j => frozen_row (j := j) hrR; have q0 := cell_row (j := 0) hrT; have q1 := cell_row (j := 1) hrT; have q2 := cell_row (j := 2) hrT; have q3 := cell_row (j := 3) hrT; have q4 := cell_row (j := 4) hrT; have g0 := cell_row (j := 0) hrR; have g1 := cell_row (j := 1) hrR; have g2 := cell_row (j := 2) hrR; have g3 := cell_row (j := 3) hrR; have g4 := cell_row (j := 4) hrR; simp at q0 q1 q2 q3 q4 g0 g1 g2 g3 g4; have HRT := Lib.hid hrT; have HRR := Lib.hid hrR; have HRD := Lib.hid hrD; have HB := Lib.hid hb; have HK2 := Lib.hid hk2; clear hrT hrR hrD hb hk2)
  refine bodyPost_ret (results_cell_row rfl _ _ w.heap.size _ _ (0, 0) _ rfl (store5_row HRR.out _ _ _ _ _) Tryz.underlying133 rfl (by kernel_rfl)) rfl ?_
  have hkw : Keeps (fun j => j = D) w w2 := ((hK _ _).mono (S1 := fun j => j = D) (fun _ _ => False.elim)).trans HK2.out (fun _ _ h => h)
  have h5 := fun a b c d e => store5_keeps w2 w.heap.size a b c d e
  have nR : ∀ U, Within (.slice ai l.length ci) U → ∀ j, U.ownBlock = some j → ¬ j = w.heap.size := fun U hU j hj e => by have := hvl j (hU j hj); omega
  have nD : ∀ U, Within (.slice ai l.length ci) U → ∀ j, U.ownBlock = some j → ¬ j = D := fun U hU j hj e => by subst e; exact hvD (hU j hj)
  have hw := within_len ai l.length ci n ci
  refine ⟨.slice ai n ci, _, _, rfl, ((hv.take n ci hn (by omega) (Nat.le_refl _)).keeps hkw (nD _ hw)).keeps (h5 _ _ _ _ _) (nR _ hw), hw, HB.out.keeps (h5 _ _ _ _ _) (nR _ hi), hi, hkw.trans (h5 _ _ _ _ _) (fun i hi h => by omega), (h5 _ _ _ _ _).row HRD.out (by omega)⟩

set_option maxRecDepth 100000 in
theorem jnotDelim93 (w : World) : Calls Tryz.prog 150 #[.int .u8 93] w fun e w' => e = .returned (.bool false) ∧ w = w' := by
  go_enter Tryz.func150, Tryz.ntmps150
  go_wp2
  go_ret
  exact ⟨rfl, rfl⟩

set_option maxRecDepth 1000000 in
set_option maxHeartbeats 8000000 in
theorem jnumber_one (b off c : Nat) (w : World) (h0 : w.cell? ⟨b, off, none⟩ = some (.int .u8 49)) (h1 : w.cell? ⟨b, off + 1, none⟩ = some (.int .u8 93)) (hc : 2 ≤ c) :
    Calls Tryz.prog 125 #[.slice (some ⟨b, off, none⟩) 2 c] w fun e w' => e = .returned (.tuple #[.int .i64 1, .bool true]) ∧ w = w' := by
  have hne : c ≠ 1 := by omega
  have hsl : ∀ w', (Instr.slice 31 (.slice (some ⟨b, off, none⟩) 2 c) (some (.int .i64 1)) none none).run Tryz.prog w' = .ok (.slice (some ⟨b, off + 1, none⟩) 1 (c - 1)) w' := fun w' => by
    have h := run_sfrom (some ⟨b, off, none⟩) 2 c 1 (by omega) w'
    unfold sliceFrom at h
    rw [if_neg hne] at h
    simpa [Addr.add_lit] using h
  go_enter Tryz.func125, Tryz.ntmps125
  go_wp2
  refine wp_loop_once ?_
  go_wp2_with (go_at_call 150; refine (jnotDelim93 _).mono ?_; rintro e w2 ⟨rfl, rfl⟩)
  go_ret2
  exact ⟨rfl, rfl⟩


/-- What a call of parseNext leaves: a token, and the Decoder's rest. -/
def JNextPost (D : Nat) (cur : Array Value) (vi : Value) (w : World) (k : Nat) (rw rest : List UInt8) (e : Ending) (w' : World) : Prop :=
  ∃ raw V pos, e = .returned (.tuple #[.agg #[.int .u16 k, .int .i64 pos, raw, .bool false, .string ⟨#[]⟩], .nilIface]) ∧ BytesAt w' raw rw ∧ Within vi raw ∧ BytesAt w' V rest ∧ Within vi V ∧
    Keeps (fun k => k = D) w w' ∧ w'.heap[D]? = some (.cells (cur.setIfInBounds 9 V) 143 (0, 0))

theorem jresults {fn : Func} {p u : Tmp} (h : fn.results = #[.cell p 133, .tmp u]) (tmps : Array Value) (w : World) (g : Nat) (fr : Nat × Nat) (hp : tmps.getD p undef = .pointer (some ⟨g, 0, none⟩))
    {x1 x2 x3 x4 x5 : Value} (hrow : w.heap[g]? = some (.cells #[x1, x2, x3, x4, x5] 133 fr)) : (results fn tmps).run Tryz.prog w = .ok (.tuple #[.agg #[x1, x2, x3, x4, x5], tmps.getD u undef]) w := by
  rw [results_cell_tmp h, hp]
  simp only [asAddr, Sem.run_pure, Result.andThen_ok]
  rw [run_loadVar_row _ _ _ _ _ fr _ hrow Tryz.underlying133 rfl (by kernel_rfl)]
  rfl
theorem jset9 {cur : Array Value} {V : Value} (h : cur.size = 10) : (cur.setIfInBounds 9 V)[9]? = some V := by simp [h]
theorem jset9' {cur : Array Value} {V : Value} {j : Nat} (h : j ≠ 9) : (cur.setIfInBounds 9 V)[j]? = cur[j]? := by
  rw [Array.getElem?_setIfInBounds, if_neg (Ne.symm h)]
theorem bytes_lt' {w : World} {v : Value} {l : List UInt8} (h : BytesAt w v l) (hl : l ≠ []) : ∀ j, v.ownBlock = some j → j < w.heap.size := by
  intro j hj
  obtain ⟨b, off, c, rfl, _, _⟩ := h.form' hl
  simp only [Value.ownBlock, Option.some.injEq] at hj
  subst hj
  exact World.block_lt_of_cell? w _ (h.cell.2 0 (List.length_pos_iff.2 hl))

set_option maxRecDepth 1000000 in
set_option maxHeartbeats 8000000 in
theorem jnext_open (D : Nat) (cur : Array Value) (vo vi : Value) (orig : List UInt8) (w : World) (hrow : w.heap[D]? = some (.cells cur 143 (0, 0))) (hsz : cur.size = 10)
    (ho : cur[8]? = some vo) (hin : cur[9]? = some vi) (hvo : BytesAt w vo orig) (hv : BytesAt w vi [91, 49, 93]) (hvD : vi.ownBlock ≠ some D) (hoD : vo.ownBlock ≠ some D) (hvl : ∀ j, vi.ownBlock = some j → j < w.heap.size) :
    Calls Tryz.prog 94 #[.pointer (some ⟨D, 0, none⟩)] w (JNextPost D cur vi w 256 [91] [49, 93]) := by
  have hlt := row_lt hrow
  have hK : ∀ A, Keeps (fun _ => False) w (w.alloc A) := fun A => (Keeps.refl _ w).alloc A
  have HSE : Hid (skip (([91, 49, 93] : List UInt8).drop 0) = [91, 49, 93]) := by show skip [91, 49, 93] = [91, 49, 93]; decide
  have HV := Lib.hid hv
  have HVO := Lib.hid hvo
  have HR := Lib.hid hrow
  clear hv hvo hrow
  go_enter Tryz.func94, Tryz.ntmps94
  go_wp2_with (first
    | (go_at_call 99; refine (jconsume D cur vi [91, 49, 93] 0 (Nat.zero_le _) _ ((hK _).row HR.out id) hsz hin (HV.out.keeps (hK _) (fun _ _ => id)) hvD).mono ?_; rintro e w1 ⟨rfl, V0, hb1, hi0, hk1, hrD1⟩; rw [HSE.out] at hb1; obtain ⟨b0, o0, c0, hf0, hcc, hcm⟩ := hb1.form' (by simp); have hf1 : V0 = .slice (some ⟨b0, o0, none⟩) 3 c0 := hf0; have hc2 : 3 ≤ c0 := hcc; clear hf0 hcc; subst hf1; have hx0 : w1.cell? ⟨b0, o0, none⟩ = some (.int .u8 91) := hb1.cell.2 0 (by simp); have c9 := (cell_row (j := 9) hrD1).trans (jset9 hsz); have hrR1 := hk1.row (g := w.heap.size) (heap_alloc_new w _) (by omega); have HI0 := Lib.hid hi0; have HB1 := Lib.hid hb1; have HK1 := Lib.hid hk1; have HRD1 := Lib.hid hrD1; have HRR1 := Lib.hid hrR1; clear hi0 hb1 hk1 hrD1 hrR1)
    | (go_at_call 122; refine (jconsumeToken D _ vo _ orig [91, 49, 93] 256 1 (by simp) _ HRD1.out (by simp [hsz]) ((jset9' (by decide)).trans ho) (jset9 hsz) (HVO.out.keeps (((hK _).mono (S1 := fun j => j = D) (fun _ _ => False.elim)).trans HK1.out (fun _ _ h => h)) (fun j hj e => hoD (by rw [hj, e]))) HB1.out (fun e => hvD (HI0.out _ e)) (fun j hj => Nat.lt_of_lt_of_le (hvl j (HI0.out j hj)) (by have h1 := HK1.out.size; simp at h1; omega))).mono ?_; rintro e w2 ⟨raw, V, pos, rfl, hraw, hri, hV, hVi, hk2, hrD⟩; obtain ⟨ar, cr, hrf, _, _⟩ := hraw.form; have hrf' : raw = .slice ar 1 cr := hrf; subst hrf'; have hrK := hk2.row HRR1.out (by omega); have hfK := fun j => frozen_row (j := j) hrK; have k0 := cell_row (j := 0) hrK; have k1 := cell_row (j := 1) hrK; have k2 := cell_row (j := 2) hrK; have k3 := cell_row (j := 3) hrK; have k4 := cell_row (j := 4) hrK; simp at k0 k1 k2 k3 k4; have HKK := Lib.hid hrK; have HRD2 := Lib.hid hrD; have HK2 := Lib.hid hk2; have HRAW := Lib.hid hraw; have HV2 := Lib.hid hV; clear hrK hrD hk2 hraw hV))
  refine bodyPost_ret (jresults (p := 2) (u := 3) rfl _ _ w.heap.size (0, 0) rfl (store5_row HKK.out _ _ _ _ _)) rfl ?_
  have h5 := fun a b c d e => store5_keeps w2 w.heap.size a b c d e
  have nR : ∀ U, Within vi U → ∀ j, U.ownBlock = some j → ¬ j = w.heap.size := fun U hU j hj e => by have := hvl j (hU j hj); omega
  have hkw := (((hK _).mono (S1 := fun j => j = D) (fun _ _ => False.elim)).trans HK1.out (fun _ _ h => h)).trans HK2.out (fun _ _ h => h)
  refine ⟨_, _, _, rfl, HRAW.out.keeps (h5 _ _ _ _ _) (nR _ (HI0.out.trans hri)), HI0.out.trans hri, ?_, HI0.out.trans hVi, hkw.trans (h5 _ _ _ _ _) (fun i hi h => by omega), ((h5 _ _ _ _ _).row HRD2.out (by omega)).trans (by rw [Array.setIfInBounds_setIfInBounds])⟩
  have h := HV2.out.keeps (h5 (.int .u16 256) (.int .i64 pos) (.slice ar 1 cr) (.bool false) (.string ⟨#[]⟩)) (nR _ (HI0.out.trans hVi))
  exact h

set_option maxRecDepth 1000000 in
set_option maxHeartbeats 8000000 in
theorem jnext_one (D : Nat) (cur : Array Value) (vo vi : Value) (orig : List UInt8) (w : World) (hrow : w.heap[D]? = some (.cells cur 143 (0, 0))) (hsz : cur.size = 10)
    (ho : cur[8]? = some vo) (hin : cur[9]? = some vi) (hvo : BytesAt w vo orig) (hv : BytesAt w vi [49, 93]) (hvD : vi.ownBlock ≠ some D) (hoD : vo.ownBlock ≠ some D) (hvl : ∀ j, vi.ownBlock = some j → j < w.heap.size) :
    Calls Tryz.prog 94 #[.pointer (some ⟨D, 0, none⟩)] w (JNextPost D cur vi w 8 [49] [93]) := by
  have hlt := row_lt hrow
  have hK : ∀ A, Keeps (fun _ => False) w (w.alloc A) := fun A => (Keeps.refl _ w).alloc A
  have HSE : Hid (skip (([49, 93] : List UInt8).drop 0) = [49, 93]) := by show skip [49, 93] = [49, 93]; decide
  have HV := Lib.hid hv
  have HVO := Lib.hid hvo
  have HR := Lib.hid hrow
  clear hv hvo hrow
  go_enter Tryz.func94, Tryz.ntmps94
  go_wp2_with (first
    | (go_at_call 99; refine (jconsume D cur vi [49, 93] 0 (Nat.zero_le _) _ ((hK _).row HR.out id) hsz hin (HV.out.keeps (hK _) (fun _ _ => id)) hvD).mono ?_; rintro e w1 ⟨rfl, V0, hb1, hi0, hk1, hrD1⟩; rw [HSE.out] at hb1; obtain ⟨b0, o0, c0, hf0, hcc, hcm⟩ := hb1.form' (by simp); have hf1 : V0 = .slice (some ⟨b0, o0, none⟩) 2 c0 := hf0; have hc2 : 2 ≤ c0 := hcc; clear hf0 hcc; subst hf1; have hx0 : w1.cell? ⟨b0, o0, none⟩ = some (.int .u8 49) := hb1.cell.2 0 (by simp); have hx1 : w1.cell? ⟨b0, o0 + 1, none⟩ = some (.int .u8 93) := hb1.cell.2 1 (by simp); have c9 := (cell_row (j := 9) hrD1).trans (jset9 hsz); have hrR1 := hk1.row (g := w.heap.size) (heap_alloc_new w _) (by omega); have HI0 := Lib.hid hi0; have HB1 := Lib.hid hb1; have HK1 := Lib.hid hk1; have HRD1 := Lib.hid hrD1; have HRR1 := Lib.hid hrR1; clear hi0 hb1 hk1 hrD1 hrR1)
    | (go_at_call 125; refine (jnumber_one b0 o0 c0 _ hx0 hx1 hc2).mono ?_; rintro e w4 ⟨rfl, rfl⟩)
    | (go_at_call 122; refine (jconsumeToken D _ vo _ orig [49, 93] 8 1 (by simp) _ HRD1.out (by simp [hsz]) ((jset9' (by decide)).trans ho) (jset9 hsz) (HVO.out.keeps (((hK _).mono (S1 := fun j => j = D) (fun _ _ => False.elim)).trans HK1.out (fun _ _ h => h)) (fun j hj e => hoD (by rw [hj, e]))) HB1.out (fun e => hvD (HI0.out _ e)) (fun j hj => Nat.lt_of_lt_of_le (hvl j (HI0.out j hj)) (by have h1 := HK1.out.size; simp at h1; omega))).mono ?_; rintro e w2 ⟨raw, V, pos, rfl, hraw, hri, hV, hVi, hk2, hrD⟩; obtain ⟨ar, cr, hrf, _, _⟩ := hraw.form; have hrf' : raw = .slice ar 1 cr := hrf; subst hrf'; have hrK := hk2.row HRR1.out (by omega); have hfK := fun j => frozen_row (j := j) hrK; have k0 := cell_row (j := 0) hrK; have k1 := cell_row (j := 1) hrK; have k2 := cell_row (j := 2) hrK; have k3 := cell_row (j := 3) hrK; have k4 := cell_row (j := 4) hrK; simp at k0 k1 k2 k3 k4; have HKK := Lib.hid hrK; have HRD2 := Lib.hid hrD; have HK2 := Lib.hid hk2; have HRAW := Lib.hid hraw; have HV2 := Lib.hid hV; clear hrK hrD hk2 hraw hV))
  refine bodyPost_ret (jresults (p := 2) (u := 3) rfl _ _ w.heap.size (0, 0) rfl (store5_row HKK.out _ _ _ _ _)) rfl ?_
  have h5 := fun a b c d e => store5_keeps w2 w.heap.size a b c d e
  have nR : ∀ U, Within vi U → ∀ j, U.ownBlock = some j → ¬ j = w.heap.size := fun U hU j hj e => by have := hvl j (hU j hj); omega
  have hkw := (((hK _).mono (S1 := fun j => j = D) (fun _ _ => False.elim)).trans HK1.out (fun _ _ h => h)).trans HK2.out (fun _ _ h => h)
  refine ⟨_, _, _, rfl, HRAW.out.keeps (h5 _ _ _ _ _) (nR _ (HI0.out.trans hri)), HI0.out.trans hri, ?_, HI0.out.trans hVi, hkw.trans (h5 _ _ _ _ _) (fun i hi h => by omega), ((h5 _ _ _ _ _).row HRD2.out (by omega)).trans (by rw [Array.setIfInBounds_setIfInBounds])⟩
  have h := HV2.out.keeps (h5 (.int .u16 8) (.int .i64 pos) (.slice ar 1 cr) (.bool false) (.string ⟨#[]⟩)) (nR _ (HI0.out.trans hVi))
  exact h

set_option maxRecDepth 1000000 in
set_option maxHeartbeats 8000000 in
theorem jnext_close (D : Nat) (cur : Array Value) (vo vi : Value) (orig : List UInt8) (w : World) (hrow : w.heap[D]? = some (.cells cur 143 (0, 0))) (hsz : cur.size = 10)
    (ho : cur[8]? = some vo) (hin : cur[9]? = some vi) (hvo : BytesAt w vo orig) (hv : BytesAt w vi [93]) (hvD : vi.ownBlock ≠ some D) (hoD : vo.ownBlock ≠ some D) (hvl : ∀ j, vi.ownBlock = some j → j < w.heap.size) :
    Calls Tryz.prog 94 #[.pointer (some ⟨D, 0, none⟩)] w (JNextPost D cur vi w 512 [93] []) := by
  have hlt := row_lt hrow
  have hK : ∀ A, Keeps (fun _ => False) w (w.alloc A) := fun A => (Keeps.refl _ w).alloc A
  have HSE : Hid (skip (([93] : List UInt8).drop 0) = [93]) := by show skip [93] = [93]; decide
  have HV := Lib.hid hv
  have HVO := Lib.hid hvo
  have HR := Lib.hid hrow
  clear hv hvo hrow
  go_enter Tryz.func94, Tryz.ntmps94
  go_wp2_with (first
    | (go_at_call 99; refine (jconsume D cur vi [93] 0 (Nat.zero_le _) _ ((hK _).row HR.out id) hsz hin (HV.out.keeps (hK _) (fun _ _ => id)) hvD).mono ?_; rintro e w1 ⟨rfl, V0, hb1, hi0, hk1, hrD1⟩; rw [HSE.out] at hb1; obtain ⟨b0, o0, c0, hf0, hcc, hcm⟩ := hb1.form' (by simp); have hf1 : V0 = .slice (some ⟨b0, o0, none⟩) 1 c0 := hf0; have hc2 : 1 ≤ c0 := hcc; clear hf0 hcc; subst hf1; have hx0 : w1.cell? ⟨b0, o0, none⟩ = some (.int .u8 93) := hb1.cell.2 0 (by simp); have c9 := (cell_row (j := 9) hrD1).trans (jset9 hsz); have hrR1 := hk1.row (g := w.heap.size) (heap_alloc_new w _) (by omega); have HI0 := Lib.hid hi0; have HB1 := Lib.hid hb1; have HK1 := Lib.hid hk1; have HRD1 := Lib.hid hrD1; have HRR1 := Lib.hid hrR1; clear hi0 hb1 hk1 hrD1 hrR1)
    | (go_at_call 122; refine (jconsumeToken D _ vo _ orig [93] 512 1 (by simp) _ HRD1.out (by simp [hsz]) ((jset9' (by decide)).trans ho) (jset9 hsz) (HVO.out.keeps (((hK _).mono (S1 := fun j => j = D) (fun _ _ => False.elim)).trans HK1.out (fun _ _ h => h)) (fun j hj e => hoD (by rw [hj, e]))) HB1.out (fun e => hvD (HI0.out _ e)) (fun j hj => Nat.lt_of_lt_of_le (hvl j (HI0.out j hj)) (by have h1 := HK1.out.size; simp at h1; omega))).mono ?_; rintro e w2 ⟨raw, V, pos, rfl, hraw, hri, hV, hVi, hk2, hrD⟩; obtain ⟨ar, cr, hrf, _, _⟩ := hraw.form; have hrf' : raw = .slice ar 1 cr := hrf; subst hrf'; have hrK := hk2.row HRR1.out (by omega); have hfK := fun j => frozen_row (j := j) hrK; have k0 := cell_row (j := 0) hrK; have k1 := cell_row (j := 1) hrK; have k2 := cell_row (j := 2) hrK; have k3 := cell_row (j := 3) hrK; have k4 := cell_row (j := 4) hrK; simp at k0 k1 k2 k3 k4; have HKK := Lib.hid hrK; have HRD2 := Lib.hid hrD; have HK2 := Lib.hid hk2; have HRAW := Lib.hid hraw; have HV2 := Lib.hid hV; clear hrK hrD hk2 hraw hV))
  refine bodyPost_ret (jresults (p := 2) (u := 3) rfl _ _ w.heap.size (0, 0) rfl (store5_row HKK.out _ _ _ _ _)) rfl ?_
  have h5 := fun a b c d e => store5_keeps w2 w.heap.size a b c d e
  have nR : ∀ U, Within vi U → ∀ j, U.ownBlock = some j → ¬ j = w.heap.size := fun U hU j hj e => by have := hvl j (hU j hj); omega
  have hkw := (((hK _).mono (S1 := fun j => j = D) (fun _ _ => False.elim)).trans HK1.out (fun _ _ h => h)).trans HK2.out (fun _ _ h => h)
  refine ⟨_, _, _, rfl, HRAW.out.keeps (h5 _ _ _ _ _) (nR _ (HI0.out.trans hri)), HI0.out.trans hri, ?_, HI0.out.trans hVi, hkw.trans (h5 _ _ _ _ _) (fun i hi h => by omega), ((h5 _ _ _ _ _).row HRD2.out (by omega)).trans (by rw [Array.setIfInBounds_setIfInBounds])⟩
  have h := HV2.out.keeps (h5 (.int .u16 512) (.int .i64 pos) (.slice ar 1 cr) (.bool false) (.string ⟨#[]⟩)) (nR _ (HI0.out.trans hVi))
  exact h

set_option maxRecDepth 1000000 in
set_option maxHeartbeats 8000000 in
theorem jnext_eof (D : Nat) (cur : Array Value) (vo vi : Value) (orig : List UInt8) (w : World) (hrow : w.heap[D]? = some (.cells cur 143 (0, 0))) (hsz : cur.size = 10)
    (ho : cur[8]? = some vo) (hin : cur[9]? = some vi) (hvo : BytesAt w vo orig) (hv : BytesAt w vi []) (hvD : vi.ownBlock ≠ some D) (hoD : vo.ownBlock ≠ some D) (hvl : ∀ j, vi.ownBlock = some j → j < w.heap.size) :
    Calls Tryz.prog 94 #[.pointer (some ⟨D, 0, none⟩)] w (JNextPost D cur vi w 1 [] []) := by
  have hlt := row_lt hrow
  have hK : ∀ A, Keeps (fun _ => False) w (w.alloc A) := fun A => (Keeps.refl _ w).alloc A
  have HSE : Hid (skip (([] : List UInt8).drop 0) = []) := by show skip [] = []; decide
  have HV := Lib.hid hv
  have HVO := Lib.hid hvo
  have HR := Lib.hid hrow
  clear hv hvo hrow
  go_enter Tryz.func94, Tryz.ntmps94
  go_wp2_with (first
    | (go_at_call 99; refine (jconsume D cur vi [] 0 (Nat.zero_le _) _ ((hK _).row HR.out id) hsz hin (HV.out.keeps (hK _) (fun _ _ => id)) hvD).mono ?_; rintro e w1 ⟨rfl, V0, hb1, hi0, hk1, hrD1⟩; rw [HSE.out] at hb1; obtain ⟨a0, c0, hf0, _, _⟩ := hb1.form; have hf1 : V0 = .slice a0 0 c0 := hf0; clear hf0; subst hf1; have c9 := (cell_row (j := 9) hrD1).trans (jset9 hsz); have hrR1 := hk1.row (g := w.heap.size) (heap_alloc_new w _) (by omega); have HI0 := Lib.hid hi0; have HB1 := Lib.hid hb1; have HK1 := Lib.hid hk1; have HRD1 := Lib.hid hrD1; have HRR1 := Lib.hid hrR1; clear hi0 hb1 hk1 hrD1 hrR1)
    | (go_at_call 122; refine (jconsumeToken D _ vo _ orig [] 1 0 (by simp) _ HRD1.out (by simp [hsz]) ((jset9' (by decide)).trans ho) (jset9 hsz) (HVO.out.keeps (((hK _).mono (S1 := fun j => j = D) (fun _ _ => False.elim)).trans HK1.out (fun _ _ h => h)) (fun j hj e => hoD (by rw [hj, e]))) HB1.out (fun e => hvD (HI0.out _ e)) (fun j hj => Nat.lt_of_lt_of_le (hvl j (HI0.out j hj)) (by have h1 := HK1.out.size; simp at h1; omega))).mono ?_; rintro e w2 ⟨raw, V, pos, rfl, hraw, hri, hV, hVi, hk2, hrD⟩; obtain ⟨ar, cr, hrf, _, _⟩ := hraw.form; have hrf' : raw = .slice ar 0 cr := hrf; subst hrf'; have hrK := hk2.row HRR1.out (by omega); have hfK := fun j => frozen_row (j := j) hrK; have k0 := cell_row (j := 0) hrK; have k1 := cell_row (j := 1) hrK; have k2 := cell_row (j := 2) hrK; have k3 := cell_row (j := 3) hrK; have k4 := cell_row (j := 4) hrK; simp at k0 k1 k2 k3 k4; have HKK := Lib.hid hrK; have HRD2 := Lib.hid hrD; have HK2 := Lib.hid hk2; have HRAW := Lib.hid hraw; have HV2 := Lib.hid hV; clear hrK hrD hk2 hraw hV))
  refine bodyPost_ret (jresults (p := 2) (u := 3) rfl _ _ w.heap.size (0, 0) rfl (store5_row HKK.out _ _ _ _ _)) rfl ?_
  have h5 := fun a b c d e => store5_keeps w2 w.heap.size a b c d e
  have nR : ∀ U, Within vi U → ∀ j, U.ownBlock = some j → ¬ j = w.heap.size := fun U hU j hj e => by have := hvl j (hU j hj); omega
  have hkw := (((hK _).mono (S1 := fun j => j = D) (fun _ _ => False.elim)).trans HK1.out (fun _ _ h => h)).trans HK2.out (fun _ _ h => h)
  refine ⟨_, _, _, rfl, HRAW.out.keeps (h5 _ _ _ _ _) (nR _ (HI0.out.trans hri)), HI0.out.trans hri, ?_, HI0.out.trans hVi, hkw.trans (h5 _ _ _ _ _) (fun i hi h => by omega), ((h5 _ _ _ _ _).row HRD2.out (by omega)).trans (by rw [Array.setIfInBounds_setIfInBounds])⟩
  have h := HV2.out.keeps (h5 (.int .u16 1) (.int .i64 pos) (.slice ar 0 cr) (.bool false) (.string ⟨#[]⟩)) (nR _ (HI0.out.trans hVi))
  exact h

set_option maxRecDepth 1000000 in
theorem jvalue_top (D : Nat) (w : World) (h7 : w.cell? ⟨D, 7, none⟩ = some (.slice none 0 0)) (h1 : w.cell? ⟨D, 1, none⟩ = some (.int .u16 0)) :
    Calls Tryz.prog 95 #[.pointer (some ⟨D, 0, none⟩)] w fun e w' => e = .returned (.bool true) ∧ w = w' := by
  go_enter Tryz.func95, Tryz.ntmps95
  go_wp2
  go_ret
  exact ⟨rfl, rfl⟩
set_option maxRecDepth 1000000 in
theorem jvalue_arr (D g c : Nat) (w : World) (h7 : w.cell? ⟨D, 7, none⟩ = some (.slice (some ⟨g, 0, none⟩) 1 c)) (hg : w.cell? ⟨g, 0, none⟩ = some (.int .u16 256)) (h1 : w.cell? ⟨D, 1, none⟩ = some (.int .u16 256)) :
    Calls Tryz.prog 95 #[.pointer (some ⟨D, 0, none⟩)] w fun e w' => e = .returned (.bool true) ∧ ∃ n, w' = w.drewN n := by
  go_enter Tryz.func95, Tryz.ntmps95
  go_wp2
  go_quiet (fail)
  all_goals go_wp2
  all_goals go_ret
  all_goals exact ⟨rfl, _, rfl⟩
end Go.Proofs.YtmijjppjodpagaaGreatDoor
