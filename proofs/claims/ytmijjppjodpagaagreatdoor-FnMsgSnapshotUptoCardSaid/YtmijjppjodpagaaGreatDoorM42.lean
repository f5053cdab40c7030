/-
  parseStringValue of the text form, at one quoted string.
  parseScalar at a quoted string. parseNext at a quoted string.
-/
import Derived.Test.YtmijjppjodpagaaGreatDoorM41
import Derived.Test.YtmijjppjodpagaaGreatDoorM31
import Derived.Deep.RegionHeld3
set_option linter.unusedVariables false
set_option linter.unusedSimpArgs false
namespace Go.Proofs.YtmijjppjodpagaaGreatDoor
open Go.RowKit

set_option maxRecDepth 1000000 in
/-- strings.Join of one string. -/
theorem join_one (g c : Nat) (s : ByteArray) (w : World) (h : w.cell? ⟨g, 0, none⟩ = some (.string s)) :
    Calls Tryz.prog 181 #[.slice (some ⟨g, 0, none⟩) 1 c, .string ⟨#[]⟩] w fun e w' => e = .returned (.string s) ∧ w = w' := by
  go_enter Tryz.func181, Tryz.ntmps181
  go_wp2
  go_ret
  exact ⟨rfl, rfl⟩

theorem info9 : (Tryz.prog.info? 9).map (fun i => (i.zero, i.size, i.bytes)) = some (some (.string ⟨#[]⟩), 1, 16) := by kernel_rfl

/-- append(nil, s) of strings. -/
theorem run_app_str1 (ty : TypeId) (w : World) (b : Nat) (s : ByteArray) (h : w.cell? ⟨b, 0, none⟩ = some (.string s)) :
    ∃ g c w', (Builtin.append_ #[76, 76] ty #[.slice none 0 0, .slice (some ⟨b, 0, none⟩) 1 1]).run Tryz.prog w = .ok (.slice (some ⟨g, 0, none⟩) 1 c) w' ∧ w'.cell? ⟨g, 0, none⟩ = some (.string s) ∧ w.heap.size ≤ g ∧ Keeps (fun _ => False) w w' := by
  obtain ⟨i0, hi, hz0, hz1, hz2⟩ := info_parts info9
  have hrun := run_append_nil (P := Tryz.prog) w 76 ty 9 i0 _ Tryz.underlying76 hi hz0 ⟨b, 0, none⟩ 1 1 [.string s] (by rw [hz1]; rfl) (fun j u hu => by
    cases j with
    | zero => simp at hu; subst hu; simpa [Addr.add] using h
    | succ j => simp at hu) (by omega) (by omega) (by rw [hz2]; omega)
  refine ⟨_, _, _, hrun, ?_, Nat.le_refl _, ⟨rfl, rfl, rfl, by simp, fun k hk _ => Below.heap_alloc w.drew _ k hk⟩⟩
  refine (cell_row (g := w.heap.size) (heap_alloc_new w.drew _)).trans ?_
  simp [Array.getElem?_append]

section
variable {ops : Array Oper} {rest : List Oper} {o : Oper} {a : Act} {Q : Exit → Act → World → Prop} {w : World}
theorem at_app_str1 (s x : Operand) (str : ByteArray) (hgd : o.guard = none) (ho : o.op = .call { callee := .builtin .append, args := #[s, x], argTypes := #[76, 76] })
    (hs : a.eval s = .slice none 0 0) (hx : a.eval x = .slice (some ⟨w.heap.size, 0, none⟩) 1 1)
    (hk : ∀ g c w', w'.cell? ⟨g, 0, none⟩ = some (.string str) → w.heap.size ≤ g → Keeps (fun _ => False) w w' → wpList Tryz.prog ops Q rest (a.put o.dst (.slice (some ⟨g, 0, none⟩) 1 c)) w') :
    wpList Tryz.prog ops Q (o :: rest) a (w.alloc (.cells #[.string str] 9)) := by
  refine wpList_plain hgd fun K hK => ?_
  obtain ⟨g, c, w', hr, h1, h2, h3⟩ := run_app_str1 o.type (w.alloc (.cells #[.string str] 9)) w.heap.size str (by rw [cell_row (heap_alloc_new w _)]; rfl)
  unfold Oper.wp execOp
  simp only [ho, resolve, invoke, builtin, Sem.run_bind, Sem.run_pure, Result.andThen_ok, List.map_toArray, List.map_cons, List.map_nil, hs, hx, hr]
  exact hK _ _ (hk g c w' h1 (by simp at h2; omega) (((Keeps.refl _ w).alloc _).trans h3 (fun _ _ => id)))
end

theorem drew_row {w : World} {g : Nat} {o : Obj} (h : w.heap[g]? = some o) : w.drew.heap[g]? = some o := h
theorem store6_row_drew {w : World} {K : Nat} {T : TypeId} {fr : Nat × Nat} {a0 b0 c0 d0 e0 f0 : Value} (h : w.heap[K]? = some (.cells #[a0, b0, c0, d0, e0, f0] T fr)) (a b c d e f : Value) :
    (store6 w K a b c d e f).drew.heap[K]? = some (.cells #[a, b, c, d, e, f] T fr) := drew_row (store6_row h a b c d e f)
theorem store6_keeps_drew (w : World) (K : Nat) (a b c d e f : Value) : Keeps (fun k => k = K) w (store6 w K a b c d e f).drew := (store6_keeps w K a b c d e f).drew

/-- What holds at the head of each round: nothing is read yet, or the one string. B: the world ahead of the loop. -/
def SVRel (D : Nat) (cur : Array Value) (v : Value) (l T : List UInt8) (B : World) (ss : Value) (wr : World) : Prop :=
  (ss = .slice none 0 0 ∧ wr = B) ∨
   ∃ g c V, ss = .slice (some ⟨g, 0, none⟩) 1 c ∧ wr.cell? ⟨g, 0, none⟩ = some (.string (mk l)) ∧ B.heap.size ≤ g ∧ Keeps (fun k => k = D) B wr ∧
     wr.heap[D]? = some (.cells (cur.setIfInBounds 10 V) 129 (0, 0)) ∧ BytesAt B V (skip T) ∧ Within v V

set_option maxRecDepth 1000000 in
set_option maxHeartbeats 8000000 in
theorem parseStringValue_any (D : Nat) (cur : Array Value) (vo v : Value) (orig l T : List UInt8) (w : World) (hrow : w.heap[D]? = some (.cells cur 129 (0, 0))) (ho : cur[9]? = some vo) (hin : cur[10]? = some v) (hsz : cur.size = 11)
    (hvo : BytesAt w vo orig) (hv : BytesAt w v (quote false l ++ T)) (hlen : (quote false l ++ T).length ≤ 140737488200000) (hl : l.length ≤ 140737488200000) (hT : Tabs w) (hs : ∀ r, skip T ≠ 35 :: r) (hq : ∀ c r, skip T = c :: r → c.toNat ≠ 34 ∧ c.toNat ≠ 39) (hD : v.ownBlock ≠ some D) :
    Calls Tryz.prog 146 #[.pointer (some ⟨D, 0, none⟩)] w fun e w' =>
      ∃ raw V pos, e = .returned (.tuple #[.agg #[.int .u8 3, .int .u8 2, .int .u8 0, .int .i64 pos, raw, .string (mk l)], .nilIface]) ∧ BytesAt w raw ((quote false l ++ T).take ((quote false l ++ T).length - (skip T).length)) ∧ Within v raw ∧ BytesAt w V (skip T) ∧ Within v V ∧
        Keeps (fun k => k = D) w w' ∧ w'.heap[D]? = some (.cells (cur.setIfInBounds 10 V) 129 (0, 0)) := by
  have hc9 : w.cell? ⟨D, 9, none⟩ = some vo := (cell_row hrow).trans ho
  have hc10 : w.cell? ⟨D, 10, none⟩ = some v := (cell_row hrow).trans hin
  have hDl := row_lt hrow
  have hX0 : quote false l ++ T = 34 :: (enc false l ++ 34 :: T) := by unfold quote; simp
  obtain ⟨X, hX⟩ : ∃ X, enc false l ++ 34 :: T = X := ⟨_, rfl⟩
  rw [hX] at hX0
  have hvx := hv
  rw [hX0] at hvx
  obtain ⟨b, off, c, hvf, hcc, hcm, hx⟩ := hvx.cons
  have hx' : w.cell? ⟨b, off, none⟩ = some (.int .u8 34) := hx
  unfold maxLen at hcm
  have hbl : b < w.heap.size := World.block_lt_of_cell? w _ hx
  have hbD : b ≠ D := fun e => hD (by rw [hvf]; simp [Value.ownBlock, e])
  have hK1 : ∀ A, Keeps (fun _ => False) w (w.alloc A) := fun A => (Keeps.refl _ w).alloc A
  have hcA := fun A => (hK1 A).cell hc10 id
  have hxA := fun A => (hK1 A).cell hx' id
  have cps := fun A => parseString_any D cur v l T (w.alloc A) ((hK1 A).row hrow id) hin (hv.keeps (hK1 A) (fun _ _ => id)) hlen hl (hT.keeps (hK1 A) (fun _ _ => id)) hs hD
  obtain ⟨n, hn⟩ : ∃ n, X.length = n := ⟨_, rfl⟩
  rw [hn] at hvf hcc
  subst hvf
  have HV := Lib.hid hv
  have HVO := Lib.hid hvo
  have HR := Lib.hid hrow
  have HX := Lib.hid hX0
  have HN := Lib.hid hn
  clear hvx hx hv hvo hrow hX0 hX hn
  go_enter Tryz.func146, Tryz.ntmps146
  go_wp2
  have hB0 : Keeps (fun _ => False) w (w.alloc (.cells #[.int .u8 0, .int .u8 0, .int .u8 0, .int .i64 0, .slice none 0 0, .string ⟨#[]⟩] 120)) := hK1 _
  have hBt := heap_alloc_new w (.cells #[.int .u8 0, .int .u8 0, .int .u8 0, .int .i64 0, .slice none 0 0, .string ⟨#[]⟩] 120)
  have cps0 := cps (.cells #[.int .u8 0, .int .u8 0, .int .u8 0, .int .i64 0, .slice none 0 0, .string ⟨#[]⟩] 120)
  have hcB := hcA (.cells #[.int .u8 0, .int .u8 0, .int .u8 0, .int .i64 0, .slice none 0 0, .string ⟨#[]⟩] 120)
  have hxB := hxA (.cells #[.int .u8 0, .int .u8 0, .int .u8 0, .int .i64 0, .slice none 0 0, .string ⟨#[]⟩] 120)
  clear cps hcA hxA hc10 hx'
  generalize w.alloc (.cells #[.int .u8 0, .int .u8 0, .int .u8 0, .int .i64 0, .slice none 0 0, .string ⟨#[]⟩] 120) = B at hB0 hBt cps0 hcB hxB ⊢
  go_loopw [5] (fun ss wr => SVRel D cur (.slice (some ⟨b, off, none⟩) (n + 1) c) l T B ss wr) (fun ss _ => 1 - lenOf ss)
  case atStart => exact .inl ⟨rfl, rfl⟩
  case round =>
    rcases hrel with ⟨rfl, rfl⟩ | ⟨g, cg, V, rfl, hg, hBg, hk, hrD, hVb, hVi⟩
    · go_wp2_with (first
        | (go_at_call 180; refine cps0.mono ?_; rintro e w1 ⟨rfl, V, w2, rfl, hk2, hVb, hVi⟩)
        | (at_builtin; refine at_app_str1 (.tmp 45) (.tmp 47) (mk l) rfl rfl rfl rfl ?_; intro g cg w3 hg hgs hk3))
      go_roundw
      case rel =>
        have hVB : BytesAt wr V (skip T) := hVb.back hk2 (HV.out.keeps hB0 (fun _ _ => id)) hVi (fun _ h => by rw [HX.out] at h; cases h)
        have hkD : Keeps (fun k => k = D) wr (w2.setCell ⟨D, 10, none⟩ V) := (hk2.mono (S1 := fun k => k = D) (fun _ _ => False.elim)).trans (Keeps.setCell (S := fun k => k = D) (Keeps.refl _ w2) ⟨D, 10, none⟩ (fun _ => rfl) V) (fun _ _ h => h)
        have hrD := setCell_row (j := 10) (hk2.row (hB0.row HR.out id) id) V
        have hss : (w2.setCell ⟨D, 10, none⟩ V).heap.size = w2.heap.size := by simp
        refine .inr ⟨_, _, V, rfl, ?_, by have := hk2.size; omega, ((hkD.alloc _).alloc _).drew, Keeps.row (((Keeps.refl (fun _ => False) _).alloc _).alloc _).drew hrD id, hVB, hVi⟩
        rw [← hss]
        refine (cell_row (g := (w2.setCell ⟨D, 10, none⟩ V).heap.size + 1) (heap_alloc2_new (w2.setCell ⟨D, 10, none⟩ V) _ _)).trans ?_
        simp [Array.getElem?_append]
      case measure => simp [lenOf]
    · have hW10 : wr.cell? ⟨D, 10, none⟩ = some V := (cell_row hrD).trans (by simp [hsz])
      have hW9 : wr.cell? ⟨D, 9, none⟩ = some vo := (cell_row hrD).trans (by simpa using ho)
      have hrK := hk.row hBt (by omega)
      have hfK := fun j => frozen_row (j := j) hrK
      have k0 := cell_row (j := 0) hrK
      have k1 := cell_row (j := 1) hrK
      have k2 := cell_row (j := 2) hrK
      have k3 := cell_row (j := 3) hrK
      have k4 := cell_row (j := 4) hrK
      have k5 := cell_row (j := 5) hrK
      simp at k0 k1 k2 k3 k4 k5
      obtain ⟨ao, co, hvof, _, _⟩ := HVO.out.form
      subst hvof
      obtain ⟨q, hqe⟩ : ∃ q, (skip T).length = q := ⟨_, rfl⟩
      have hqn : q ≤ n + 1 := by
        have h1 : (skip T).length ≤ T.length := (List.dropWhile_sublist _).length_le
        have h2 := congrArg List.length HX.out
        rw [List.length_append, List.length_cons, HN.out] at h2
        omega
      obtain ⟨M, hM⟩ : ∃ M, n + 1 - q = M := ⟨_, rfl⟩
      have hMe : (n : Int) + 1 - (q : Int) = (M : Int) := by omega
      have hraw := fun w' => run_sto (some ⟨b, off, none⟩) (n + 1) c M (by omega) w'
      have HM := Lib.hid hM
      have HG := Lib.hid hBg
      have HK := Lib.hid hk
      have HRD := Lib.hid hrD
      have HVI := Lib.hid hVi
      have HVB := Lib.hid hVb
      have HRK := Lib.hid hrK
      have HQ := Lib.hid hqe
      clear hM hBg hk hrD hVi hrK hqn
      have hrawB : BytesAt w (.slice (some ⟨b, off, none⟩) M c) ((quote false l ++ T).take ((quote false l ++ T).length - (skip T).length)) := by
        have h1 : (quote false l ++ T).length = n + 1 := by rw [HX.out, List.length_cons, HN.out]
        rw [h1, HQ.out, HM.out]
        exact HV.out.take M c (by rw [h1]; have := HM.out; omega) (by have := HM.out; omega) (Nat.le_refl _)
      have HRAW := Lib.hid hrawB
      clear hrawB
      cases hST : skip T with
      | nil =>
        rw [hST] at hVb hqe
        obtain ⟨aV, cV, rfl, _, _⟩ := hVb.form
        simp at hqe
        subst hqe
        clear hVb
        have hMn : M = n + 1 := by have h := HM.out; omega
        subst hMn
        have hraw' : ∀ w', (Instr.slice 31 (.slice (some ⟨b, off, none⟩) (n + 1) c) none (some (.int .i64 ((n : Int) + 1))) none).run Tryz.prog w' = .ok (.slice (some ⟨b, off, none⟩) (n + 1) c) w' := hraw
        have hwr : IntKind.i64.wrap ((n : Int) + 1) = (n : Int) + 1 := by rw [IntWalk.i64_in _ (by omega)]
        clear hraw hMe
        have hDK : D ≠ w.heap.size := by omega
        have hS6 : ∀ (a b c d e f : Value), ((((((wr.setCell ⟨w.heap.size, 0, none⟩ a).setCell ⟨w.heap.size, 1, none⟩ b).setCell ⟨w.heap.size, 2, none⟩ c).setCell ⟨w.heap.size, 3, none⟩ d).setCell ⟨w.heap.size, 4, none⟩ e).setCell ⟨w.heap.size, 5, none⟩ f).drew.cell? ⟨D, 9, none⟩ = some (.slice ao orig.length co) ∧ ((((((wr.setCell ⟨w.heap.size, 0, none⟩ a).setCell ⟨w.heap.size, 1, none⟩ b).setCell ⟨w.heap.size, 2, none⟩ c).setCell ⟨w.heap.size, 3, none⟩ d).setCell ⟨w.heap.size, 4, none⟩ e).setCell ⟨w.heap.size, 5, none⟩ f).drew.cell? ⟨D, 10, none⟩ = some (.slice aV 0 cV) :=
          fun a b c d e f => ⟨(store6_keeps wr w.heap.size a b c d e f).drew.cell hW9 hDK, (store6_keeps wr w.heap.size a b c d e f).drew.cell hW10 hDK⟩
        have HS6 := Lib.hid hS6
        clear hS6
        have hSd : wr.drew.cell? ⟨D, 9, none⟩ = some (.slice ao orig.length co) ∧ wr.drew.cell? ⟨D, 10, none⟩ = some (.slice aV 0 cV) := ⟨hW9, hW10⟩
        have HSd := Lib.hid hSd
        clear hSd
        go_wp2
        go_region_held3 (fun w' => w'.cell? ⟨D, 9, none⟩ = some (.slice ao orig.length co) ∧ w'.cell? ⟨D, 10, none⟩ = some (.slice aV 0 cV)) (first | (with_reducible exact HSd.out) | (with_reducible exact ⟨hW9, hW10⟩) | (with_reducible exact HS6.out _ _ _ _ _ _))
          ((go_at_call 181; refine (join_one g cg (mk l) wr.drew hg).mono ?_; rintro e w' ⟨rfl, rfl⟩))
        go_simp
        go_wp2
        have hk6 : Keeps (fun j => j = w.heap.size) wr ((((((wr.setCell ⟨w.heap.size, 0, none⟩ (.int .u8 3)).setCell ⟨w.heap.size, 1, none⟩ (.int .u8 2)).setCell ⟨w.heap.size, 2, none⟩ (.int .u8 0)).setCell ⟨w.heap.size, 3, none⟩ (.int .i64 (IntKind.i64.wrap ((orig.length : Int) - ((n : Int) + 1))))).setCell ⟨w.heap.size, 4, none⟩ (.slice (some ⟨b, off, none⟩) (n + 1) c)).setCell ⟨w.heap.size, 5, none⟩ (.string (mk l))).drew := store6_keeps_drew wr w.heap.size (.int .u8 3) (.int .u8 2) (.int .u8 0) (.int .i64 (IntKind.i64.wrap ((orig.length : Int) - ((n : Int) + 1)))) (.slice (some ⟨b, off, none⟩) (n + 1) c) (.string (mk l))
        have hr6 : ((((((wr.setCell ⟨w.heap.size, 0, none⟩ (.int .u8 3)).setCell ⟨w.heap.size, 1, none⟩ (.int .u8 2)).setCell ⟨w.heap.size, 2, none⟩ (.int .u8 0)).setCell ⟨w.heap.size, 3, none⟩ (.int .i64 (IntKind.i64.wrap ((orig.length : Int) - ((n : Int) + 1))))).setCell ⟨w.heap.size, 4, none⟩ (.slice (some ⟨b, off, none⟩) (n + 1) c)).setCell ⟨w.heap.size, 5, none⟩ (.string (mk l))).drew.heap[w.heap.size]? = some (.cells #[.int .u8 3, .int .u8 2, .int .u8 0, .int .i64 (IntKind.i64.wrap ((orig.length : Int) - ((n : Int) + 1))), .slice (some ⟨b, off, none⟩) (n + 1) c, .string (mk l)] 120 (0, 0)) := store6_row_drew HRK.out (.int .u8 3) (.int .u8 2) (.int .u8 0) (.int .i64 (IntKind.i64.wrap ((orig.length : Int) - ((n : Int) + 1)))) (.slice (some ⟨b, off, none⟩) (n + 1) c) (.string (mk l))
        obtain ⟨W6, hW6⟩ : ∃ W6, ((((((wr.setCell ⟨w.heap.size, 0, none⟩ (.int .u8 3)).setCell ⟨w.heap.size, 1, none⟩ (.int .u8 2)).setCell ⟨w.heap.size, 2, none⟩ (.int .u8 0)).setCell ⟨w.heap.size, 3, none⟩ (.int .i64 (IntKind.i64.wrap ((orig.length : Int) - ((n : Int) + 1))))).setCell ⟨w.heap.size, 4, none⟩ (.slice (some ⟨b, off, none⟩) (n + 1) c)).setCell ⟨w.heap.size, 5, none⟩ (.string (mk l))).drew = W6 := ⟨_, rfl⟩
        rw [hW6] at hk6 hr6 ⊢
        clear hW6
        have hwB : Keeps (fun j => j = D) w wr := (hB0.mono (S1 := fun j => j = D) (fun _ _ => False.elim)).trans HK.out (fun _ _ h => h)
        refine bodyPost_ret (results_cell_slot (p := 2) (u := 3) rfl _ _ w.heap.size (0, 0) rfl hr6) rfl ⟨_, _, _, rfl, HRAW.out, within_len _ _ _ _ _, HVB.out.back hB0 HV.out HVI.out (fun _ h => by rw [HX.out] at h; cases h), HVI.out, ?_, hk6.row HRD.out hDK⟩
        exact hwB.trans hk6 (fun i hi h => by omega)
      | cons y r =>
        rw [hST] at hVb hqe
        obtain ⟨bV, oV, cV, rfl, hcV, hmV⟩ := hVb.spot (by simp)
        have hyq := hq y r hST
        have hbVD : bV ≠ D := by
          intro e
          have h1 := HVI.out bV rfl
          simp only [Value.ownBlock, Option.some.injEq] at h1
          exact hbD (h1.trans e)
        have hy0 := HK.out.cell (hVb.cell.2 0 (by simp)) (fun e => hbVD e)
        have hy : wr.cell? ⟨bV, oV, none⟩ = some (.int .u8 (y.toNat : Nat)) := hy0
        clear hy0
        obtain ⟨d, hd⟩ : ∃ d, y.toNat = d := ⟨_, rfl⟩
        rw [hd] at hy hyq
        have y34 : ((d : Int) == 34) = false := by simp; omega
        have y39 : ((d : Int) == 39) = false := by simp; omega
        have hrl : (y :: r).length = r.length + 1 := rfl
        rw [hrl] at hqe hW10 HRD HVB HVI hcV
        subst hqe
        have hMb : M ≤ 9223372036854775807 := by have h := HM.out; omega
        have hwr : IntKind.i64.wrap (M : Int) = (M : Int) := by rw [IntWalk.i64_in _ (by omega)]
        obtain ⟨N, hNr⟩ : ∃ N, r.length = N := ⟨_, rfl⟩
        rw [hNr] at hMe hW10 HRD HVB HVI hcV
        have hMe' : (n : Int) + 1 - ((N : Int) + 1) = (M : Int) := by rw [← hMe]; simp
        clear hMe
        have hDK : D ≠ w.heap.size := by omega
        have hS6 : ∀ (a b c d e f : Value), ((((((wr.setCell ⟨w.heap.size, 0, none⟩ a).setCell ⟨w.heap.size, 1, none⟩ b).setCell ⟨w.heap.size, 2, none⟩ c).setCell ⟨w.heap.size, 3, none⟩ d).setCell ⟨w.heap.size, 4, none⟩ e).setCell ⟨w.heap.size, 5, none⟩ f).drew.cell? ⟨D, 9, none⟩ = some (.slice ao orig.length co) ∧ ((((((wr.setCell ⟨w.heap.size, 0, none⟩ a).setCell ⟨w.heap.size, 1, none⟩ b).setCell ⟨w.heap.size, 2, none⟩ c).setCell ⟨w.heap.size, 3, none⟩ d).setCell ⟨w.heap.size, 4, none⟩ e).setCell ⟨w.heap.size, 5, none⟩ f).drew.cell? ⟨D, 10, none⟩ = some (.slice (some ⟨bV, oV, none⟩) (N + 1) cV) :=
          fun a b c d e f => ⟨(store6_keeps wr w.heap.size a b c d e f).drew.cell hW9 hDK, (store6_keeps wr w.heap.size a b c d e f).drew.cell hW10 hDK⟩
        have HS6 := Lib.hid hS6
        clear hS6
        have hSd : wr.drew.cell? ⟨D, 9, none⟩ = some (.slice ao orig.length co) ∧ wr.drew.cell? ⟨D, 10, none⟩ = some (.slice (some ⟨bV, oV, none⟩) (N + 1) cV) := ⟨hW9, hW10⟩
        have HSd := Lib.hid hSd
        clear hSd
        go_wp2
        go_region_held3 (fun w' => w'.cell? ⟨D, 9, none⟩ = some (.slice ao orig.length co) ∧ w'.cell? ⟨D, 10, none⟩ = some (.slice (some ⟨bV, oV, none⟩) (N + 1) cV)) (first | (with_reducible exact HSd.out) | (with_reducible exact ⟨hW9, hW10⟩) | (with_reducible exact HS6.out _ _ _ _ _ _))
          ((go_at_call 181; refine (join_one g cg (mk l) wr.drew hg).mono ?_; rintro e w' ⟨rfl, rfl⟩))
        go_simp
        go_wp2
        have hk6 : Keeps (fun j => j = w.heap.size) wr ((((((wr.setCell ⟨w.heap.size, 0, none⟩ (.int .u8 3)).setCell ⟨w.heap.size, 1, none⟩ (.int .u8 2)).setCell ⟨w.heap.size, 2, none⟩ (.int .u8 0)).setCell ⟨w.heap.size, 3, none⟩ (.int .i64 (IntKind.i64.wrap ((orig.length : Int) - ((n : Int) + 1))))).setCell ⟨w.heap.size, 4, none⟩ (.slice (some ⟨b, off, none⟩) M c)).setCell ⟨w.heap.size, 5, none⟩ (.string (mk l))).drew := store6_keeps_drew wr w.heap.size (.int .u8 3) (.int .u8 2) (.int .u8 0) (.int .i64 (IntKind.i64.wrap ((orig.length : Int) - ((n : Int) + 1)))) (.slice (some ⟨b, off, none⟩) M c) (.string (mk l))
        have hr6 : ((((((wr.setCell ⟨w.heap.size, 0, none⟩ (.int .u8 3)).setCell ⟨w.heap.size, 1, none⟩ (.int .u8 2)).setCell ⟨w.heap.size, 2, none⟩ (.int .u8 0)).setCell ⟨w.heap.size, 3, none⟩ (.int .i64 (IntKind.i64.wrap ((orig.length : Int) - ((n : Int) + 1))))).setCell ⟨w.heap.size, 4, none⟩ (.slice (some ⟨b, off, none⟩) M c)).setCell ⟨w.heap.size, 5, none⟩ (.string (mk l))).drew.heap[w.heap.size]? = some (.cells #[.int .u8 3, .int .u8 2, .int .u8 0, .int .i64 (IntKind.i64.wrap ((orig.length : Int) - ((n : Int) + 1))), .slice (some ⟨b, off, none⟩) M c, .string (mk l)] 120 (0, 0)) := store6_row_drew HRK.out (.int .u8 3) (.int .u8 2) (.int .u8 0) (.int .i64 (IntKind.i64.wrap ((orig.length : Int) - ((n : Int) + 1)))) (.slice (some ⟨b, off, none⟩) M c) (.string (mk l))
        obtain ⟨W6, hW6⟩ : ∃ W6, ((((((wr.setCell ⟨w.heap.size, 0, none⟩ (.int .u8 3)).setCell ⟨w.heap.size, 1, none⟩ (.int .u8 2)).setCell ⟨w.heap.size, 2, none⟩ (.int .u8 0)).setCell ⟨w.heap.size, 3, none⟩ (.int .i64 (IntKind.i64.wrap ((orig.length : Int) - ((n : Int) + 1))))).setCell ⟨w.heap.size, 4, none⟩ (.slice (some ⟨b, off, none⟩) M c)).setCell ⟨w.heap.size, 5, none⟩ (.string (mk l))).drew = W6 := ⟨_, rfl⟩
        rw [hW6] at hk6 hr6 ⊢
        clear hW6
        have hwB : Keeps (fun j => j = D) w wr := (hB0.mono (S1 := fun j => j = D) (fun _ _ => False.elim)).trans HK.out (fun _ _ h => h)
        refine bodyPost_ret (results_cell_slot (p := 2) (u := 3) rfl _ _ w.heap.size (0, 0) rfl hr6) rfl ⟨_, _, _, rfl, HRAW.out, within_len _ _ _ _ _, HVB.out.back hB0 HV.out HVI.out (fun _ h => by rw [HX.out] at h; cases h), HVI.out, ?_, hk6.row HRD.out hDK⟩
        exact hwB.trans hk6 (fun i hi h => by omega)
end Go.Proofs.YtmijjppjodpagaaGreatDoor

namespace Go.Proofs.YtmijjppjodpagaaGreatDoor
open Go.RowKit

set_option maxRecDepth 1000000 in
set_option maxHeartbeats 8000000 in
theorem scalar_str (D : Nat) (cur : Array Value) (vo v : Value) (orig l T : List UInt8) (w : World) (hrow : w.heap[D]? = some (.cells cur 129 (0, 0))) (ho : cur[9]? = some vo) (hin : cur[10]? = some v) (hsz : cur.size = 11)
    (hvo : BytesAt w vo orig) (hv : BytesAt w v (quote false l ++ T)) (hlen : (quote false l ++ T).length ≤ 140737488200000) (hl : l.length ≤ 140737488200000) (hT : Tabs w) (hs : ∀ r, skip T ≠ 35 :: r) (hq : ∀ c r, skip T = c :: r → c.toNat ≠ 34 ∧ c.toNat ≠ 39) (hD : v.ownBlock ≠ some D) :
    Calls Tryz.prog 117 #[.pointer (some ⟨D, 0, none⟩)] w (NextPost D cur v w 3 2 0 (mk l) ((quote false l ++ T).take ((quote false l ++ T).length - (skip T).length)) (skip T)) := by
  have hDl := row_lt hrow
  have hK1 : ∀ A, Keeps (fun _ => False) w (w.alloc A) := fun A => (Keeps.refl _ w).alloc A
  have csv := fun A => parseStringValue_any D cur vo v orig l T (w.alloc A) ((hK1 A).row hrow id) ho hin hsz (hvo.keeps (hK1 A) (fun _ _ => id)) (hv.keeps (hK1 A) (fun _ _ => id)) hlen hl (hT.keeps (hK1 A) (fun _ _ => id)) hs hq hD
  have hvl := bytes_lt hv (by simp [quote])
  obtain ⟨RW, hRW⟩ : ∃ RW, (quote false l ++ T).take ((quote false l ++ T).length - (skip T).length) = RW := ⟨_, rfl⟩
  simp only [hRW] at csv
  rw [hRW]
  clear hRW
  have hvx := hv
  have hX0 : quote false l ++ T = 34 :: (enc false l ++ 34 :: T) := by unfold quote; simp
  rw [hX0] at hvx
  obtain ⟨b, off, c, hvf, hcc, hcm, hx⟩ := hvx.cons
  obtain ⟨n, hn⟩ : ∃ n, (enc false l ++ 34 :: T).length = n := ⟨_, rfl⟩
  rw [hn] at hvf hcc
  have hc10 : w.cell? ⟨D, 10, none⟩ = some v := (cell_row hrow).trans hin
  have hx' : w.cell? ⟨b, off, none⟩ = some (.int .u8 34) := hx
  have hcA := fun A => (hK1 A).cell hc10 id
  have hxA := fun A => (hK1 A).cell hx' id
  rw [hvf] at hcA
  have HV := Lib.hid hv
  have HVF := Lib.hid hvf
  clear hv hvx hvo hX0 hn hx hvf hc10 hx'
  go_enter Tryz.func117, Tryz.ntmps117
  go_wp2_with (go_at_call 146; refine (csv _).mono ?_; rintro e w2 ⟨raw, V, pos, rfl, hraw, hri, hV, hVi, hk2, hrD⟩; have hrK := hk2.row (heap_alloc_new w _) (by omega); have hfK := fun j => frozen_row (j := j) hrK; have k0 := cell_row (j := 0) hrK; have k1 := cell_row (j := 1) hrK; have k2 := cell_row (j := 2) hrK; have k3 := cell_row (j := 3) hrK; have k4 := cell_row (j := 4) hrK; have k5 := cell_row (j := 5) hrK; simp at k0 k1 k2 k3 k4 k5; obtain ⟨ar, cr, hrf, _, _⟩ := hraw.form; subst hrf)
  refine bodyPost_ret (results_cell_slot (p := 2) (u := 3) rfl _ _ w.heap.size (0, 0) rfl (store6_row hrK _ _ _ _ _ _)) rfl ?_
  exact next_end D cur v w _ w2 w.heap.size (Nat.le_refl _) hDl ((hK1 _).mono (fun _ _ => False.elim)) hk2 hraw hri hV hVi hD hvl hrD


set_option maxRecDepth 1000000 in
set_option maxHeartbeats 20000000 in
theorem next_str (D : Nat) (cur : Array Value) (vo vi : Value) (orig : List UInt8) (w : World) (hrow : w.heap[D]? = some (.cells cur 129 (0, 0))) (ho : cur[9]? = some vo) (hin : cur[10]? = some vi) (h8 : cur[8]? = some (.slice none 0 0)) (hsz : cur.size = 11) (hvo : BytesAt w vo orig) (hvD : vi.ownBlock ≠ some D) (hoD : vo.ownBlock ≠ some D)
    (l T : List UInt8) (hv : BytesAt w vi (quote false l ++ T)) (hlen : (quote false l ++ T).length ≤ 140737488200000) (hl : l.length ≤ 140737488200000) (hT : Tabs w) (hD19 : 14 ≤ D) (hs : ∀ r, skip T ≠ 35 :: r) (hq : ∀ c r, skip T = c :: r → c.toNat ≠ 34 ∧ c.toNat ≠ 39) :
    Calls Tryz.prog 85 #[.pointer (some ⟨D, 0, none⟩), .int .u8 2] w (NextPost D cur vi w 3 2 0 (mk l) ((quote false l ++ T).take ((quote false l ++ T).length - (skip T).length)) (skip T)) := by
  have hDl := row_lt hrow
  have hK1 : ∀ A, Keeps (fun _ => False) w (w.alloc A) := fun A => (Keeps.refl _ w).alloc A
  have hX0 : quote false l ++ T = 34 :: (enc false l ++ 34 :: T) := by unfold quote; simp
  have HSE : Hid (skip ((quote false l ++ T).drop 0) = quote false l ++ T) := by
    show skip (34 :: _) = 34 :: _
    rw [skip_cons]
    have : isSp 34 = false := by decide
    rw [this]; rfl
  have HSK : Hid (∀ r, skip ((quote false l ++ T).drop 0) ≠ 35 :: r) := fun r hr => by
    rw [HSE.out, hX0] at hr
    cases hr
  have hvl := bytes_lt hv (by simp [quote])
  obtain ⟨n, hn⟩ : ∃ n, (enc false l ++ 34 :: T).length = n := ⟨_, rfl⟩
  have hxl : (quote false l ++ T).length = n + 1 := by rw [hX0, ← hn]; rfl
  have HX0 := Lib.hid hX0
  have HXL := Lib.hid hxl
  obtain ⟨RW, hRW⟩ : ∃ RW, (quote false l ++ T).take ((quote false l ++ T).length - (skip T).length) = RW := ⟨_, rfl⟩
  rw [hRW]
  have HRW := Lib.hid hRW
  clear hX0 hn hxl hRW
  have HV := Lib.hid hv
  have HVO := Lib.hid hvo
  have HR := Lib.hid hrow
  clear hv hvo hrow
  go_enter Tryz.func85, Tryz.ntmps85
  go_wp2_with (first
    | (go_at_call 113; refine (dconsume D cur vi (quote false l ++ T) 0 (Nat.zero_le _) _ ((hK1 _).row HR.out id) hin (HV.out.keeps (hK1 _) (fun _ _ => id)) HSK.out).mono ?_; rintro e w1 ⟨rfl, V0, hb0, hi0, hw1⟩; obtain ⟨h1D, h1K, h1k, hb1⟩ := next_start D cur vi V0 _ w w1 _ HR.out HV.out hvD hi0 hb0 hw1; clear hw1 hb0; rw [HSE.out] at hb1; obtain ⟨b0, o0, c0, hf0, hcc, hcm⟩ := hb1.form' (by simp [quote]); rw [HXL.out] at hf0 hcc; subst hf0; have hx0 : w1.cell? ⟨b0, o0, none⟩ = some (.int .u8 34) := hb1.cell.2 0 (by simp [quote]); have hc10 := (cell_row (j := 10) h1D).trans (setIn_same hsz); have hc8 := (cell_row (j := 8) h1D).trans (setIn_other h8); have H1D := Lib.hid h1D; have H1K := Lib.hid h1K; have H1k := Lib.hid h1k; have HB1 := Lib.hid hb1; have HI0 := Lib.hid hi0; clear h1D h1K h1k hb1 hi0)

    | (go_at_call 117; refine (scalar_str D _ vo _ orig l T _ H1D.out ((setIn_other' (by decide)).trans ho) (setIn_same hsz) (by simp [hsz]) (HVO.out.keeps H1k.out (fun j hj e => by subst e; exact hoD hj)) HB1.out hlen hl (hT.keeps H1k.out (fun j hj e => by omega)) hs hq (fun e => hvD (HI0.out _ e))).mono ?_; rintro e w2 ⟨raw, V, pos, rfl, hraw, hri, hV, hVi, hk2, hrD⟩; rw [HRW.out] at hraw; have hrK := hk2.row H1K.out (by omega); have hfK := fun j => frozen_row (j := j) hrK; have k0 := cell_row (j := 0) hrK; have k1 := cell_row (j := 1) hrK; have k2 := cell_row (j := 2) hrK; have k3 := cell_row (j := 3) hrK; have k4 := cell_row (j := 4) hrK; have k5 := cell_row (j := 5) hrK; simp at k0 k1 k2 k3 k4 k5; obtain ⟨ar, cr, hrf, _, _⟩ := hraw.form; subst hrf))
  refine bodyPost_ret (results_cell_slot (p := 4) (u := 5) rfl _ _ w.heap.size (0, 0) rfl (store6_row hrK _ _ _ _ _ _)) rfl ?_
  exact next_end2 D cur vi w _ w2 w.heap.size (Nat.le_refl _) hDl H1k.out hk2 hraw (HI0.out.trans hri) hV (HI0.out.trans hVi) hvD hvl (by rw [hrD, Array.setIfInBounds_setIfInBounds])
end Go.Proofs.YtmijjppjodpagaaGreatDoor
