/-
  PROVED: in the text form, what is written of another message behind a snapshot, ahead of any field, is gone when it is put back: laws.FnMsgSnapshot answers true for every input of bulk at most 1048576, and its arguments read behind the call as they read before. CONDITIONS: those of the given row: what it reads is of bulk at most 1048576 (the second form); the listed package-level variables hold what the program's text lays; the card ties them to it (the tie is given). No other condition.
-/
import Derived.Test.YtmijjppjodpagaaGreatDoorCards
import Derived.Test.YtmijjppjodpagaaGreatDoorTie
import Derived.Test.YtmijjppjodpagaaGreatDoorM46
import Derived.Test.YtmijjppjodpagaaGreatDoorM47
import Derived.ProofKit
import Derived.OpenShut
import Derived.Lay
import Derived.PinnedBridge
import Derived.Lib.LaidU8T
import Derived.Lib.LaidTab
import Derived.Lib.SmallJoins
import Derived.SevenTiedAt
import Derived.Deep.DeepHandedRow
set_option linter.unusedVariables false
set_option linter.unusedSimpArgs false
namespace Go.Proofs.YtmijjppjodpagaaGreatDoor.fnMsgSnapshot
open Go.ChangeShapes Go.WideShapes Go.ChangeAt Go.RowKit Go.Lib Go.Joins

theorem own : ownKnob Tryz.prog.godebug = none := by kernel_rfl
theorem laidOut : laidOutB Tryz.prog = true := by kernel_rfl
theorem plainLaid : (Rows.fnMsgSnapshotUptoRow.laid.all fun x => x.2.handleName?.isNone) = true := by kernel_rfl

/-- What the row's list gives: the tables of Go's library. -/
theorem u8t : U8Types Tryz.prog Tryz.lays197_ren := ⟨by kernel_rfl, by kernel_rfl, by kernel_rfl, by kernel_rfl⟩
theorem u8x : U8Extra Tryz.prog Tryz.lays197_ren := ⟨by kernel_rfl, by kernel_rfl, by kernel_rfl, by kernel_rfl, by kernel_rfl, by kernel_rfl, by kernel_rfl⟩
def bruijnZ : List Int := List.map (fun n : Nat => (n : Int)) Lib.deBruijn64tab
theorem bruijn_eq : (Rows.laid_math_bits_deBruijn64tab : DataW Unit) = tabData .u8 bruijnZ := by kernel_rfl
theorem accept_eq : (Rows.laid_unicode_utf8_acceptRanges : DataW Unit) = acceptData := by kernel_rfl
theorem ten_eq : (Rows.laid_internal_strconv_uint64pow10 : DataW Unit) = tabData .u64 Lib.pow10Tab := by kernel_rfl
theorem bruijn_at (j : Nat) (hj : j < Lib.deBruijn64tab.length) : bruijnZ[j]? = some ((Lib.deBruijn64tab.getD j 0 : Nat) : Int) := by
  unfold bruijnZ
  rw [List.getElem?_map, List.getElem?_eq_getElem hj, List.getD, List.getElem?_eq_getElem hj]
  rfl
theorem gB : Tryz.prog.globalNamed "math/bits.deBruijn64tab" = some 8 := by kernel_rfl
theorem yB : (Tryz.prog.globals[8]?).map (·.type) = some 250 := by kernel_rfl
theorem cB : Tryz.prog.cellsOf 250 = 64 := by kernel_rfl
theorem c5 : Tryz.prog.cellsOf 5 = 1 := by kernel_rfl
theorem gL : Tryz.prog.globalNamed "strconv.ErrRange" = some 13 := by kernel_rfl
theorem gN : Tryz.prog.globalNamed "internal/strconv.uint64pow10" = some 5 := by kernel_rfl
theorem yN : (Tryz.prog.globals[5]?).map (·.type) = some 197 := by kernel_rfl
theorem cN : Tryz.prog.cellsOf 197 = 20 := by kernel_rfl
theorem c64 : Tryz.prog.cellsOf 49 = 1 := by kernel_rfl
theorem gP : Tryz.prog.globalNamed "internal/strconv.pow10Tab" = some 9 := by kernel_rfl
theorem yP : (Tryz.prog.globals[9]?).map (·.type) = some 263 := by kernel_rfl
theorem cP : Tryz.prog.cellsOf 262 = 2 := by kernel_rfl
theorem var_lt {P : Program} {w : World} {n : String} {cs : Array Value} {g : Nat} (hg : P.globalNamed n = some g) (hv : w.var? P n = some cs) : g < w.heap.size := by
  by_cases h : g < w.heap.size
  · exact h
  · exfalso
    unfold World.var? at hv
    simp [hg, Array.getElem?_eq_none (by omega : w.heap.size ≤ g)] at hv
theorem reads_lt {W : World} {n : String} {d : DataW Unit} {k : Nat} (hg : Tryz.prog.globalNamed n = some k) (h : VarReads Tryz.prog W n d) : k < W.heap.size := by
  obtain ⟨g, t, cs, fuel, p, hg', hty, hvar, hd⟩ := h
  exact var_lt hg (by rw [hvar])
theorem tabs {W : World} (h : laidMetH Tryz.prog Rows.fnMsgSnapshotUptoRow.laid W) : Tabs W := by
  rw [MakeChecks.laidMetH_plain _ _ _ plainLaid] at h
  have hf : VarReads Tryz.prog W "unicode/utf8.first" firstData := Pinned.utf8First_eq ▸ Lib.laidMet.reads h (d := Rows.laid_unicode_utf8_first) (List.mem_of_getElem? (i := 11) rfl)
  have ha : VarReads Tryz.prog W "unicode/utf8.acceptRanges" acceptData := accept_eq ▸ Lib.laidMet.reads h (List.mem_of_getElem? (i := 4) rfl)
  have hb : VarReads Tryz.prog W "math/bits.deBruijn64tab" (tabData .u8 bruijnZ) := bruijn_eq ▸ Lib.laidMet.reads h (List.mem_of_getElem? (i := 1) rfl)
  have hl : VarReads Tryz.prog W "strconv.ErrRange" Rows.laid_strconv_ErrRange := Lib.laidMet.reads h (List.mem_of_getElem? (i := 5) rfl)
  have hs : 14 ≤ W.heap.size := reads_lt gL hl
  refine ⟨utf8Tabs_of_readsT u8t u8x hf ha, fun j hj => ?_, hs⟩
  obtain ⟨g, t, cs, fuel, p, hg, hty, hvar, hd⟩ := hb
  obtain rfl := Option.some.inj (gB.symm.trans hg)
  obtain rfl := Option.some.inj (yB.symm.trans hty)
  have hcs := cells_of_tab Tryz.underlying250 Tryz.underlying5 c5 cB hd
  rw [World.var?_cell hg hvar j, ← Array.getElem?_toList, hcs, List.getElem?_map, bruijn_at j hj]
  rfl
/-- The great table of powers, as the pinned list has it. -/
def PTab (i : Nat) : Nat × Nat := Go.Pinned.pow10Rows.getD i (0, 0)
theorem ptab_all : (Go.Pinned.pow10Rows.all fun x => decide (x.1 < 18446744073709551616) && decide (x.2 < 18446744073709551616)) = true := by decide +kernel
theorem ptab_len : Go.Pinned.pow10Rows.length = 696 := by decide +kernel
theorem ptab_get (i : Nat) (hi : i < 696) : Go.Pinned.pow10Rows[i]? = some (PTab i) := by
  unfold PTab
  rw [List.getD, List.getElem?_eq_getElem (by rw [ptab_len]; exact hi)]
  rfl
theorem ptab_lt (i : Nat) (hi : i < 696) : (PTab i).1 < 18446744073709551616 ∧ (PTab i).2 < 18446744073709551616 := by
  have h := List.all_eq_true.1 ptab_all _ (List.mem_of_getElem? (ptab_get i hi))
  simpa only [Bool.and_eq_true, decide_eq_true_eq] using h
set_option maxRecDepth 100000 in
theorem p10_of {W : World} (h : VarReads Tryz.prog W "internal/strconv.pow10Tab" Go.Pinned.pow10Tab) : P10At PTab W := by
  obtain ⟨g, t, cs, fuel, p, hg, hty, hvar, hd⟩ := h
  obtain rfl := Option.some.inj (gP.symm.trans hg)
  obtain rfl := Option.some.inj (yP.symm.trans hty)
  intro i hi
  obtain ⟨fuel', d, q, hdi, he⟩ := array_elem Tryz.underlying263 hd i hi
  rw [List.getElem?_map, ptab_get i hi, Option.map_some, Option.some.injEq] at hdi
  subst hdi
  rw [cP] at he
  have hcs := ints_of_struct (zs := [((PTab i).1 : Int), ((PTab i).2 : Int)]) Tryz.underlying262 (fun j f hj => by
    match j, hj with
    | 0, hj => simp at hj; subst hj; exact ⟨Tryz.underlying49, rfl, c64⟩
    | 1, hj => simp at hj; subst hj; exact ⟨Tryz.underlying49, rfl, c64⟩
    | j + 2, hj => simp at hj) (by rw [cP]; rfl) he
  have e0 := congrArg (·[0]?) hcs
  have e1 := congrArg (·[1]?) hcs
  simp only [List.getElem?_take, List.getElem?_drop] at e0 e1
  have hb := ptab_lt i hi
  refine ⟨?_, ?_, hb.1, hb.2⟩
  · rw [World.var?_cell hg hvar (i * 2), ← Array.getElem?_toList]
    simpa using e0
  · rw [World.var?_cell hg hvar (i * 2 + 1), ← Array.getElem?_toList]
    simpa using e1
theorem ft2 {W : World} (h : laidMetH Tryz.prog Rows.fnMsgSnapshotUptoRow.laid W) : FT2 PTab W := by
  rw [MakeChecks.laidMetH_plain _ _ _ plainLaid] at h
  have hp : VarReads Tryz.prog W "internal/strconv.pow10Tab" Go.Pinned.pow10Tab := Lib.laidMet.reads h (d := Rows.laid_internal_strconv_pow10Tab) (List.mem_of_getElem? (i := 10) rfl)
  have hn : VarReads Tryz.prog W "internal/strconv.uint64pow10" (tabData .u64 Lib.pow10Tab) := ten_eq ▸ Lib.laidMet.reads h (List.mem_of_getElem? (i := 3) rfl)
  refine ⟨p10_of hp, ?_, reads_lt gP hp, reads_lt gN hn⟩
  obtain ⟨g, t, cs, fuel, p, hg, hty, hvar, hd⟩ := hn
  obtain rfl := Option.some.inj (gN.symm.trans hg)
  obtain rfl := Option.some.inj (yN.symm.trans hty)
  have hcs := cells_of_tab Tryz.underlying197 Tryz.underlying49 c64 cN hd
  unfold Ten TabIs
  rw [hvar, ← hcs]

set_option maxRecDepth 1000000 in
/-- What the walk gives, for every argument of the bulk. -/
theorem contract (H : Type) (enc : TypeId × Value → H) (W : World) (base : Nat) (args : Array Value) (ds gs : List (DataW H)) (before : List MemPlace)
    (hval0 : ∀ (j : Nat) t v, Tryz.f3.params[j]? = some t → args[j]? = some v → Value.okWide Tryz.prog W .any base t v)
    (hW : DataW.Whole enc Tryz.prog Tryz.f3.params.toList Rows.fnMsgSnapshotSpec.vars false W args.toList ds gs before) (hk : Rows.uptoSmall H (ds ++ gs) = true) (hL : laidMetH Tryz.prog Rows.fnMsgSnapshotUptoRow.laid W) :
    Calls Tryz.prog 3 args W fun e W' => ∃ v, e = .returned v ∧ Rows.fnMsgSnapshotSpec.post enc Tryz.prog Tryz.f3 false true false false W args v W' := by
  have hval : ∀ (j : Nat) t v, Tryz.f3.params[j]? = some t → args[j]? = some v → Value.okWide Tryz.prog W .any base t v := hval0
  have hW' := hW
  obtain ⟨p, q, hA0, hV, rfl, _, _⟩ := hW
  have hA : DataW.TrodAll enc Tryz.prog W 0 (fun _ => true) true Tryz.f3.params.toList args.toList ds p := hA0
  rw [Tryz.params3] at hA hval
  obtain ⟨v0, vs0, d0, ds0, p0, q0, hargs, rfl, rfl, h0, r0⟩ := trodAll_cons hA
  obtain ⟨v1, vs1, d1, ds1, p1, q1, rfl, rfl, rfl, h1, r1⟩ := trodAll_cons r0
  obtain ⟨v2, vs2, d2, ds2, p2, q2, rfl, rfl, rfl, h2, r2⟩ := trodAll_cons r1
  obtain ⟨v3, vs3, d3, ds3, p3, q3, rfl, rfl, rfl, h3, r3⟩ := trodAll_cons r2
  obtain ⟨v4, vs4, d4, ds4, p4, q4, rfl, rfl, rfl, h4, r4⟩ := trodAll_cons r3
  obtain ⟨rfl, rfl, rfl⟩ := trodAll_nil r4
  obtain rfl : args = #[v0, v1, v2, v3, v4] := by cases args; simp_all
  obtain ⟨rfl, rfl⟩ := trodVars_none hV
  simp only [List.append_nil] at hW' hk
  have hlt : ∀ x ∈ p0 ++ (p1 ++ (p2 ++ (p3 ++ p4))), x.block < W.heap.size := fun x hx => by simpa using hW'.lt x (by simpa using hx)
  have hB : Rows.uptoBulkAll [d0, d1, d2, d3, d4] ≤ 1048576 := of_decide_eq_true hk
  simp only [Rows.uptoBulkAll] at hB
  -- the schema
  obtain ⟨x, y, y0, y1, m, rfl, hd0, -, hy0, hy1⟩ := open_agg2 Tryz.underlying25 (by kernel_rfl) (show Tryz.prog.cellsOf 25 = 2 by kernel_rfl) (hval 0 _ v0 rfl rfl) h0
  obtain ⟨x', ms, e0, hms, hmb⟩ := open_mts hy0
  obtain ⟨y', es, e1, hes, heb⟩ := open_ets hy1
  cases e0
  cases e1
  have hbd0 : Rows.uptoBulk y0.1 ≤ 1048576 ∧ Rows.uptoBulk y1.1 ≤ 1048576 := by
    rw [hd0] at hB
    simp only [Rows.uptoBulk, Rows.uptoBulkAll] at hB
    omega
  have hN : NamesOk ⟨ms, es⟩ := ⟨fun M hM f hf => Nat.le_trans (hmb M hM f hf) hbd0.1, fun e he n hn => Nat.le_trans (heb e he n hn) hbd0.2⟩
  -- the type, the messages, the place
  obtain ⟨t, rfl, -, -, -⟩ := open_int Tryz.underlying3 (hval 1 _ v1 rfl rfl) h1
  obtain ⟨at_, rfl, -, -, -⟩ := open_int Tryz.underlying3 (hval 4 _ v4 rfl rfl) h4
  obtain ⟨a2, n2, c2, rfl⟩ := okWide_slice Tryz.underlying26 (hval 2 _ v2 rfl rfl)
  obtain ⟨a3, n3, c3, rfl⟩ := okWide_slice Tryz.underlying26 (hval 3 _ v3 rfl rfl)
  obtain ⟨fuel2, hf2⟩ := h2
  obtain ⟨fuel3, hf3⟩ := h3
  obtain ⟨u2, fs, e2, hm2, hl2⟩ := open_msg fuel2 (Nat.le_refl _) hf2
  obtain ⟨u3, os, e3, hm3, hl3⟩ := open_msg fuel3 (Nat.le_refl _) hf3
  simp only [Value.cells, List.cons.injEq, and_true] at e2 e3
  subst e2
  subst e3
  have hb2 : MBound (fuel2 / 4 + 1) fs := (hl2.mono (m := 1048576) (by show Rows.uptoBulk d2 ≤ _; omega)).bound
  have hb3 : MBound (fuel3 / 4 + 1) os := (hl3.mono (m := 1048576) (by show Rows.uptoBulk d3 ≤ _; omega)).bound
  have hT : Tabs W := tabs hL
  have hF : FT2 PTab W := ft2 hL
  refine (snapshot_law PTab ptab_lt x y ⟨ms, es⟩ t _ _ fs os _ _ at_ W ⟨hms, hes⟩ hm2 hb2 hm3 hb3 hN hT hF).mono fun e W' ⟨he, hk⟩ => ?_
  subst he
  have hb : Below W.heap.size W W' := hk.below (fun _ _ => id)
  have kp : ∀ {t : TypeId} {v : Value} {d : DataW H} {ps : List MemPlace}, Tryz.prog.readableRec t = true → t < Tryz.prog.types.size → DataW.Trod enc Tryz.prog W 0 (fun _ => true) true t v d ps → (∀ x ∈ ps, x ∈ p0 ++ (p1 ++ (p2 ++ (p3 ++ p4)))) →
      DataW.Trod enc Tryz.prog W' 0 (fun b => decide (b < W.heap.size)) true t v d ps := fun hr hs h hx => Below.trod laidOut hr hs h hb (fun x hx' => hlt x (hx x hx'))
  exact ⟨_, rfl, _, _, _, [], p0 ++ (p1 ++ (p2 ++ (p3 ++ p4))), [], hW', trodAll_mk1 (shut_bool Tryz.underlying4 _),
    trodAll_cons_mk (kp (by kernel_rfl) (of_decide_eq_true (by kernel_rfl)) h0 (fun x hx => by simp [hx]))
      (trodAll_cons_mk (kp (by kernel_rfl) (of_decide_eq_true (by kernel_rfl)) h1 (fun x hx => by simp [hx]))
        (trodAll_cons_mk (kp (by kernel_rfl) (of_decide_eq_true (by kernel_rfl)) ⟨fuel2, hf2⟩ (fun x hx => by simp [hx]))
          (trodAll_cons_mk (kp (by kernel_rfl) (of_decide_eq_true (by kernel_rfl)) ⟨fuel3, hf3⟩ (fun x hx => by simp [hx]))
            (trodAll_mk1 (kp (by kernel_rfl) (of_decide_eq_true (by kernel_rfl)) h4 (fun x hx => by simp [hx])))))), rfl, hb.frame _, fun h => by cases h⟩

/-- An input that fits: an empty schema, empty messages. -/
def wArgs : Array Value := #[.agg #[.slice none 0 0, .slice none 0 0], .int .i64 0, .slice none 0 0, .slice none 0 0, .int .i64 0]
theorem wLaid (os : Os) : laidMetH Tryz.prog Rows.fnMsgSnapshotUptoRow.laid ((World.laidAll Tryz.prog os Rows.fnMsgSnapshotUptoRow.laid).forCall (fun _ _ => 0) ⟨#[], wArgs, []⟩).memory := by
  rw [MakeChecks.laidMetH_plain _ _ _ plainLaid]; exact laidMet_laidAll _ (by kernel_rfl) (by kernel_rfl)
theorem wReads (os : Os) {H : Type} (enc : TypeId × Value → H) : ∃ places, DataW.whole enc Tryz.prog ((World.laidAll Tryz.prog os Rows.fnMsgSnapshotUptoRow.laid).forCall (fun _ _ => 0) ⟨#[], wArgs, []⟩).memory Tryz.f3.params.toList Rows.fnMsgSnapshotSpec.vars false wArgs.toList 8 = some ([.agg [.nil, .nil], .lit (.int .i64 0), .nil, .nil, .lit (.int .i64 0)], [], places) :=
  ⟨[], by kernel_rfl⟩

set_option maxRecDepth 100000 in
theorem lifted (os : Os) (started : os.Started) (H : Type) (enc : TypeId × Value → H) (F : Stop.Interp) :
    ReturnsInHanded {} Tryz.checked os 3 .any ((Rows.OpenSpec.upto Rows.fnMsgSnapshotSpec).preRow enc Tryz.prog Tryz.f3 Rows.fnMsgSnapshotUptoRow.domain false Rows.fnMsgSnapshotUptoRow.laid) (((Rows.OpenSpec.upto Rows.fnMsgSnapshotSpec).at F).post enc Tryz.prog Tryz.f3 false true false false) := by
  obtain ⟨places, hx⟩ := wReads os enc
  have hok : Input.okWideB Tryz.prog ((World.laidAll Tryz.prog os Rows.fnMsgSnapshotUptoRow.laid).forCall (fun _ _ => 0) ⟨#[], wArgs, []⟩) 3 ⟨#[], wArgs, []⟩ = true := by kernel_rfl
  refine returnsInHanded_of_row (C := Tryz.checked) (s := Rows.OpenSpec.upto Rows.fnMsgSnapshotSpec) own started (by kernel_rfl) Tryz.func3
    ⟨World.laidAll Tryz.prog os Rows.fnMsgSnapshotUptoRow.laid, fun _ _ => 0, ⟨#[], wArgs, []⟩, World.laidAll_os _ _ _, World.shaped_of_ZipB (by kernel_rfl) (by kernel_rfl), (Input.okWide_of_okWideB (base := 0) hok).1, (Input.okWide_of_okWideB hok).2,
      OpenSpec.preRow_of_cond 8 hx (by kernel_rfl) (fun k hk => by cases hk; kernel_rfl) (by kernel_rfl) (wLaid os), by
        simp only [Assume.holds]
        exact ⟨by simp, by simp, fun _ => Modest.zero, by simp, by simp⟩⟩ ?_
  intro W base args ds gs before hval hW _ hcond _ hL _ _
  exact contract H enc W base args ds gs before hval hW (hcond _ rfl) hL

theorem said : Rows.FnMsgSnapshotUptoSaid :=
  OpenClaim.holds_of_cond 3 Tryz.f3 rfl rfl rfl rfl rfl rfl rfl ⟨rfl, rfl, rfl, rfl, rfl⟩ rfl rfl rfl rfl rfl (by kernel_rfl) Tryz.func3 (by kernel_rfl)
    (of_decide_eq_true (by kernel_rfl)) (by unfold Func.isWrapper; first | (rw [if_pos (by decide +kernel)]; kernel_rfl) | (rw [if_neg (by decide +kernel)]; exact ⟨rfl, rfl⟩))
    (fun os started H enc _ F => by rw [OpenClaim.pre_eq_preRow]; exact lifted os started H enc F)

theorem plain (f : FuncId) (fn : Func) (hf : Tryz.pinned.checked.prog.funcNamed "pub-rescript/laws.FnMsgSnapshot" = some f) (hfn : Tryz.pinned.checked.prog.funcs[f]? = some fn) :
    true = Tryz.pinned.checked.prog.looks [] ∧ ∀ (j : Nat) t, fn.params[j]? = some t → Tryz.pinned.checked.prog.wantsStandIn t = false := by
  obtain rfl : f = 3 := Option.some.inj ((show Tryz.prog.funcNamed "pub-rescript/laws.FnMsgSnapshot" = some 3 by kernel_rfl).symm.trans hf) |>.symm
  obtain rfl : fn = Tryz.f3 := (Option.some.inj (Tryz.func3.symm.trans hfn)).symm
  refine ⟨by kernel_rfl, fun j t ht => ?_⟩
  rw [Tryz.params3] at ht
  have h := Array.mem_of_getElem? ht
  have k1 : Tryz.prog.wantsStandIn 25 = false := by kernel_rfl
  have k2 : Tryz.prog.wantsStandIn 3 = false := by kernel_rfl
  have k3 : Tryz.prog.wantsStandIn 26 = false := by kernel_rfl
  simp only [List.mem_toArray, List.mem_cons, List.not_mem_nil, or_false] at h
  rcases h with rfl | rfl | rfl | rfl | rfl
  · exact k1
  · exact k2
  · exact k3
  · exact k3
  · exact k2

/-- The card. -/
theorem card : Rows.FnMsgSnapshotUptoCardSaid :=
  Claim7.holds_tied_plain_at .later [] _ _ _ _ said (fun _ h => by cases h) (by kernel_rfl) (fun _ h => by cases h) fnMsgSnapshotUpto_row_tie rfl ⟨rfl, rfl⟩ (by kernel_rfl) rfl plain (by kernel_rfl)
#print axioms card
end Go.Proofs.YtmijjppjodpagaaGreatDoor.fnMsgSnapshot
