/-
  PROVED: a message of texts alone, written by hand with each text quoted, is read as the message: laws.FnMsgQuoted answers true for every input, and its arguments read behind the call as they read before.
  CONDITIONS: those of the given row: the listed package-level variables hold what the program's text lays; the card ties them to it (the tie is given). No other condition.
-/
import Derived.Test.YtdckklmhnhbpiaaGreatDoorCards
import Derived.Test.YtdckklmhnhbpiaaGreatDoorTie
import Derived.Test.YtdckklmhnhbpiaaGreatDoorAQWalk
import Derived.ProofKit
import Derived.OpenShut
import Derived.SliceStrings
import Derived.Lay
import Derived.PinnedBridge
import Derived.Lib.LaidU8T
import Derived.SevenTiedAt
namespace Go.Proofs.YtdckklmhnhbpiaaGreatDoor.fnMsgQuoted
open Go.ChangeShapes Go.WideShapes Go.ChangeAt Go.RowKit Go.Lib

theorem own : ownKnob Tryz.prog.godebug = none := by kernel_rfl
theorem laidOut : laidOutB Tryz.prog = true := by kernel_rfl
theorem cells9 : Tryz.prog.cellsOf 9 = 1 := by kernel_rfl
theorem plainLaid : (Rows.fnMsgQuotedRow.laid.all fun x => x.2.handleName?.isNone) = true := by kernel_rfl

/-- What the row's list gives: the tables of Go's library. -/
theorem u8t : U8Types Tryz.prog Tryz.lays197_ren := ⟨by kernel_rfl, by kernel_rfl, by kernel_rfl, by kernel_rfl⟩
theorem u8x : U8Extra Tryz.prog Tryz.lays197_ren := ⟨by kernel_rfl, by kernel_rfl, by kernel_rfl, by kernel_rfl, by kernel_rfl, by kernel_rfl, by kernel_rfl⟩
def bruijnZ : List Int := List.map (fun n : Nat => (n : Int)) Lib.deBruijn64tab
theorem bruijn_eq : (Rows.laid_math_bits_deBruijn64tab : DataW Unit) = tabData .u8 bruijnZ := by kernel_rfl
theorem accept_eq : (Rows.laid_unicode_utf8_acceptRanges : DataW Unit) = acceptData := by kernel_rfl
theorem bruijn_at (j : Nat) (hj : j < Lib.deBruijn64tab.length) : bruijnZ[j]? = some ((Lib.deBruijn64tab.getD j 0 : Nat) : Int) := by
  unfold bruijnZ
  rw [List.getElem?_map, List.getElem?_eq_getElem hj, List.getD, List.getElem?_eq_getElem hj]
  rfl
theorem gB : Tryz.prog.globalNamed "math/bits.deBruijn64tab" = some 13 := by kernel_rfl
theorem yB : (Tryz.prog.globals[13]?).map (·.type) = some 236 := by kernel_rfl
theorem cB : Tryz.prog.cellsOf 236 = 64 := by kernel_rfl
theorem c5 : Tryz.prog.cellsOf 5 = 1 := by kernel_rfl
theorem gL : Tryz.prog.globalNamed "internal/strconv.leftcheats" = some 18 := by kernel_rfl
theorem var_lt {P : Program} {w : World} {n : String} {cs : Array Value} {g : Nat} (hg : P.globalNamed n = some g) (hv : w.var? P n = some cs) : g < w.heap.size := by
  by_cases h : g < w.heap.size
  · exact h
  · exfalso
    unfold World.var? at hv
    simp [hg, Array.getElem?_eq_none (by omega : w.heap.size ≤ g)] at hv
theorem tabs {W : World} (h : laidMetH Tryz.prog Rows.fnMsgQuotedRow.laid W) : Tabs W := by
  rw [MakeChecks.laidMetH_plain _ _ _ plainLaid] at h
  have hf : VarReads Tryz.prog W "unicode/utf8.first" firstData := Pinned.utf8First_eq ▸ Lib.laidMet.reads h (d := Rows.laid_unicode_utf8_first) (List.mem_of_getElem? (i := 16) rfl)
  have ha : VarReads Tryz.prog W "unicode/utf8.acceptRanges" acceptData := accept_eq ▸ Lib.laidMet.reads h (List.mem_of_getElem? (i := 9) rfl)
  have hb : VarReads Tryz.prog W "math/bits.deBruijn64tab" (tabData .u8 bruijnZ) := bruijn_eq ▸ Lib.laidMet.reads h (List.mem_of_getElem? (i := 1) rfl)
  have hl : VarReads Tryz.prog W "internal/strconv.leftcheats" Rows.laid_internal_strconv_leftcheats := Lib.laidMet.reads h (List.mem_of_getElem? (i := 14) rfl)
  have hs : 19 ≤ W.heap.size := by
    obtain ⟨g, t, cs, fuel, p, hg, hty, hvar, hd⟩ := hl
    exact var_lt gL (by rw [hvar])
  refine ⟨utf8Tabs_of_readsT u8t u8x hf ha, fun j hj => ?_, hs⟩
  obtain ⟨g, t, cs, fuel, p, hg, hty, hvar, hd⟩ := hb
  obtain rfl := Option.some.inj (gB.symm.trans hg)
  obtain rfl := Option.some.inj (yB.symm.trans hty)
  have hcs := cells_of_tab Tryz.underlying236 Tryz.underlying5 c5 cB hd
  rw [World.var?_cell hg hvar j, ← Array.getElem?_toList, hcs, List.getElem?_map, bruijn_at j hj]
  rfl

set_option maxRecDepth 100000 in
/-- A slice of strings that came in. -/
theorem strs_of {H : Type} {enc : TypeId × Value → H} {W : World} {v : Value} {d : DataW H} {p : List MemPlace} {base : Nat} (hv : Value.okWide Tryz.prog W .any base 22 v) (h : DataW.Trod enc Tryz.prog W 0 (fun _ => true) true 22 v d p) :
    ∃ ss, StrsAt W v ss := by
  obtain ⟨a0, len, cap, rfl⟩ := okWide_slice Tryz.underlying22 hv
  obtain ⟨fuel, hf⟩ := h
  rcases open_strings Tryz.underlying22 Tryz.underlying9 cells9 hf with ⟨hcs, hx⟩ | ⟨a, len', cap', ss, hcs, _, hl, hm, hz, hx, hcell, hws⟩
  · simp [Value.cells] at hcs
    obtain ⟨rfl, rfl, rfl⟩ := hcs
    exact ⟨[], none, 0, rfl, Nat.le_refl _, Nat.zero_le _, .inl rfl⟩
  · simp [Value.cells] at hcs
    obtain ⟨rfl, rfl, rfl⟩ := hcs
    simp only [if_true] at hz
    refine ⟨(ss.take len).map (·.data.toList), some a, cap, by rw [List.length_map, List.length_take, Nat.min_eq_left (by omega)], by rw [List.length_map, List.length_take]; omega, hm, ?_⟩
    by_cases hl0 : len = 0
    · left
      subst hl0
      rfl
    · right
      obtain ⟨b, off, spot⟩ := a
      have hspot : spot = none := by simpa [Addr.add] using World.cell?_spot (hcell 0 (by omega))
      subst hspot
      refine ⟨b, off, rfl, fun j hj => ?_⟩
      rw [List.length_map, List.length_take] at hj
      have hc := hcell j (by omega)
      rw [Addr.add_lit] at hc
      rw [hc, List.getElem_map, List.getElem_take, mk_of, List.getD, List.getElem?_eq_getElem (by omega)]
      rfl

set_option maxRecDepth 100000 in
theorem lifted (os : Os) (started : os.Started) (H : Type) (enc : TypeId × Value → H) :
    ReturnsInHanded {} Tryz.checked os 3 .any (fun w args => (Rows.fnMsgQuotedSpec.pre enc Tryz.prog Tryz.f3 [] false w args ∧ laidMetH Tryz.prog Rows.fnMsgQuotedRow.laid w) ∧ sizedMet enc Tryz.prog Tryz.f3 (OpenSpec.ofChange Rows.fnMsgQuotedSpec) false w args)
      (Rows.fnMsgQuotedSpec.post enc Tryz.prog Tryz.f3 false true false false) := by
  refine returnsInHanded_of_change_and (C := Tryz.checked) (X := fun w _ => laidMetH Tryz.prog Rows.fnMsgQuotedRow.laid w) (fun _ _ _ hh h => h.of_heap hh) own started (by kernel_rfl) Tryz.func3
    (ChangeSpec.witness_shaped (enc := enc) (C := Tryz.checked) (os := os) (X := fun w _ => laidMetH Tryz.prog Rows.fnMsgQuotedRow.laid w) false (World.laidAll Tryz.prog os Rows.fnMsgQuotedRow.laid) #[.slice none 0 0, .slice none 0 0] 8 (World.laidAll_os _ _ _)
      (World.shaped_of_ZipB (by kernel_rfl) (by kernel_rfl)) (by kernel_rfl) (by kernel_rfl) (by kernel_rfl)
      (by rw [MakeChecks.laidMetH_plain _ _ _ plainLaid]; exact laidMet_laidAll _ (by kernel_rfl) (by kernel_rfl))) ?_
  intro W base args ds gs before hval0 hW _ _ hL _
  have hval : ∀ (j : Nat) t v, Tryz.f3.params[j]? = some t → args[j]? = some v → Value.okWide Tryz.prog W .any base t v := hval0
  have hW' := hW
  obtain ⟨p, q, hA0, hV, rfl, _, _⟩ := hW
  have hA : DataW.TrodAll enc Tryz.prog W 0 (fun _ => true) true Tryz.f3.params.toList args.toList ds p := hA0
  rw [Tryz.params3] at hA hval
  obtain ⟨v0, vs0, d0, ds0, p0, q0, hargs, rfl, rfl, h0, r0⟩ := trodAll_cons hA
  obtain ⟨v1, vs1, d1, ds1, p1, q1, rfl, rfl, rfl, h1, r1⟩ := trodAll_cons r0
  obtain ⟨rfl, rfl, rfl⟩ := trodAll_nil r1
  obtain rfl : args = #[v0, v1] := by cases args; simp_all
  obtain ⟨rfl, rfl⟩ := trodVars_none hV
  simp only [List.append_nil] at hW'
  have hlt : ∀ x ∈ p0 ++ p1, x.block < W.heap.size := fun x hx => by simpa using hW'.lt x hx
  obtain ⟨ns, hns⟩ := strs_of (hval 0 22 v0 rfl rfl) h0
  obtain ⟨ts, hts⟩ := strs_of (hval 1 22 v1 rfl rfl) h1
  have hT : Tabs W := tabs hL
  refine (quoted_any v0 v1 ns ts W hns hts hT).mono fun e W' ⟨he, hk⟩ => ?_
  subst he
  have hb : Below W.heap.size W W' := hk.below (fun _ _ => id)
  exact ⟨_, rfl, _, _, _, [], p0 ++ p1, [], hW', trodAll_mk1 (shut_bool Tryz.underlying4 _),
    trodAll_mk2 (Below.trod laidOut (by kernel_rfl) (of_decide_eq_true (by kernel_rfl)) h0 hb (fun x hx => hlt x (List.mem_append_left _ hx))) (Below.trod laidOut (by kernel_rfl) (of_decide_eq_true (by kernel_rfl)) h1 hb (fun x hx => hlt x (List.mem_append_right _ hx))), rfl, hb.frame _, fun h => by cases h⟩

theorem said : Rows.FnMsgQuotedSaid :=
  OpenClaim.holds_of_wide 3 Tryz.f3 rfl rfl rfl rfl rfl rfl rfl ⟨rfl, rfl, rfl, rfl, rfl⟩ rfl rfl rfl rfl rfl (by kernel_rfl) Tryz.func3 (by kernel_rfl)
    (of_decide_eq_true (by kernel_rfl)) (by unfold Func.isWrapper; first | (rw [if_pos (by decide +kernel)]; kernel_rfl) | (rw [if_neg (by decide +kernel)]; exact ⟨rfl, rfl⟩))
    (fun os started H enc _ => lifted os started H enc)

theorem plain (f : FuncId) (fn : Func) (hf : Tryz.pinned.checked.prog.funcNamed "pub-rescript/laws.FnMsgQuoted" = some f) (hfn : Tryz.pinned.checked.prog.funcs[f]? = some fn) :
    true = Tryz.pinned.checked.prog.looks [] ∧ ∀ (j : Nat) t, fn.params[j]? = some t → Tryz.pinned.checked.prog.wantsStandIn t = false := by
  obtain rfl : f = 3 := Option.some.inj ((show Tryz.prog.funcNamed "pub-rescript/laws.FnMsgQuoted" = some 3 by kernel_rfl).symm.trans hf) |>.symm
  obtain rfl : fn = Tryz.f3 := (Option.some.inj (Tryz.func3.symm.trans hfn)).symm
  refine ⟨by kernel_rfl, fun j t ht => ?_⟩
  rw [Tryz.params3] at ht
  obtain rfl : t = 22 := by simpa using Array.mem_of_getElem? ht
  exact (show Tryz.prog.wantsStandIn 22 = false by kernel_rfl)

/-- The card. -/
theorem card : Rows.FnMsgQuotedCardSaid :=
  Claim7.holds_tied_plain_at .later [] _ _ _ _ said (fun _ h => by cases h) (by kernel_rfl) (fun _ h => by cases h) fnMsgQuoted_row_tie rfl ⟨rfl, rfl⟩ (by kernel_rfl) rfl plain (by kernel_rfl)
end Go.Proofs.YtdckklmhnhbpiaaGreatDoor.fnMsgQuoted
