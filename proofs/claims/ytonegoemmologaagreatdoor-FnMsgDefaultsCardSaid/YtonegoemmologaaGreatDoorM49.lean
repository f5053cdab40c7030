/-
  What the row's list gives: the tables of Go's library, as the walks ask for them.
-/
import Derived.Test.YtonegoemmologaaGreatDoorRows
import Derived.Test.YtonegoemmologaaGreatDoorM47
import Derived.ProofKit
import Derived.OpenShut
import Derived.Lay
import Derived.PinnedBridge
import Derived.Lib.LaidU8T
import Derived.Lib.LaidTab
import Derived.Lib.SmallJoins
import Derived.SevenTiedAt
import Derived.Deep.DeepHandedRow
set_option linter.unusedVariables false
set_option linter.unusedSimpArgs false
namespace Go.Proofs.YtonegoemmologaaGreatDoor.fnMsgDefaults
open Go.ChangeShapes Go.WideShapes Go.ChangeAt Go.RowKit Go.Lib Go.Joins
theorem plainLaid : (Rows.fnMsgDefaultsRow.laid.all fun x => x.2.handleName?.isNone) = true := by kernel_rfl
def u8ren : Go.Shelf.Ren := ⟨fun n => n, fun | 5 => 5 | 119 => 270 | 138 => 272 | 139 => 273 | n => n, fun | 3 => 15 | 4 => 16 | n => n⟩
theorem u8t : U8Types Tryz.prog u8ren := ⟨by kernel_rfl, by kernel_rfl, by kernel_rfl, by kernel_rfl⟩
theorem u8x : U8Extra Tryz.prog u8ren := ⟨by kernel_rfl, by kernel_rfl, by kernel_rfl, by kernel_rfl, by kernel_rfl, by kernel_rfl, by kernel_rfl⟩
def bruijnZ : List Int := List.map (fun n : Nat => (n : Int)) Lib.deBruijn64tab
theorem bruijn_eq : (Rows.laid_math_bits_deBruijn64tab : DataW Unit) = tabData .u8 bruijnZ := by kernel_rfl
theorem accept_eq : (Rows.laid_unicode_utf8_acceptRanges : DataW Unit) = acceptData := by kernel_rfl
theorem ten_eq : (Rows.laid_internal_strconv_uint64pow10 : DataW Unit) = tabData .u64 Lib.pow10Tab := by kernel_rfl
theorem bruijn_at (j : Nat) (hj : j < Lib.deBruijn64tab.length) : bruijnZ[j]? = some ((Lib.deBruijn64tab.getD j 0 : Nat) : Int) := by
 unfold bruijnZ
 rw [List.getElem?_map, List.getElem?_eq_getElem hj, List.getD, List.getElem?_eq_getElem hj]
 rfl
theorem gB : Tryz.prog.globalNamed "math/bits.deBruijn64tab" = some 9 := by kernel_rfl
theorem yB : (Tryz.prog.globals[9]?).map (·.type) = some 253 := by kernel_rfl
theorem cB : Tryz.prog.cellsOf 253 = 64 := by kernel_rfl
theorem c5 : Tryz.prog.cellsOf 5 = 1 := by kernel_rfl
theorem gA : Tryz.prog.globalNamed "unicode/utf8.acceptRanges" = some 16 := by kernel_rfl
theorem gN : Tryz.prog.globalNamed "internal/strconv.uint64pow10" = some 1 := by kernel_rfl
theorem yN : (Tryz.prog.globals[1]?).map (·.type) = some 168 := by kernel_rfl
theorem cN : Tryz.prog.cellsOf 168 = 20 := by kernel_rfl
theorem c64 : Tryz.prog.cellsOf 37 = 1 := by kernel_rfl
theorem gP : Tryz.prog.globalNamed "internal/strconv.pow10Tab" = some 10 := by kernel_rfl
theorem yP : (Tryz.prog.globals[10]?).map (·.type) = some 256 := by kernel_rfl
theorem cP : Tryz.prog.cellsOf 255 = 2 := by kernel_rfl
theorem gO : Tryz.prog.globalNamed "internal/strconv.optimize" = some 2 := by kernel_rfl
theorem yO : (Tryz.prog.globals[2]?).map (·.type) = some 4 := by kernel_rfl
theorem gI : Tryz.prog.globalNamed "internal/strconv.float64info" = some 7 := by kernel_rfl
theorem yI : (Tryz.prog.globals[7]?).map (·.type) = some 230 := by kernel_rfl
theorem gF : Tryz.prog.globalNamed "internal/strconv.float64pow10" = some 14 := by kernel_rfl
theorem yF : (Tryz.prog.globals[14]?).map (·.type) = some 268 := by kernel_rfl
theorem cF : Tryz.prog.cellsOf 83 = 1 := by kernel_rfl
theorem var_lt {P : Program} {w : World} {n : String} {cs : Array Value} {g : Nat} (hg : P.globalNamed n = some g) (hv : w.var? P n = some cs) : g < w.heap.size := by
 by_cases h : g < w.heap.size
 · exact h
 · exfalso
   unfold World.var? at hv
   simp [hg, Array.getElem?_eq_none (by omega : w.heap.size ≤ g)] at hv
theorem reads_lt {W : World} {n : String} {d : DataW Unit} {k : Nat} (hg : Tryz.prog.globalNamed n = some k) (h : VarReads Tryz.prog W n d) : k < W.heap.size := by
 obtain ⟨g, t, cs, fuel, p, hg', hty, hvar, hd⟩ := h
 exact var_lt hg (by rw [hvar])
theorem tabs {W : World} (h : laidMetH Tryz.prog Rows.fnMsgDefaultsRow.laid W) : Tabs W := by
 rw [MakeChecks.laidMetH_plain _ _ _ plainLaid] at h
 have hf : VarReads Tryz.prog W "unicode/utf8.first" firstData := Pinned.utf8First_eq ▸ Lib.laidMet.reads h (d := Rows.laid_unicode_utf8_first) (List.mem_of_getElem? (i := 15) rfl)
 have ha : VarReads Tryz.prog W "unicode/utf8.acceptRanges" acceptData := accept_eq ▸ Lib.laidMet.reads h (List.mem_of_getElem? (i := 9) rfl)
 have hb : VarReads Tryz.prog W "math/bits.deBruijn64tab" (tabData .u8 bruijnZ) := bruijn_eq ▸ Lib.laidMet.reads h (List.mem_of_getElem? (i := 1) rfl)
 have hs : 17 ≤ W.heap.size := reads_lt gA ha
 refine ⟨utf8Tabs_of_readsT u8t u8x hf ha, fun j hj => ?_, hs⟩
 obtain ⟨g, t, cs, fuel, p, hg, hty, hvar, hd⟩ := hb
 obtain rfl := Option.some.inj (gB.symm.trans hg)
 obtain rfl := Option.some.inj (yB.symm.trans hty)
 have hcs := cells_of_tab Tryz.underlying253 Tryz.underlying5 c5 cB hd
 rw [World.var?_cell hg hvar j, ← Array.getElem?_toList, hcs, List.getElem?_map, bruijn_at j hj]
 rfl
def PTab (i : Nat) : Nat × Nat := Go.Pinned.pow10Rows.getD i (0, 0)
theorem ptab_all : (Go.Pinned.pow10Rows.all fun x => decide (x.1 < 18446744073709551616) && decide (x.2 < 18446744073709551616)) = true := by decide +kernel
theorem ptab_len : Go.Pinned.pow10Rows.length = 696 := by decide +kernel
theorem ptab_get (i : Nat) (hi : i < 696) : Go.Pinned.pow10Rows[i]? = some (PTab i) := by
 unfold PTab
 rw [List.getD, List.getElem?_eq_getElem (by rw [ptab_len]; exact hi)]
 rfl
theorem ptab_lt (i : Nat) (hi : i < 696) : (PTab i).1 < 18446744073709551616 ∧ (PTab i).2 < 18446744073709551616 := by
 have h := List.all_eq_true.1 ptab_all _ (List.mem_of_getElem? (ptab_get i hi))
 simpa only [Bool.and_eq_true, decide_eq_true_eq] using h
theorem ptab_pow : ((List.range 696).all fun i => decide ((PTab i).1 * 2 ^ 64 = Fl.powM ((i : Int) - 348) + (PTab i).2)) = true := by decide +kernel
theorem ptok : PTOk PTab := fun i hi => by
 have h := List.all_eq_true.1 ptab_pow i (List.mem_range.2 hi)
 exact ⟨of_decide_eq_true h, ptab_lt i hi⟩
set_option maxRecDepth 100000 in
theorem p10_of {W : World} (h : VarReads Tryz.prog W "internal/strconv.pow10Tab" Go.Pinned.pow10Tab) : P10At PTab W := by
 obtain ⟨g, t, cs, fuel, p, hg, hty, hvar, hd⟩ := h
 obtain rfl := Option.some.inj (gP.symm.trans hg)
 obtain rfl := Option.some.inj (yP.symm.trans hty)
 intro i hi
 obtain ⟨fuel', d, q, hdi, he⟩ := array_elem Tryz.underlying256 hd i hi
 rw [List.getElem?_map, ptab_get i hi, Option.map_some, Option.some.injEq] at hdi
 subst hdi
 rw [cP] at he
 have hcs := ints_of_struct (zs := [((PTab i).1 : Int), ((PTab i).2 : Int)]) Tryz.underlying255 (fun j f hj => by
  match j, hj with
  | 0, hj => simp at hj; subst hj; exact ⟨Tryz.underlying37, rfl, c64⟩
  | 1, hj => simp at hj; subst hj; exact ⟨Tryz.underlying37, rfl, c64⟩
  | j + 2, hj => simp at hj) (by rw [cP]; rfl) he
 have e0 := congrArg (·[0]?) hcs
 have e1 := congrArg (·[1]?) hcs
 simp only [List.getElem?_take, List.getElem?_drop] at e0 e1
 have hb := ptab_lt i hi
 refine ⟨?_, ?_, hb.1, hb.2⟩
 · rw [World.var?_cell hg hvar (i * 2), ← Array.getElem?_toList]
   simpa using e0
 · rw [World.var?_cell hg hvar (i * 2 + 1), ← Array.getElem?_toList]
   simpa using e1
theorem ft2 {W : World} (h : laidMetH Tryz.prog Rows.fnMsgDefaultsRow.laid W) : FT2 PTab W := by
 rw [MakeChecks.laidMetH_plain _ _ _ plainLaid] at h
 have hp : VarReads Tryz.prog W "internal/strconv.pow10Tab" Go.Pinned.pow10Tab := Lib.laidMet.reads h (d := Rows.laid_internal_strconv_pow10Tab) (List.mem_of_getElem? (i := 14) rfl)
 have hn : VarReads Tryz.prog W "internal/strconv.uint64pow10" (tabData .u64 Lib.pow10Tab) := ten_eq ▸ Lib.laidMet.reads h (List.mem_of_getElem? (i := 8) rfl)
 refine ⟨p10_of hp, ?_, reads_lt gP hp, reads_lt gN hn⟩
 obtain ⟨g, t, cs, fuel, p, hg, hty, hvar, hd⟩ := hn
 obtain rfl := Option.some.inj (gN.symm.trans hg)
 obtain rfl := Option.some.inj (yN.symm.trans hty)
 have hcs := cells_of_tab Tryz.underlying168 Tryz.underlying37 c64 cN hd
 unfold Ten TabIs
 rw [hvar, ← hcs]
section
variable {H : Type} {enc : TypeId × Value → H} {P : Program} {w : World} {base : Nat} {spare : Nat → Bool} {held : Bool}
theorem trod_float {t : TypeId} {fuel : Nat} {cs : List Value} {x : DataW H × List MemPlace} {k : FloatKind} (ht : P.underlying t = some (.float k)) (h : DataW.trod enc P w base spare held fuel t cs = some x) : ∃ b, cs = [.float k b] ∧ x = (.lit (.float k b), []) := by
 cases fuel with
 | zero => simp [DataW.trod] at h
 | succ n =>
  unfold DataW.trod at h
  rw [ht] at h
  split at h <;> simp_all
end
theorem tens_eq : (Rows.laid_internal_strconv_float64pow10 : DataW Unit) = .slice (Fl.tenWords64.map fun x => .lit (.float .f64 x)) [] := by kernel_rfl
theorem tens_len : Fl.tenWords64.length = 23 := by decide
set_option maxRecDepth 100000 in
theorem te64 {W : World} (h : laidMetH Tryz.prog Rows.fnMsgDefaultsRow.laid W) : ∃ b off, TE64 b off W := by
 rw [MakeChecks.laidMetH_plain _ _ _ plainLaid] at h
 have hi : VarReads Tryz.prog W "internal/strconv.float64info" Rows.laid_internal_strconv_float64info := Lib.laidMet.reads h (List.mem_of_getElem? (i := 3) rfl)
 have hf : VarReads Tryz.prog W "internal/strconv.float64pow10" (.slice (Fl.tenWords64.map fun x => .lit (.float .f64 x)) []) := tens_eq ▸ Lib.laidMet.reads h (List.mem_of_getElem? (i := 6) rfl)
 have info : W.cell? ⟨7, 0, none⟩ = some (.int .u64 52) := by
  obtain ⟨g, t, cs, fuel, p, hg, hty, hvar, hd⟩ := hi
  obtain rfl := Option.some.inj (gI.symm.trans hg)
  obtain rfl := Option.some.inj (yI.symm.trans hty)
  · obtain ⟨xs, _, _, hx, _, hl, hfs⟩ := DataW.trod_struct Tryz.underlying230 hd
    have hx0 := congrArg Prod.fst hx
    simp only [Rows.laid_internal_strconv_float64info, DataW.agg.injEq] at hx0
    have h0 := hfs 0 _ rfl
    obtain ⟨y, hy⟩ : ∃ y, xs[0]? = some y := ⟨xs[0]'(by rw [hl]; decide), List.getElem?_eq_getElem _⟩
    rw [hy] at h0
    obtain ⟨n, hc, hyn, _⟩ := DataW.trod_int (k := .u64) (by exact Tryz.underlying37) h0
    have h1 := congrArg (·[0]?) hx0
    simp [hy, hyn] at h1
    subst h1
    have h2 := congrArg (·[0]?) hc
    simp [List.getElem?_take] at h2
    rw [World.var?_cell hg hvar 0]
    simpa using h2.2
 obtain ⟨g, t, cs, fuel, p, hg, hty, hvar, hd⟩ := hf
 obtain rfl := Option.some.inj (gF.symm.trans hg)
 obtain rfl := Option.some.inj (yF.symm.trans hty)
 rcases DataW.trod_slice Tryz.underlying268 hd with ⟨_, hx⟩ | ⟨a, len, cap, el, rs, m, rfl, hcs, hx, _, hlc, _, hel, helem, hsp, _⟩
 · cases hx
 have e0 := congrArg Prod.fst hx
 simp only [DataW.slice.injEq] at e0
 obtain ⟨eE, eR⟩ := e0
 have hlen : len = 23 := by
  have := congrArg List.length eE
  simp [tens_len] at this
  omega
 have hcap : cap = 23 := by
  have h1 := (hsp rfl).1
  have h2 := congrArg List.length eR
  simp at h2
  omega
 have hcell : ∀ i, i < 23 → W.cell? (a.add i) = some (.float .f64 (Fl.tenWords64.getD i 0)) := by
  intro i hi
  have h1 := helem i (by omega)
  rw [cF] at h1
  obtain ⟨b, hb⟩ : ∃ b, el[i]? = some b := ⟨el[i]'(by omega), List.getElem?_eq_getElem (by omega)⟩
  rw [hb] at h1
  obtain ⟨ce, hce, hte⟩ := Option.bind_eq_some_iff.1 h1
  obtain ⟨z, hz, hbz⟩ := trod_float Tryz.underlying83 hte
  have hi' : i < Fl.tenWords64.length := by rw [tens_len]; exact hi
  have hb1 : b.1 = .lit (.float .f64 (Fl.tenWords64.getD i 0)) := by
   have := congrArg (·[i]?) eE
   simp only [List.getElem?_map, hb, List.getElem?_eq_getElem hi', Option.map_some, Option.some.injEq] at this
   rw [List.getD, List.getElem?_eq_getElem hi']
   exact this.symm
  rw [hbz] at hb1
  simp only [DataW.lit.injEq, Lit.float.injEq, true_and] at hb1
  obtain ⟨_, _, hcc⟩ := World.cells?_some hce
  have := hcc 0 (by omega)
  rw [hz] at this
  simp only [Nat.mul_one] at this
  have e1 : (a.add i).add 0 = a.add i := by simp [Addr.add]
  rw [e1] at this
  rw [this, ← hb1]
  rfl
 obtain ⟨R, o, sR⟩ := a
 obtain rfl : sR = none := by
  have h00 := hcell 0 (by decide)
  have : (Addr.add ⟨R, o, sR⟩ 0) = ⟨R, o, sR⟩ := by simp [Addr.add]
  rw [this] at h00
  exact Go.Proofs.cell_spot h00
 refine ⟨R, o, info, ?_, fun j hj => ?_⟩
 · rw [World.var?_cell hg hvar 0, ← Array.getElem?_toList, hcs, hlen, hcap]
   rfl
 · have := hcell j hj
   rwa [Addr.add_lit] at this
theorem dtabs {W : World} (h : laidMetH Tryz.prog Rows.fnMsgDefaultsRow.laid W) : ∃ b off, DTabs PTab b off W := by
 obtain ⟨b, off, he⟩ := te64 h
 have hF := ft2 h
 have hT := tabs h
 rw [MakeChecks.laidMetH_plain _ _ _ plainLaid] at h
 have ho : VarReads Tryz.prog W "internal/strconv.optimize" Rows.laid_internal_strconv_optimize := Lib.laidMet.reads h (List.mem_of_getElem? (i := 4) rfl)
 refine ⟨b, off, hF, ⟨he, hF.p10, hF.size.1, ?_⟩, hT⟩
 obtain ⟨g, t, cs, fuel, p, hg, hty, hvar, hd⟩ := ho
 obtain rfl := Option.some.inj (gO.symm.trans hg)
 obtain rfl := Option.some.inj (yO.symm.trans hty)
 obtain ⟨q, hc, hx⟩ := DataW.trod_bool Tryz.underlying4 hd
 have hq := congrArg Prod.fst hx
 simp only [Rows.laid_internal_strconv_optimize, DataW.lit.injEq, Lit.bool.injEq] at hq
 subst hq
 rw [World.var?_cell hg hvar 0, ← Array.getElem?_toList, hc]
 rfl
end Go.Proofs.YtonegoemmologaaGreatDoor.fnMsgDefaults
