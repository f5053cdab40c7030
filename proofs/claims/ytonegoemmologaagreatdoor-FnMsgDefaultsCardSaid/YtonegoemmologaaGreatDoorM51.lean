/-
  PROVED: each value of a message, written as a default value in either form, is read as the value (a number of 32 bits may be the next one): laws.FnMsgDefaults answers true for every input, and its arguments read behind the call as they read before. CONDITIONS: those of the given row: the listed package-level variables hold what the program's text lays; the card ties them to it (the tie is given). No other condition.
-/
import Derived.Test.YtonegoemmologaaGreatDoorCards
import Derived.Test.YtonegoemmologaaGreatDoorTie
import Derived.Test.YtonegoemmologaaGreatDoorM48
import Derived.Test.YtonegoemmologaaGreatDoorM49
import Derived.Test.YtonegoemmologaaGreatDoorM50
set_option linter.unusedVariables false
set_option linter.unusedSimpArgs false
namespace Go.Proofs.YtonegoemmologaaGreatDoor.fnMsgDefaults
open Go.ChangeShapes Go.WideShapes Go.ChangeAt Go.RowKit Go.Lib Go.Joins
theorem own : ownKnob Tryz.prog.godebug = none := by kernel_rfl
theorem laidOut : laidOutB Tryz.prog = true := by kernel_rfl
theorem def_any (PT : Nat → Nat × Nat) (hPT : PTOk PT) (B off : Nat) (x y : Value) (S : Sch) : ∀ (tag : Bool) (d : Nat), DSay PT B off x y S tag d
 | _, 0 => fun _ _ _ _ _ hm _ _ _ => absurd hm (by unfold MsgAt; exact id)
 | tag, d + 1 => def_succ PT hPT B off x y S tag d (def_any PT hPT B off x y S tag d)
set_option maxRecDepth 1000000 in
theorem contract (H : Type) (enc : TypeId × Value → H) (W : World) (base : Nat) (args : Array Value) (ds gs : List (DataW H)) (before : List MemPlace)
 (hval0 : ∀ (j : Nat) t v, Tryz.f3.params[j]? = some t → args[j]? = some v → Value.okWide Tryz.prog W .any base t v)
 (hW : DataW.Whole enc Tryz.prog Tryz.f3.params.toList Rows.fnMsgDefaultsSpec.vars false W args.toList ds gs before) (hL : laidMetH Tryz.prog Rows.fnMsgDefaultsRow.laid W) :
 Calls Tryz.prog 3 args W fun e W' => ∃ v, e = .returned v ∧ Rows.fnMsgDefaultsSpec.post enc Tryz.prog Tryz.f3 false true false false W args v W' := by
 have hval : ∀ (j : Nat) t v, Tryz.f3.params[j]? = some t → args[j]? = some v → Value.okWide Tryz.prog W .any base t v := hval0
 have hW' := hW
 obtain ⟨p, q, hA0, hV, rfl, _, _⟩ := hW
 have hA : DataW.TrodAll enc Tryz.prog W 0 (fun _ => true) true Tryz.f3.params.toList args.toList ds p := hA0
 rw [Tryz.params3] at hA hval
 obtain ⟨v0, vs0, d0, ds0, p0, q0, hargs, rfl, rfl, h0, r0⟩ := trodAll_cons hA
 obtain ⟨v1, vs1, d1, ds1, p1, q1, rfl, rfl, rfl, h1, r1⟩ := trodAll_cons r0
 obtain ⟨v2, vs2, d2, ds2, p2, q2, rfl, rfl, rfl, h2, r2⟩ := trodAll_cons r1
 obtain ⟨v3, vs3, d3, ds3, p3, q3, rfl, rfl, rfl, h3, r3⟩ := trodAll_cons r2
 obtain ⟨rfl, rfl, rfl⟩ := trodAll_nil r3
 obtain rfl : args = #[v0, v1, v2, v3] := by cases args; simp_all
 obtain ⟨rfl, rfl⟩ := trodVars_none hV
 simp only [List.append_nil] at hW'
 have hlt : ∀ x ∈ p0 ++ (p1 ++ (p2 ++ p3)), x.block < W.heap.size := fun x hx => by simpa using hW'.lt x (by simpa using hx)
 obtain ⟨x, y, y0, y1, m, rfl, hd0, -, hy0, hy1⟩ := open_agg2 Tryz.underlying25 (by kernel_rfl) (show Tryz.prog.cellsOf 25 = 2 by kernel_rfl) (hval 0 _ v0 rfl rfl) h0
 obtain ⟨x', ms, e0, hms, hmb⟩ := open_mts hy0
 obtain ⟨y', es, e1, hes, heb⟩ := open_ets hy1
 cases e0
 cases e1
 have hN : NumsOk ⟨ms, es⟩ := fun e he => (heb e he).2
 obtain ⟨t, rfl, -, -, -⟩ := open_int Tryz.underlying3 (hval 1 _ v1 rfl rfl) h1
 obtain ⟨tag, rfl, -, -⟩ := open_bool Tryz.underlying4 (hval 3 _ v3 rfl rfl) h3
 obtain ⟨a2, n2, c2, rfl⟩ := okWide_slice Tryz.underlying26 (hval 2 _ v2 rfl rfl)
 obtain ⟨fuel2, hf2⟩ := h2
 obtain ⟨u2, fs, e2, hm2, hl2⟩ := open_msg fuel2 (Nat.le_refl _) hf2
 simp only [Value.cells, List.cons.injEq, and_true] at e2
 subst e2
 have hb2 : MBound (fuel2 / 4 + 1) fs := hl2.bound
 obtain ⟨B0, o0, hT⟩ := dtabs hL
 refine (def_any PTab ptok B0 o0 x y ⟨ms, es⟩ tag _ W t _ fs ⟨hms, hes⟩ hm2 hb2 hT hN).mono fun e W' ⟨he, hk⟩ => ?_
 subst he
 have hb : Below W.heap.size W W' := hk.below (fun _ _ => id)
 have kp : ∀ {t : TypeId} {v : Value} {d : DataW H} {ps : List MemPlace}, Tryz.prog.readableRec t = true → t < Tryz.prog.types.size → DataW.Trod enc Tryz.prog W 0 (fun _ => true) true t v d ps → (∀ x ∈ ps, x ∈ p0 ++ (p1 ++ (p2 ++ p3))) →
  DataW.Trod enc Tryz.prog W' 0 (fun b => decide (b < W.heap.size)) true t v d ps := fun hr hs h hx => Below.trod laidOut hr hs h hb (fun x hx' => hlt x (hx x hx'))
 exact ⟨_, rfl, _, _, _, [], p0 ++ (p1 ++ (p2 ++ p3)), [], hW', trodAll_mk1 (shut_bool Tryz.underlying4 _),
  trodAll_cons_mk (kp (by kernel_rfl) (of_decide_eq_true (by kernel_rfl)) h0 (fun x hx => by simp [hx]))
   (trodAll_cons_mk (kp (by kernel_rfl) (of_decide_eq_true (by kernel_rfl)) h1 (fun x hx => by simp [hx]))
    (trodAll_cons_mk (kp (by kernel_rfl) (of_decide_eq_true (by kernel_rfl)) ⟨fuel2, hf2⟩ (fun x hx => by simp [hx]))
     (trodAll_mk1 (kp (by kernel_rfl) (of_decide_eq_true (by kernel_rfl)) h3 (fun x hx => by simp [hx]))))), rfl, hb.frame _, fun h => by cases h⟩
def wArgs : Array Value := #[.agg #[.slice none 0 0, .slice none 0 0], .int .i64 0, .slice none 0 0, .bool false]
set_option maxRecDepth 100000 in
theorem lifted (os : Os) (started : os.Started) (H : Type) (enc : TypeId × Value → H) :
 ReturnsInHanded {} Tryz.checked os 3 .any (fun w args => (Rows.fnMsgDefaultsSpec.pre enc Tryz.prog Tryz.f3 [] false w args ∧ laidMetH Tryz.prog Rows.fnMsgDefaultsRow.laid w) ∧ sizedMet enc Tryz.prog Tryz.f3 (OpenSpec.ofChange Rows.fnMsgDefaultsSpec) false w args)
  (Rows.fnMsgDefaultsSpec.post enc Tryz.prog Tryz.f3 false true false false) := by
 refine returnsInHanded_of_change_and (C := Tryz.checked) (X := fun w _ => laidMetH Tryz.prog Rows.fnMsgDefaultsRow.laid w) (fun _ _ _ hh h => h.of_heap hh) own started (by kernel_rfl) Tryz.func3
  (ChangeSpec.witness_shaped (enc := enc) (C := Tryz.checked) (os := os) (X := fun w _ => laidMetH Tryz.prog Rows.fnMsgDefaultsRow.laid w) false (World.laidAll Tryz.prog os Rows.fnMsgDefaultsRow.laid) wArgs 8 (World.laidAll_os _ _ _)
   (World.shaped_of_ZipB (by kernel_rfl) (by kernel_rfl)) (by kernel_rfl) (by kernel_rfl) (by kernel_rfl)
   (by rw [MakeChecks.laidMetH_plain _ _ _ plainLaid]; exact laidMet_laidAll _ (by kernel_rfl) (by kernel_rfl))) ?_
 intro W base args ds gs before hval hW _ _ hL _
 exact contract H enc W base args ds gs before hval hW hL
theorem said : Rows.FnMsgDefaultsSaid :=
 OpenClaim.holds_of_wide 3 Tryz.f3 rfl rfl rfl rfl rfl rfl rfl ⟨rfl, rfl, rfl, rfl, rfl⟩ rfl rfl rfl rfl rfl (by kernel_rfl) Tryz.func3 (by kernel_rfl)
  (of_decide_eq_true (by kernel_rfl)) (by unfold Func.isWrapper; first | (rw [if_pos (by decide +kernel)]; kernel_rfl) | (rw [if_neg (by decide +kernel)]; exact ⟨rfl, rfl⟩))
  (fun os started H enc _ => lifted os started H enc)
theorem plain (f : FuncId) (fn : Func) (hf : Tryz.pinned.checked.prog.funcNamed "pub-rescript/laws.FnMsgDefaults" = some f) (hfn : Tryz.pinned.checked.prog.funcs[f]? = some fn) :
 true = Tryz.pinned.checked.prog.looks [] ∧ ∀ (j : Nat) t, fn.params[j]? = some t → Tryz.pinned.checked.prog.wantsStandIn t = false := by
 obtain rfl : f = 3 := Option.some.inj ((show Tryz.prog.funcNamed "pub-rescript/laws.FnMsgDefaults" = some 3 by kernel_rfl).symm.trans hf) |>.symm
 obtain rfl : fn = Tryz.f3 := (Option.some.inj (Tryz.func3.symm.trans hfn)).symm
 refine ⟨by kernel_rfl, fun j t ht => ?_⟩
 rw [Tryz.params3] at ht
 have h := Array.mem_of_getElem? ht
 have k1 : Tryz.prog.wantsStandIn 25 = false := by kernel_rfl
 have k2 : Tryz.prog.wantsStandIn 3 = false := by kernel_rfl
 have k3 : Tryz.prog.wantsStandIn 26 = false := by kernel_rfl
 have k4 : Tryz.prog.wantsStandIn 4 = false := by kernel_rfl
 simp only [List.mem_toArray, List.mem_cons, List.not_mem_nil, or_false] at h
 rcases h with rfl | rfl | rfl | rfl
 · exact k1
 · exact k2
 · exact k3
 · exact k4
theorem card : Rows.FnMsgDefaultsCardSaid :=
 Claim7.holds_tied_plain_at .later [] _ _ _ _ said (fun _ h => by cases h) (by kernel_rfl) (fun _ h => by cases h) fnMsgDefaults_row_tie rfl ⟨rfl, rfl⟩ (by kernel_rfl) rfl plain (by kernel_rfl)
#print axioms card
end Go.Proofs.YtonegoemmologaaGreatDoor.fnMsgDefaults
