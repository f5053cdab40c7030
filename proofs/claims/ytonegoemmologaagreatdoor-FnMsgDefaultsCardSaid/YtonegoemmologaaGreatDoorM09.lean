/-
  The thin package's enum: its values, by number and by name.
  What a parser gathers: a piece of its input without room, or a row of its own.
  consume of the text form, at input whose first byte behind the blanks opens no comment; (*Decoder).consume.
-/
import Derived.Test.YtonegoemmologaaGreatDoorM08
import Derived.Test.YtonegoemmologaaGreatDoorM01
import Derived.Laws.AppendOwn
import Derived.Deep.RegionLaw
import Derived.Deep.DeepCutAuto
import Derived.Test.YtonegoemmologaaGreatDoorM02
set_option linter.unusedVariables false
set_option linter.unusedSimpArgs false
namespace Go.Proofs.YtonegoemmologaaGreatDoor
open Go.RowKit
structure EV where
 name : ByteArray
 num : Int
def evc (e : EV) : List Value := [.string e.name, .int .i32 e.num]
def evv (e : EV) : Value := .agg #[.string e.name, .int .i32 e.num]
def evC (l : List EV) : List Value := (l.map evc).flatten
theorem evC_length : ∀ l : List EV, (evC l).length = l.length * 2
 | [] => rfl
 | o :: r => by
  have h := evC_length r
  unfold evC at h ⊢
  rw [List.map_cons, List.flatten_cons, List.length_append, h, List.length_cons]
  simp [evc]
  omega
theorem evC_append (l r : List EV) : evC (l ++ r) = evC l ++ evC r := by simp [evC]
theorem evC_get : ∀ (l : List EV) (j i : Nat) (hj : j < l.length) (u : Value), i < 2 → (evc l[j])[i]? = some u → (evC l)[j * 2 + i]? = some u
 | o :: r, 0, i, _, u, hi, h => by
  have h1 : (evc o).length = 2 := rfl
  show (evc o ++ evC r)[0 * 2 + i]? = some u
  rw [List.getElem?_append_left (by omega)]
  simpa using h
 | o :: r, j + 1, i, hj, u, hi, h => by
  have h1 : (evc o).length = 2 := rfl
  show (evc o ++ evC r)[(j + 1) * 2 + i]? = some u
  rw [List.getElem?_append_right (by omega), h1, show (j + 1) * 2 + i - 2 = j * 2 + i by omega]
  exact evC_get r j i (by simpa using hj) u hi (by simpa using h)
theorem evC_one (l : List EV) : ∀ u ∈ evC l, u.oneCell' = true := by
 intro u hu
 simp only [evC, List.mem_flatten, List.mem_map] at hu
 obtain ⟨l, ⟨o, _, rfl⟩, hu⟩ := hu
 simp only [evc, List.mem_cons, List.not_mem_nil, or_false] at hu
 rcases hu with rfl | rfl <;> rfl
def EOwn (base : Nat) (w : World) (v : Value) (l : List EV) : Prop := w.ownsRow base 67 2 v l.length (evC l)
theorem EOwn.nil (base : Nat) (w : World) : EOwn base w (.slice none 0 0) [] := World.ownsRow_nil _ _ _ _
def EVsAt (w : World) (v : Value) (l : List EV) : Prop := RowsAt w v 2 (l.map evc)
theorem EVsAt.keeps {w w' : World} {v : Value} {l : List EV} (h : EVsAt w v l) (hk : Keeps (fun _ => False) w w') : EVsAt w' v l := RowsAt.keeps h hk (fun _ _ => id)
theorem EVsAt.len {w : World} {v : Value} {l : List EV} (h : EVsAt w v l) : ∃ a c, v = .slice a l.length c ∧ l.length ≤ c ∧ c ≤ maxLen := by
 obtain ⟨a, c, h0, h1, h2⟩ := RowsAt.form h
 rw [List.length_map] at h0 h1
 exact ⟨a, c, h0, h1, h2⟩
theorem EVsAt.cells {w : World} {a : Option Addr} {n c : Nat} {l : List EV} (h : EVsAt w (.slice a n c) l) (h0 : l ≠ []) : ∃ b off, a = some ⟨b, off, none⟩ ∧ ∀ j (hj : j < l.length), w.cell? ⟨b, off + j * 2, none⟩ = some (.string l[j].name) ∧ w.cell? ⟨b, off + j * 2 + 1, none⟩ = some (.int .i32 l[j].num) := by
 obtain ⟨b, off, rfl, hc⟩ := RowsAt.at h (by simpa using h0)
 refine ⟨b, off, rfl, fun j hj => ⟨?_, ?_⟩⟩
 · have := hc j (by simpa using hj) 0 _ (by omega) (by rw [List.getElem_map]; rfl)
   exact this
 · exact hc j (by simpa using hj) 1 _ (by omega) (by rw [List.getElem_map]; rfl)
theorem EOwn.at {base : Nat} {w : World} {v : Value} {l : List EV} (h : EOwn base w v l) : EVsAt w v l := by
 obtain ⟨_, h1⟩ := h
 rcases h1 with ⟨hv, hn⟩ | ⟨g, cap, cur, hv, hb, hg, hn, hm, hs, ht⟩
 · have : l = [] := List.eq_nil_of_length_eq_zero hn
   subst this hv
   exact ⟨none, 0, rfl, Nat.le_refl _, Nat.zero_le _, .inl rfl⟩
 · subst hv
   refine ⟨_, cap, by rw [List.length_map], by rw [List.length_map]; exact hn, hm, .inr ⟨g, 0, rfl, fun j hj i u hi hu => ?_⟩⟩
   rw [List.getElem_map] at hu
   have h2 := evC_get l j i (by simpa using hj) u hi hu
   rw [← ht, List.getElem?_take] at h2
   rw [Nat.zero_add, cell_of_row w g (j * 2 + i) cur _ (0, 0) hg]
   split at h2
   · simpa using h2
   · cases h2
theorem EOwn.keeps {base : Nat} {S : Nat → Prop} {w w' : World} {v : Value} {l : List EV} (h : EOwn base w v l) (hk : Keeps S w w') (hn : ∀ k, v.ownBlock = some k → ¬ S k) : EOwn base w' v l := by
 obtain ⟨h0, h1⟩ := h
 refine ⟨h0, ?_⟩
 rcases h1 with h1 | ⟨g, cap, cur, hv, hb, hg, h2⟩
 · exact .inl h1
 · exact .inr ⟨g, cap, cur, hv, hb, hk.row hg (hn g (by rw [hv]; rfl)), h2⟩
theorem infoEV : (Tryz.prog.info? 67).map (fun i => (i.zero, i.size, i.bytes)) = some (some (.agg #[.string ⟨#[]⟩, .int .i32 0]), 2, 24) := by kernel_rfl
theorem run_ev_lit (ty : TypeId) (base : Nat) (w : World) {v : Value} {l : List EV} (e : EV) (h : EOwn base w v l) (hb : l.length + 1 ≤ 1000000000) (hbase : base ≤ w.heap.size) :
 ∃ v' w', (Builtin.append_ #[61, 61] ty #[v, .slice (some ⟨w.heap.size, 0, none⟩) 1 1]).run Tryz.prog (w.alloc (.cells #[.string e.name, .int .i32 e.num] 67)) = .ok v' w' ∧ EOwn base w' v' (l ++ [e]) ∧ Keeps (fun j => base ≤ j) w w' := by
 obtain ⟨i0, hi, hz0, hz1, hz2⟩ := info_parts infoEV
 have hk0 : Keeps (fun _ => False) w (w.alloc (.cells #[.string e.name, .int .i32 e.num] 67)) := (Keeps.refl _ w).alloc _
 have hrow : (w.alloc (.cells #[.string e.name, .int .i32 e.num] 67)).heap[w.heap.size]? = some (.cells #[.string e.name, .int .i32 e.num] 67 (0, 0)) := heap_alloc_new w _
 have h' := h.keeps hk0 (fun _ _ => id)
 have hlt := World.ownsRow.lt h'
 have hnews : ∀ j u, (evC [e])[j]? = some u → (w.alloc (.cells #[.string e.name, .int .i32 e.num] 67)).cell? ((⟨w.heap.size, 0, none⟩ : Addr).add j) = some u := by
  intro j u hu
  rw [Addr.add_lit, Nat.zero_add, cell_row hrow]
  simpa [evC, evc] using hu
 obtain ⟨v', w', hrun, ho, hg, _⟩ := run_append_own (w.alloc (.cells #[.string e.name, .int .i32 e.num] 67)) base 61 ty 67 i0 _ 2 24 Tryz.underlying61 hi hz0 hz1 hz2 rfl (by omega) v l.length (evC l) h' ⟨w.heap.size, 0, none⟩ 1 1 (evC [e]) (evC_length [e]) hnews (evC_one [e]) (by unfold maxLen; omega) (by omega) (Nat.le_trans hbase hk0.size)
 refine ⟨v', w', hrun, ?_, ?_⟩
 · unfold EOwn
   rw [List.length_append, evC_append]
   exact ho
 · exact (hk0.mono (S1 := fun j => base ≤ j) (fun _ _ h => h.elim)).trans ⟨hg.os, hg.tape, hg.output, hg.size, fun k hk hn => hg.block k hk (fun e => hn (hlt k e.symm).1)⟩ (fun _ _ h => h)
section
variable {ops : Array Oper} {o : Oper} {a : Act} {Q : Exit → Act → World → Prop} {w : World} {K : Act → World → Prop} {E : Prop}
theorem step_ev_lit {base : Nat} {v : Value} {l : List EV} (h : EOwn base w v l) (s x : Operand) (e : EV) (hb : l.length + 1 ≤ 1000000000) (hbase : base ≤ w.heap.size)
 (hgd : o.guard = none) (ho : o.op = .call { callee := .builtin .append, args := #[s, x], argTypes := #[61, 61] }) (hs : a.eval s = v) (hx : a.eval x = .slice (some ⟨w.heap.size, 0, none⟩) 1 1)
 (hk : ∀ v' w', EOwn base w' v' (l ++ [e]) → Keeps (fun j => base ≤ j) w w' → K (a.put o.dst v') w') :
 if Region.wanted o (yielded ops a.tmps) = true then Oper.wp Tryz.prog o a (w.alloc (.cells #[.string e.name, .int .i32 e.num] 67)) K Q else E := by
 rw [if_pos (by simp [Region.wanted, hgd])]
 obtain ⟨v', w', hr, h2, h3⟩ := run_ev_lit o.type base w e h hb hbase
 unfold Oper.wp execOp
 simp only [ho, resolve, invoke, builtin, Sem.run_bind, Sem.run_pure, Result.andThen_ok, List.map_toArray, List.map_cons, List.map_nil, hs, hx, hr]
 exact hk v' w' h2 h3
end
def evs (names : List ByteArray) (numbers : List Int) : List EV := List.zipWith EV.mk names numbers
def natOfE : Value → Nat
 | .int _ n => n.toNat
 | _ => 0
def EnRel (names : List ByteArray) (numbers : List Int) (w : World) (s i : Value) (wr : World) : Prop := ∃ k : Nat, i = .int .i64 (k : Int) ∧ k ≤ names.length ∧ EOwn w.heap.size wr s ((evs names numbers).take k) ∧ Keeps (fun _ => False) w wr
set_option maxRecDepth 1000000 in
set_option maxHeartbeats 8000000 in
theorem enum_any (nv uv : Value) (names : List ByteArray) (numbers : List Int) (hl : names.length = numbers.length) (hb : names.length ≤ 100000000) (w : World) (h1 : StrRows w nv names) (h2 : I32Rows w uv numbers) :
 Calls Tryz.prog 17 #[nv, uv] w fun e w' => (∃ V, e = .returned V ∧ EVsAt w' V (evs names numbers)) ∧ Keeps (fun _ => False) w w' := by
 obtain ⟨a, c, rfl, hca, hma⟩ := h1.len
 obtain ⟨a2, c2, rfl, hca2, hma2⟩ := h2.len
 obtain ⟨N, hN⟩ : ∃ n, numbers.length = n := ⟨_, rfl⟩
 rw [hl] at h1 hca hb ⊢
 rw [hN] at hca hca2 h1 h2 hb ⊢
 have hlN : names.length = N := by rw [hl, hN]
 have HN := Lib.hid hN
 have HLN := Lib.hid hlN
 have H1 := Lib.hid h1
 have H2 := Lib.hid h2
 have HB := Lib.hid hb
 unfold maxLen at hma hma2
 clear hl hN hlN h1 h2 hb hma hma2
 go_enter Tryz.func17, Tryz.ntmps17
 go_wp2_with (fail)
 go_loopw [5, 6] (fun s i wr => EnRel names numbers w s i wr) (fun _ i _ => N - natOfE i)
 case atStart => exact ⟨0, rfl, Nat.zero_le _, by rw [List.take_zero]; exact EOwn.nil _ _, Keeps.refl _ _⟩
 case round =>
  obtain ⟨k, rfl, hk, ho, hkk⟩ := hrel
  rw [HLN.out] at hk
  have HO := Lib.hid ho
  have HK := Lib.hid hkk
  clear ho hkk
  by_cases hlt : k < N
  · have t1 : (k : Int) < (N : Int) := by omega
    have t0 : (0 : Int) ≤ (k : Int) := by omega
    have hwk : IntKind.i64.wrap ((k : Int) + 1) = ((k + 1 : Nat) : Int) := by have := HB.out; rw [IntWalk.i64_in _ (by omega)]; rfl
    have hkn : k < names.length := by rw [HLN.out]; exact hlt
    have hku : k < numbers.length := by rw [HN.out]; exact hlt
    obtain ⟨b, off, rfl, hc⟩ := StrRows.cells H1.out (by intro e; rw [e] at hkn; simp at hkn)
    obtain ⟨b2, off2, rfl, hc2⟩ := I32Rows.cells H2.out (by intro e; rw [e] at hku; simp at hku)
    have d0 := HK.out.drew.cell (hc k hkn) id
    have d1 := HK.out.drew.cell (hc2 k hku) id
    obtain ⟨X, hX⟩ : ∃ X, names[k] = X := ⟨_, rfl⟩
    obtain ⟨Y, hY⟩ : ∃ Y, numbers[k] = Y := ⟨_, rfl⟩
    have hev : (evs names numbers).take (k + 1) = (evs names numbers).take k ++ [⟨X, Y⟩] := by
     have hkl : k < (evs names numbers).length := by simp [evs]; omega
     rw [List.take_succ_eq_append_getElem hkl]
     congr 2
     simp [evs, hX, hY]
    rw [hX] at d0
    rw [hY] at d1
    have HEV := Lib.hid hev
    have HD : Hid (EOwn w.heap.size wr.drew u5 ((evs names numbers).take k)) := HO.out.keeps ((Keeps.refl (fun _ => False) wr).drew) (fun _ _ => id)
    have HKD : Hid (w.heap.size ≤ wr.drew.heap.size) := HK.out.drew.size
    have HLK : Hid (((evs names numbers).take k).length + 1 ≤ 1000000000) := by show _ ≤ _; have := HB.out; rw [List.length_take]; omega
    clear hc hc2 hX hY hkn hku hev
    go_wp2_with (fail)
    go_region_law (refine step_ev_lit HD.out (.tmp 19) (.tmp 29) ⟨X, Y⟩ HLK.out HKD.out rfl rfl (by simp [Act.eval, Act.put]) (by simp [Act.eval, Act.put]) ?_; intro v7 w7 o7 k7)
    all_goals
     have O7 := Lib.hid o7
     have K7 : Hid (Keeps (fun _ => False) w w7) := (HK.out.drew).trans k7 (fun i hi h => by omega)
     clear o7 k7
     try go_simp
     try go_wp2
     try go_roundw
    all_goals first
     | exact ⟨⟨k + 1, rfl, by have := HLN.out; omega, by rw [HEV.out]; exact O7.out, K7.out⟩, by simp [natOfE]; omega⟩
     | exact ⟨k + 1, rfl, by have := HLN.out; omega, by rw [HEV.out]; exact O7.out, K7.out⟩
     | (simp [natOfE]; omega)
  · have t1 : ¬ (k : Int) < (N : Int) := by omega
    obtain rfl : k = N := by omega
    go_wp2_with (fail)
    go_ret
    refine ⟨⟨_, rfl, ?_⟩, HK.out⟩
    have := HO.out.at
    rwa [List.take_of_length_le (by simp [evs]; have := HN.out; have := HLN.out; omega)] at this
def evF (p : EV → Bool) (l : List EV) : Value := match l.find? p with
 | some e => .iface 67 (evv e)
 | none => .nilIface
theorem evF_at (p : EV → Bool) (l : List EV) (j : Nat) (h : j < l.length) : evF p (l.drop j) = if p l[j] = true then .iface 67 (evv l[j]) else evF p (l.drop (j + 1)) := by
 unfold evF
 rw [List.drop_eq_getElem_cons h, List.find?_cons]
 cases p l[j] <;> simp
theorem evF_end (p : EV → Bool) (l : List EV) (j : Nat) (h : l.length ≤ j) : evF p (l.drop j) = .nilIface := by
 rw [List.drop_eq_nil_of_le h]; rfl
set_option maxRecDepth 1000000 in
set_option maxHeartbeats 8000000 in
theorem byNumber_any (v : Value) (l : List EV) (x : Int) (hb : l.length ≤ 100000000) (w : World) (hv : EVsAt w v l) :
 Calls Tryz.prog 18 #[v, (.int .i32 x)] w fun e w' => e = .returned (evF (fun e => e.num == x) l) ∧ Keeps (fun _ => False) w w' := by
 obtain ⟨a, c, rfl, hca, hma⟩ := hv.len
 obtain ⟨N, hN⟩ : ∃ n, l.length = n := ⟨_, rfl⟩
 rw [hN] at hv hca hb ⊢
 have HN := Lib.hid hN
 have H1 := Lib.hid hv
 have HB := Lib.hid hb
 obtain ⟨r, hr⟩ : ∃ r, evF (fun e => e.num == x) l = r := ⟨_, rfl⟩
 rw [hr]
 have HR := Lib.hid hr
 unfold maxLen at hma
 clear hN hv hb hr hma
 go_enter Tryz.func18, Tryz.ntmps18
 go_wp2_with (fail)
 go_loopw [9] (fun i wr => ∃ j : Nat, i = .int .i64 (j : Int) ∧ j ≤ N ∧ evF (fun e => e.num == x) (l.drop j) = r ∧ Keeps (fun _ => False) w wr) (fun i _ => N - natOfE i)
 case atStart => exact ⟨0, rfl, Nat.zero_le _, by rw [List.drop_zero]; exact HR.out, Keeps.refl _ _⟩
 case round =>
  obtain ⟨j, rfl, hj, hen, hkk⟩ := hrel
  have HEN := Lib.hid hen
  have HK := Lib.hid hkk
  clear hen hkk
  by_cases hlt : j < N
  · have t1 : (j : Int) < (N : Int) := by omega
    have t0 : (0 : Int) ≤ (j : Int) := by omega
    have hwj : IntKind.i64.wrap ((j : Int) + 1) = ((j + 1 : Nat) : Int) := by have := HB.out; rw [IntWalk.i64_in _ (by omega)]; rfl
    have hjl : j < l.length := by rw [HN.out]; exact hlt
    obtain ⟨b, off, rfl, hc⟩ := EVsAt.cells H1.out (by intro e; rw [e] at hjl; simp at hjl)
    have d0 := HK.out.cell (hc j hjl).1 id
    have d1 := HK.out.cell (hc j hjl).2 id
    have hstep := evF_at (fun e => e.num == x) l j hjl
    obtain ⟨⟨Y, Z⟩, hX⟩ : ∃ X, l[j] = X := ⟨_, rfl⟩
    rw [hX] at d0 d1 hstep
    rw [HEN.out] at hstep
    have HST := Lib.hid hstep
    clear hc hX hjl hstep
    obtain ⟨q, hq⟩ : ∃ q : Bool, (Z == x) = q := ⟨_, rfl⟩
    skip
    cases q
    · have hres : evF (fun e => e.num == x) (l.drop (j + 1)) = r := by have h := HST.out; rw [if_neg (by simp [hq])] at h; exact h.symm
      have HRES := Lib.hid hres
      clear hres
      go_wp2_with (fail)
      go_roundw
      case rel => exact ⟨j + 1, rfl, by omega, HRES.out, by repeat (first | exact HK.out | apply Keeps.alloc | apply Keeps.setCell)⟩
      case measure => simp [natOfE]; omega
    · have hres : r = .iface 67 (.agg #[.string Y, .int .i32 Z]) := by have h := HST.out; rw [if_pos hq] at h; exact h
      have HRES := Lib.hid hres
      clear hres
      go_wp2_with (fail)
      go_ret
      refine ⟨by first | rfl | (rw [HRES.out]; rfl), by repeat (first | exact HK.out | apply Keeps.alloc | apply Keeps.setCell)⟩
  · have t1 : ¬ (j : Int) < (N : Int) := by omega
    have hres : r = .nilIface := by rw [← HEN.out]; exact evF_end _ l j (by rw [HN.out]; omega)
    go_wp2_with (fail)
    go_ret
    first | exact ⟨rfl, HK.out⟩ | exact ⟨by rw [hres]; rfl, HK.out⟩
set_option maxRecDepth 1000000 in
set_option maxHeartbeats 8000000 in
theorem byName_any (v : Value) (l : List EV) (x : ByteArray) (hb : l.length ≤ 100000000) (w : World) (hv : EVsAt w v l) :
 Calls Tryz.prog 202 #[v, (.string x)] w fun e w' => e = .returned (evF (fun e => e.name == x) l) ∧ Keeps (fun _ => False) w w' := by
 obtain ⟨a, c, rfl, hca, hma⟩ := hv.len
 obtain ⟨N, hN⟩ : ∃ n, l.length = n := ⟨_, rfl⟩
 rw [hN] at hv hca hb ⊢
 have HN := Lib.hid hN
 have H1 := Lib.hid hv
 have HB := Lib.hid hb
 obtain ⟨r, hr⟩ : ∃ r, evF (fun e => e.name == x) l = r := ⟨_, rfl⟩
 rw [hr]
 have HR := Lib.hid hr
 unfold maxLen at hma
 clear hN hv hb hr hma
 go_enter Tryz.func202, Tryz.ntmps202
 go_wp2_with (fail)
 go_loopw [9] (fun i wr => ∃ j : Nat, i = .int .i64 (j : Int) ∧ j ≤ N ∧ evF (fun e => e.name == x) (l.drop j) = r ∧ Keeps (fun _ => False) w wr) (fun i _ => N - natOfE i)
 case atStart => exact ⟨0, rfl, Nat.zero_le _, by rw [List.drop_zero]; exact HR.out, Keeps.refl _ _⟩
 case round =>
  obtain ⟨j, rfl, hj, hen, hkk⟩ := hrel
  have HEN := Lib.hid hen
  have HK := Lib.hid hkk
  clear hen hkk
  by_cases hlt : j < N
  · have t1 : (j : Int) < (N : Int) := by omega
    have t0 : (0 : Int) ≤ (j : Int) := by omega
    have hwj : IntKind.i64.wrap ((j : Int) + 1) = ((j + 1 : Nat) : Int) := by have := HB.out; rw [IntWalk.i64_in _ (by omega)]; rfl
    have hjl : j < l.length := by rw [HN.out]; exact hlt
    obtain ⟨b, off, rfl, hc⟩ := EVsAt.cells H1.out (by intro e; rw [e] at hjl; simp at hjl)
    have d0 := HK.out.cell (hc j hjl).1 id
    have d1 := HK.out.cell (hc j hjl).2 id
    have hstep := evF_at (fun e => e.name == x) l j hjl
    obtain ⟨⟨Y, Z⟩, hX⟩ : ∃ X, l[j] = X := ⟨_, rfl⟩
    rw [hX] at d0 d1 hstep
    rw [HEN.out] at hstep
    have HST := Lib.hid hstep
    clear hc hX hjl hstep
    obtain ⟨q, hq⟩ : ∃ q : Bool, (Y == x) = q := ⟨_, rfl⟩
    have hq2 : (Y.toList == x.toList) = q := by rw [← beq_toListBytes]; exact hq
    cases q
    · have hres : evF (fun e => e.name == x) (l.drop (j + 1)) = r := by have h := HST.out; rw [if_neg (by simp [hq])] at h; exact h.symm
      have HRES := Lib.hid hres
      clear hres
      go_wp2_with (fail)
      go_roundw
      case rel => exact ⟨j + 1, rfl, by omega, HRES.out, by repeat (first | exact HK.out | apply Keeps.alloc | apply Keeps.setCell)⟩
      case measure => simp [natOfE]; omega
    · have hres : r = .iface 67 (.agg #[.string Y, .int .i32 Z]) := by have h := HST.out; rw [if_pos hq] at h; exact h
      have HRES := Lib.hid hres
      clear hres
      go_wp2_with (fail)
      go_ret
      refine ⟨by first | rfl | (rw [HRES.out]; rfl), by repeat (first | exact HK.out | apply Keeps.alloc | apply Keeps.setCell)⟩
  · have t1 : ¬ (j : Int) < (N : Int) := by omega
    have hres : r = .nilIface := by rw [← HEN.out]; exact evF_end _ l j (by rw [HN.out]; omega)
    go_wp2_with (fail)
    go_ret
    first | exact ⟨rfl, HK.out⟩ | exact ⟨by rw [hres]; rfl, HK.out⟩
end Go.Proofs.YtonegoemmologaaGreatDoor
namespace Go.Proofs.YtonegoemmologaaGreatDoor
open Go.RowKit
structure Buf (D : Nat) (B w : World) (v : Value) (l : List UInt8) : Prop where
 keeps : Keeps (fun _ => False) B w
 form : (∃ a, v = .slice (some a) l.length l.length ∧ a.block ≠ D ∧ BytesAt B v l) ∨ (Own w v l ∧ ∀ k, v.ownBlock = some k → B.heap.size ≤ k)
theorem Buf.bytes {D : Nat} {B w : World} {v : Value} {l : List UInt8} (h : Buf D B w v l) : BytesAt w v l := by
 rcases h.form with ⟨a, _, _, hb⟩ | ⟨ho, _⟩
 · exact hb.keeps h.keeps (fun _ _ => id)
 · exact ho.bytes
theorem Buf.below {D : Nat} {B w w' : World} {v : Value} {l : List UInt8} (h : Buf D B w v l) (hk : Keeps (fun _ => False) w w') : Buf D B w' v l := by
 refine ⟨h.keeps.trans hk (fun _ _ => id), ?_⟩
 rcases h.form with h1 | ⟨ho, h2⟩
 · exact .inl h1
 · exact .inr ⟨ho.below hk, h2⟩
theorem Buf.ne {D : Nat} {B w : World} {v : Value} {l : List UInt8} (h : Buf D B w v l) (hD : D < B.heap.size) : ∀ k, v.ownBlock = some k → k ≠ D := by
 intro k hk
 rcases h.form with ⟨a, rfl, ha, _⟩ | ⟨_, h2⟩
 · simp only [Value.ownBlock, Option.some.injEq] at hk
   subst hk; exact ha
 · have := h2 k hk; omega
theorem Buf.alloc {D : Nat} {B w : World} {v : Value} {l : List UInt8} (h : Buf D B w v l) (o : Obj) : Buf D B (w.alloc o) v l := h.below ((Keeps.refl _ w).alloc o)
theorem Buf.drew {D : Nat} {B w : World} {v : Value} {l : List UInt8} (h : Buf D B w v l) : Buf D B w.drew v l := h.below (Keeps.refl _ w).drew
theorem Buf.app (ty : TypeId) {D : Nat} {B w : World} {v x : Value} {l r : List UInt8} (h : Buf D B w v l) (hx : BytesAt w x r) (hr : r ≠ []) (hb : l.length + r.length ≤ 140737488355328) :
 ∃ v' w', (Builtin.append_ #[72, 72] ty #[v, x]).run Tryz.prog w = .ok v' w' ∧ Buf D B w' v' (l ++ r) := by
 rcases h.form with ⟨a, rfl, _, hb1⟩ | ⟨ho, h2⟩
 · obtain ⟨v', w', hrun, h1, h3, h4⟩ := run_full_app ty w (hb1.keeps h.keeps (fun _ _ => id)) rfl hx hr hb
   exact ⟨v', w', hrun, h.keeps.trans h3 (fun _ _ => id), .inr ⟨h1, fun k hk => Nat.le_trans h.keeps.size (h4 k hk)⟩⟩
 · obtain ⟨v', w', hrun, h1, h3, h4, _⟩ := run_own_app ty w ho hx hb
   refine ⟨v', w', hrun, h.keeps.trans h3 (fun i hi hi2 => absurd (h2 i hi2) (by omega)), .inr ⟨h1, fun k hk => ?_⟩⟩
   rcases h4 k hk with h5 | h5
   · exact h2 k h5
   · exact Nat.le_trans h.keeps.size h5
section
variable {ops : Array Oper} {rest : List Oper} {o : Oper} {a : Act} {Q : Exit → Act → World → Prop} {w : World} {D : Nat} {B : World} {K : Act → World → Prop} {E : Prop}
theorem step_buf_app {v : Value} {l : List UInt8} (h : Buf D B w v l) (s x : Operand) {xv : Value} {r : List UInt8} (hxb : BytesAt w xv r) (hr : r ≠ []) (hb : l.length + r.length ≤ 140737488355328)
 (hgd : o.guard = none) (ho : o.op = .call { callee := .builtin .append, args := #[s, x], argTypes := #[72, 72] }) (hs : a.eval s = v) (hx : a.eval x = xv)
 (hk : ∀ v' w', Buf D B w' v' (l ++ r) → K (a.put o.dst v') w') : if Region.wanted o (yielded ops a.tmps) = true then Oper.wp Tryz.prog o a w K Q else E := by
 rw [if_pos (by simp [Region.wanted, hgd])]
 obtain ⟨v', w', hr, h2⟩ := h.app o.type hxb hr hb
 unfold Oper.wp execOp
 simp only [ho, resolve, invoke, builtin, Sem.run_bind, Sem.run_pure, Result.andThen_ok, List.map_toArray, List.map_cons, List.map_nil, hs, hx, hr]
 exact hk v' w' h2
theorem step_buf_lit {v : Value} {l : List UInt8} (h : Buf D B w v l) (s x : Operand) (c : UInt8) (hb : l.length + 1 ≤ 140737488355328)
 (hgd : o.guard = none) (ho : o.op = .call { callee := .builtin .append, args := #[s, x], argTypes := #[72, 72] }) (hs : a.eval s = v) (hx : a.eval x = .slice (some ⟨w.heap.size, 0, none⟩) 1 1)
 (hk : ∀ v' w', Buf D B w' v' (l ++ [c]) → K (a.put o.dst v') w') :
 if Region.wanted o (yielded ops a.tmps) = true then Oper.wp Tryz.prog o a (w.alloc (.cells #[.int .u8 (c.toNat : Int)] 5)) K Q else E :=
 step_buf_app (h.alloc _) s x (bytesAt_new w [c] (by simp [maxLen])) (by simp) hb hgd ho hs hx hk
end
end Go.Proofs.YtonegoemmologaaGreatDoor
namespace Go.Proofs.YtonegoemmologaaGreatDoor
open Go.RowKit
def isSp (c : UInt8) : Bool := c.toNat == 32 || c.toNat == 10 || c.toNat == 13 || c.toNat == 9
def skip (l : List UInt8) : List UInt8 := l.dropWhile isSp
theorem skip_cons (x : UInt8) (l : List UInt8) : skip (x :: l) = if isSp x then skip l else x :: l := by
 unfold skip
 rw [List.dropWhile_cons]
def Within (v V : Value) : Prop := ∀ k, V.ownBlock = some k → v.ownBlock = some k
theorem Within.refl (v : Value) : Within v v := fun _ h => h
theorem Within.trans {a b c : Value} (h : Within a b) (h' : Within b c) : Within a c := fun k hk => h k (h' k hk)
theorem within_from (a : Option Addr) (n c k : Nat) : Within (.slice a n c) (sliceFrom a n c k) := by
 intro b hb
 unfold sliceFrom at hb
 cases a with
 | none => simp [Value.ownBlock] at hb
 | some a =>
  split at hb
  · exact hb
  · by_cases h0 : k = 0 <;> simpa [Value.ownBlock, Addr.add, h0] using hb
theorem BytesAt.from {w : World} {v : Value} {l : List UInt8} (h : BytesAt w v l) (k : Nat) (hk : k ≤ l.length) :
 ∃ V, (∀ w', (Instr.slice 72 v (some (.int .i64 (k : Int))) none none).run Tryz.prog w' = .ok V w') ∧ BytesAt w V (l.drop k) ∧ Within v V := by
 obtain ⟨a, c, rfl, hc, hm, _⟩ := id h
 exact ⟨_, fun w' => run_sfrom a _ c k hk w', h.drop k hk, within_from _ _ _ _⟩
theorem BytesAt.mid {w : World} {v : Value} {l : List UInt8} (h : BytesAt w v l) (k j : Nat) (hk : k ≤ j) (hj : j ≤ l.length) :
 ∃ V, (∀ w', (Instr.slice 72 v (some (.int .i64 (k : Int))) (some (.int .i64 (j : Int))) none).run Tryz.prog w' = .ok V w') ∧ BytesAt w V ((l.take j).drop k) := by
 obtain ⟨a, c, rfl, hc, hm, _⟩ := id h
 have h2 := (h.take j c hj (by omega) (Nat.le_refl _)).drop k (by rw [List.length_take]; omega)
 refine ⟨_, fun w' => ?_, h2⟩
 obtain ⟨i0, hi, hz0, hz1, hz2⟩ := info_parts info5
 have h1 := run_sliceBound (P := Tryz.prog) w' .i64 (j : Int) c .sliceAcap (by omega) (by omega)
 have h3 := run_sliceBound (P := Tryz.prog) w' .i64 (k : Int) j .sliceB (by omega) (by omega)
 simp [Instr.slice, Instr.sliceBounds, run_underlying Tryz.underlying72, h1, h3, sizeOf, typeInfo, hi, hz1, sliceFrom]
theorem BytesAt.form {w : World} {v : Value} {l : List UInt8} (h : BytesAt w v l) : ∃ a c, v = .slice a l.length c ∧ l.length ≤ c ∧ c ≤ maxLen := by
 obtain ⟨a, c, h1, h2, h3, _⟩ := h
 exact ⟨a, c, h1, h2, h3⟩
set_option maxRecDepth 100000 in
set_option maxHeartbeats 400000 in
theorem consume_any (v : Value) (l : List UInt8) (n : Nat) (hn : n ≤ l.length) (w : World) (hv : BytesAt w v l) (hs : ∀ r, skip (l.drop n) ≠ 35 :: r) :
 Calls Tryz.prog 169 #[v, .int .i64 n] w fun e w' => (∃ V, e = .returned V ∧ BytesAt w V (skip (l.drop n)) ∧ Within v V) ∧ w = w' := by
 obtain ⟨V0, hV0, hb0, hi0⟩ := hv.from n hn
 have HN := Lib.hid hs
 have HB0 := Lib.hid hb0
 have HI0 := Lib.hid hi0
 clear hs hv hb0 hi0
 go_enter Tryz.func169, Tryz.ntmps169
 go_wp2
 go_loop [0] (fun s => ∃ r, BytesAt w s r ∧ Within v s ∧ skip r = skip (l.drop n)) (fun s => lenOf s)
 case atStart => exact ⟨_, HB0.out, HI0.out, rfl⟩
 case round =>
  obtain ⟨r, hr, hi, he⟩ := hrel
  have HS : Hid (skip r = skip (l.drop n)) := he
  have HI := Lib.hid hi
  clear he hi
  cases r with
  | nil =>
   obtain ⟨a', c', rfl, hc', hm', _⟩ := id hr
   have HR := Lib.hid hr
   clear hr
   go_wp2
   go_ret
   exact ⟨⟨_, rfl, by rw [← HS.out]; exact HR.out, HI.out⟩, rfl⟩
  | cons x r =>
   obtain ⟨V1, hV1, hb1, hi1⟩ := hr.from 1 (by simp)
   obtain ⟨b, off, c', rfl, hc', hm', hx⟩ := hr.cons
   have HR := Lib.hid hr
   have HD := Lib.hid hb1
   have HI1 := Lib.hid hi1
   have hV1' : ∀ w', (Instr.slice 72 (.slice (some ⟨b, off, none⟩) (r.length + 1) c') (some (.int .i64 1)) none none).run Tryz.prog w' = .ok V1 w' := hV1
   obtain ⟨a1, c1, hf1, _, _⟩ := hb1.form
   have HF1 := Lib.hid hf1
   clear hr hb1 hi1 hV1 hf1
   cases hx32 : isSp x with
   | true =>
    have H32 := Lib.hid hx32
    have hsp : x.toNat = 32 ∨ x.toNat = 10 ∨ x.toNat = 13 ∨ x.toNat = 9 := by simpa [isSp, or_assoc] using hx32
    clear hx32
    rcases hsp with hsp | hsp | hsp | hsp
    all_goals
     have H1 := Lib.hid hsp
     rw [hsp] at hx
     clear hsp
     go_wp2
     go_round
     case rel => exact ⟨r, by simpa using HD.out, HI.out.trans HI1.out, by rw [← HS.out, skip_cons, if_pos H32.out]⟩
     case measure => rw [HF1.out]; simp [lenOf]
   | false =>
    have H32 := Lib.hid hx32
    have hne : x.toNat ≠ 35 := by
     intro h
     refine HN.out r ?_
     rw [← HS.out, skip_cons, hx32, if_neg (by simp)]
     rw [show x = 35 from UInt8.toNat_inj.1 h]
    have h0 : ((x.toNat : Int) == 32) = false := by simp [isSp] at hx32; simp; omega
    have h1 : ((x.toNat : Int) == 10) = false := by simp [isSp] at hx32; simp; omega
    have h2 : ((x.toNat : Int) == 13) = false := by simp [isSp] at hx32; simp; omega
    have h3 : ((x.toNat : Int) == 9) = false := by simp [isSp] at hx32; simp; omega
    have h4 : ((x.toNat : Int) == 35) = false := by simp; omega
    clear hx32 hne hV1'
    go_wp2
    go_ret
    exact ⟨⟨_, rfl, by rw [← HS.out, skip_cons, H32.out, if_neg (by simp)]; exact HR.out, HI.out⟩, rfl⟩
theorem dconsume (D : Nat) (cur : Array Value) (v : Value) (l : List UInt8) (n : Nat) (hn : n ≤ l.length) (w : World) (hrow : w.heap[D]? = some (.cells cur 198 (0, 0))) (hin : cur[10]? = some v)
 (hv : BytesAt w v l) (hs : ∀ r, skip (l.drop n) ≠ 35 :: r) :
 Calls Tryz.prog 127 #[.pointer (some ⟨D, 0, none⟩), .int .i64 n] w fun e w' =>
  e = .returned (.tuple #[]) ∧ ∃ V, BytesAt w V (skip (l.drop n)) ∧ Within v V ∧ w' = w.setCell ⟨D, 10, none⟩ V := by
 have hc : w.cell? ⟨D, 10, none⟩ = some v := (cell_row hrow).trans hin
 have hf : w.frozen? ⟨D, 10, none⟩ = false := frozen_row hrow
 go_enter Tryz.func127, Tryz.ntmps127
 go_wp2_with (go_at_call 169; refine (consume_any v l n hn w hv hs).mono ?_; rintro e w1 ⟨⟨V, rfl, hb, hi⟩, rfl⟩; obtain ⟨a1, c1, rfl, _, _⟩ := hb.form)
 (try simp only [Exit.inBlock, Exit.then]); refine bodyPost_ret (results_none rfl _ _ _) rfl ?_
 exact ⟨rfl, _, hb, hi, rfl⟩
end Go.Proofs.YtonegoemmologaaGreatDoor
