/-
  The arguments that came in, opened: a schema and messages as plain data; their texts are not longer than the bulk.
-/
import Derived.Test.YtonegoemmologaaGreatDoorRows
import Derived.Test.YtonegoemmologaaGreatDoorM46
import Derived.Deep.Fields
import Derived.OpenShut
set_option linter.unusedVariables false
set_option linter.unusedSimpArgs false
namespace Go.Proofs.YtonegoemmologaaGreatDoor
open Go.ChangeShapes Go.WideShapes Go.ChangeAt Go.RowKit Go.Lib Go.Deep
theorem list_of {α : Type} : ∀ (n : Nat) (p : Nat → α → Prop), (∀ j, j < n → ∃ a, p j a) → ∃ l : List α, l.length = n ∧ ∀ j (h : j < l.length), p j l[j]
 | 0, _, _ => ⟨[], rfl, fun j h => absurd h (by simp)⟩
 | n + 1, p, h => by
  obtain ⟨a, ha⟩ := h 0 (by omega)
  obtain ⟨l, hl, hp⟩ := list_of n (fun j => p (j + 1)) (fun j hj => h (j + 1) (by omega))
  refine ⟨a :: l, by simp [hl], fun j hj => ?_⟩
  cases j with
  | zero => exact ha
  | succ j => exact hp j (by simpa using hj)
theorem bulk_part {H : Type} {d : DataW H} {l : List (DataW H)} (h : d ∈ l) : Rows.uptoBulk d ≤ Rows.uptoBulkAll l := by
 induction l with
 | nil => cases h
 | cons x r ih =>
  simp only [Rows.uptoBulkAll]
  cases List.mem_cons.1 h with
  | inl e => subst e; omega
  | inr e => have := ih e; omega
section
variable {H : Type} {enc : TypeId × Value → H} {P : Program} {w : World} {base : Nat} {spare : Nat → Bool} {held : Bool}
theorem open_rows {t e : TypeId} {fuel : Nat} {cs : List Value} {x : DataW H × List MemPlace} (ht : P.underlying t = some (.slice e)) (hpos : 0 < P.cellsOf e) (h : DataW.trod enc P w base spare held fuel t cs = some x) :
 ∃ (v : Value) (xs : List (List Value)), cs = [v] ∧ RowsAt w v (P.cellsOf e) xs ∧ ∀ j (hj : j < xs.length), ∃ (y : DataW H × List MemPlace) (n : Nat), fuel = n + 1 ∧ DataW.trod enc P w base spare held n e xs[j] = some y ∧ Rows.uptoBulk y.1 ≤ Rows.uptoBulk x.1 := by
 rcases DataW.trod_slice ht h with ⟨rfl, rfl⟩ | ⟨a, len, cap, elems, rest, n, rfl, rfl, rfl, hb, hl, hm, hlen, hel, hsp, hns⟩
 · exact ⟨_, [], rfl, ⟨none, 0, rfl, Nat.le_refl _, by unfold maxLen; omega, .inl rfl⟩, fun j hj => absurd hj (by simp)⟩
 have hrow : ∀ i, i < len → ∃ r : List Value, w.cells? base (a.add (i * P.cellsOf e)) (P.cellsOf e) = some r ∧ ∃ y, DataW.trod enc P w base spare held n e r = some y ∧ y ∈ elems := by
  intro i hi
  have k := hel i hi
  rw [List.getElem?_eq_getElem (by omega)] at k
  obtain ⟨r, h1, h2⟩ := Option.bind_eq_some_iff.1 k
  exact ⟨r, h1, _, h2, List.getElem_mem _⟩
 obtain ⟨xs, hxl, hx⟩ := list_of len _ hrow
 refine ⟨_, xs, rfl, ?_, fun j hj => ?_⟩
 · refine ⟨some a, cap, by rw [hxl], by omega, hm, ?_⟩
   by_cases hz : len = 0
   · exact .inl (List.length_eq_zero_iff.1 (by omega))
   · right
     obtain ⟨b, off, spot⟩ := a
     have hc0 := World.cells?_some (hx 0 (by omega)).1
     have hspot : spot = none := by
      have := hc0.2.2 0 hpos
      rw [List.getElem?_eq_getElem (by rw [hc0.2.1]; exact hpos)] at this
      simpa [Addr.add] using World.cell?_spot this
     subst hspot
     refine ⟨b, off, rfl, fun j hj i u hi hu => ?_⟩
     have hc := World.cells?_some (hx j hj).1
     have := hc.2.2 i hi
     rw [hu] at this
     rw [Addr.add_lit, Addr.add_lit] at this
     exact this
 · obtain ⟨y, h1, h2⟩ := (hx j hj).2
   refine ⟨y, n, rfl, h1, ?_⟩
   have := bulk_part (List.mem_map_of_mem (f := (·.1)) h2)
   simp only [Rows.uptoBulk]
   omega
theorem open_cells {t : TypeId} {fs : Array Field} {fuel : Nat} {cs : List Value} {x : DataW H × List MemPlace} (ht : P.underlying t = some (.struct fs)) (hone : oneCellFields P fs = true) (hC : P.cellsOf t = fs.size) (h : DataW.trod enc P w base spare held fuel t cs = some x) :
 cs.length = fs.size ∧ ∃ n, fuel = n + 1 ∧ ∀ (j : Nat) (f : Field), fs[j]? = some f → ∃ (v : Value) (y : DataW H × List MemPlace), cs[j]? = some v ∧ DataW.trod enc P w base spare held n f.type [v] = some y ∧ Rows.uptoBulk y.1 ≤ Rows.uptoBulk x.1 := by
 obtain ⟨ys, n, rfl, rfl, hl, hyl, hf⟩ := DataW.trod_struct ht h
 rw [hC] at hl
 refine ⟨hl, n, rfl, fun j f hj => ?_⟩
 obtain ⟨ho, hk⟩ := hone_of hone j f hj
 have hjl : j < fs.size := (Array.getElem?_eq_some_iff.1 hj).1
 have h1 := hf j f hj
 rw [ho, hk] at h1
 have hone' : (cs.drop j).take 1 = [cs[j]'(by omega)] := by
  rw [List.drop_eq_getElem_cons (by omega)]
  rfl
 rw [hone', List.getElem?_eq_getElem (by omega : j < ys.length)] at h1
 refine ⟨_, _, List.getElem?_eq_getElem (by omega), h1, ?_⟩
 have := bulk_part (List.mem_map_of_mem (f := (·.1)) (List.getElem_mem (by omega : j < ys.length)))
 simp only [Rows.uptoBulk]
 omega
end
section
variable {H : Type} {enc : TypeId × Value → H} {w : World} {base : Nat} {spare : Nat → Bool} {held : Bool}
theorem six_of {cs : List Value} {a b c d e f : Value} (hl : cs.length = 6) (h0 : cs[0]? = some a) (h1 : cs[1]? = some b) (h2 : cs[2]? = some c) (h3 : cs[3]? = some d) (h4 : cs[4]? = some e) (h5 : cs[5]? = some f) : cs = [a, b, c, d, e, f] := by
 match cs, hl with
 | [_, _, _, _, _, _], _ => simp_all
theorem two_of {cs : List Value} {a b : Value} (hl : cs.length = 2) (h0 : cs[0]? = some a) (h1 : cs[1]? = some b) : cs = [a, b] := by
 match cs, hl with
 | [_, _], _ => simp_all
theorem bulk_string (bytes : List UInt8) : Rows.uptoBulk (DataW.lit (H := H) (.string bytes)) = bytes.length + 1 := by simp [Rows.uptoBulk]
theorem size_list (s : ByteArray) : s.data.toList.length = s.size := rfl
set_option maxRecDepth 100000 in
theorem open_fts {fuel : Nat} {cs : List Value} {x : DataW H × List MemPlace} (h : DataW.trod enc Tryz.prog w base spare held fuel 34 cs = some x) :
 ∃ v fs, cs = [v] ∧ FTsAt w v fs ∧ ∀ f ∈ fs, f.name.size ≤ Rows.uptoBulk x.1 := by
 obtain ⟨v, xs, rfl, hr, hx⟩ := open_rows Tryz.underlying34 (show 0 < Tryz.prog.cellsOf 33 from of_decide_eq_true (by kernel_rfl)) h
 rw [show Tryz.prog.cellsOf 33 = 6 by kernel_rfl] at hr
 have hh : ∀ j, j < xs.length → ∃ f : FT, xs[j]? = some (ftc f) ∧ f.name.size ≤ Rows.uptoBulk x.1 := by
  intro j hj
  obtain ⟨y, n, -, hy, hb⟩ := hx j hj
  obtain ⟨hl, m, -, hf⟩ := open_cells Tryz.underlying33 (by kernel_rfl) (by kernel_rfl) hy
  obtain ⟨v0, y0, c0, t0, b0⟩ := hf 0 _ rfl
  obtain ⟨v1, y1, c1, t1, b1⟩ := hf 1 _ rfl
  obtain ⟨v2, y2, c2, t2, b2⟩ := hf 2 _ rfl
  obtain ⟨v3, y3, c3, t3, b3⟩ := hf 3 _ rfl
  obtain ⟨v4, y4, c4, t4, b4⟩ := hf 4 _ rfl
  obtain ⟨v5, y5, c5, t5, b5⟩ := hf 5 _ rfl
  obtain ⟨s, e0, rfl, -⟩ := DataW.trod_string Tryz.underlying9 t0
  obtain ⟨n1, e1, -, -⟩ := DataW.trod_int Tryz.underlying3 t1
  obtain ⟨n2, e2, -, -⟩ := DataW.trod_int Tryz.underlying3 t2
  obtain ⟨n3, e3, -⟩ := DataW.trod_bool Tryz.underlying4 t3
  obtain ⟨n4, e4, -⟩ := DataW.trod_bool Tryz.underlying4 t4
  obtain ⟨n5, e5, -, -⟩ := DataW.trod_int Tryz.underlying3 t5
  cases e0; cases e1; cases e2; cases e3; cases e4; cases e5
  refine ⟨⟨s, n1, n2, n3, n4, n5⟩, ?_, ?_⟩
  · rw [List.getElem?_eq_getElem hj, six_of hl c0 c1 c2 c3 c4 c5]
    rfl
  · rw [bulk_string] at b0
    show s.size ≤ _
    have := size_list s
    omega
 obtain ⟨fs, hfl, hf⟩ := list_of xs.length _ hh
 refine ⟨v, fs, rfl, ?_, fun f hf' => ?_⟩
 · have e : xs = fs.map ftc := by
    refine List.ext_getElem (by rw [List.length_map, hfl]) fun j h1 h2 => ?_
    have := (hf j (by omega)).1
    rw [List.getElem?_eq_getElem h1] at this
    rw [List.getElem_map]
    exact Option.some.inj this
   unfold FTsAt
   rw [← e]; exact hr
 · obtain ⟨j, hj, rfl⟩ := List.getElem_of_mem hf'
   exact (hf j hj).2
set_option maxRecDepth 100000 in
theorem open_strs {fuel : Nat} {cs : List Value} {x : DataW H × List MemPlace} (h : DataW.trod enc Tryz.prog w base spare held fuel 43 cs = some x) :
 ∃ v ss, cs = [v] ∧ StrRows w v ss ∧ ∀ s ∈ ss, s.size ≤ Rows.uptoBulk x.1 := by
 obtain ⟨v, xs, rfl, hr, hx⟩ := open_rows Tryz.underlying43 (show 0 < Tryz.prog.cellsOf 9 from of_decide_eq_true (by kernel_rfl)) h
 rw [show Tryz.prog.cellsOf 9 = 1 by kernel_rfl] at hr
 have hh : ∀ j, j < xs.length → ∃ s : ByteArray, xs[j]? = some [Value.string s] ∧ s.size ≤ Rows.uptoBulk x.1 := by
  intro j hj
  obtain ⟨y, n, -, hy, hb⟩ := hx j hj
  obtain ⟨s, e0, rfl, -⟩ := DataW.trod_string Tryz.underlying9 hy
  refine ⟨s, by rw [List.getElem?_eq_getElem hj, e0], ?_⟩
  rw [bulk_string] at hb
  have := size_list s
  omega
 obtain ⟨ss, hsl, hs⟩ := list_of xs.length _ hh
 refine ⟨v, ss, rfl, ?_, fun s hs' => ?_⟩
 · have e : xs = ss.map fun s => [Value.string s] := by
    refine List.ext_getElem (by rw [List.length_map, hsl]) fun j h1 h2 => ?_
    have := (hs j (by omega)).1
    rw [List.getElem?_eq_getElem h1] at this
    rw [List.getElem_map]
    exact Option.some.inj this
   unfold StrRows
   rw [← e]; exact hr
 · obtain ⟨j, hj, rfl⟩ := List.getElem_of_mem hs'
   exact (hs j hj).2
set_option maxRecDepth 100000 in
theorem open_i32s {fuel : Nat} {cs : List Value} {x : DataW H × List MemPlace} (h : DataW.trod enc Tryz.prog w base spare held fuel 44 cs = some x) :
 ∃ v ns, cs = [v] ∧ I32Rows w v ns ∧ ∀ n ∈ ns, -2147483648 ≤ n ∧ n ≤ 2147483647 := by
 obtain ⟨v, xs, rfl, hr, hx⟩ := open_rows Tryz.underlying44 (show 0 < Tryz.prog.cellsOf 21 from of_decide_eq_true (by kernel_rfl)) h
 rw [show Tryz.prog.cellsOf 21 = 1 by kernel_rfl] at hr
 have hh : ∀ j, j < xs.length → ∃ n : Int, xs[j]? = some [Value.int .i32 n] ∧ -2147483648 ≤ n ∧ n ≤ 2147483647 := by
  intro j hj
  obtain ⟨y, n, -, hy, hb⟩ := hx j hj
  obtain ⟨s, e0, -, f1⟩ := DataW.trod_int Tryz.underlying21 hy
  simp only [Lit.wf, Bool.and_eq_true, decide_eq_true_eq] at f1
  have q1 : IntKind.min .i32 = -2147483648 := by decide
  have q2 : IntKind.max .i32 = 2147483647 := by decide
  rw [q1, q2] at f1
  exact ⟨s, by rw [List.getElem?_eq_getElem hj, e0], f1⟩
 obtain ⟨ss, hsl, hs⟩ := list_of xs.length _ hh
 refine ⟨v, ss, rfl, ?_, fun s hs' => ?_⟩
 · have e : xs = ss.map fun s => [Value.int .i32 s] := by
    refine List.ext_getElem (by rw [List.length_map, hsl]) fun j h1 h2 => ?_
    have := (hs j (by omega)).1
    rw [List.getElem?_eq_getElem h1] at this
    rw [List.getElem_map]
    exact Option.some.inj this
   unfold I32Rows
   rw [← e]; exact hr
 · obtain ⟨j, hj, rfl⟩ := List.getElem_of_mem hs'
   exact (hs j hj).2
set_option maxRecDepth 100000 in
theorem open_mts {fuel : Nat} {cs : List Value} {x : DataW H × List MemPlace} (h : DataW.trod enc Tryz.prog w base spare held fuel 22 cs = some x) :
 ∃ v ms, cs = [v] ∧ MTsAt w v ms ∧ ∀ m ∈ ms, ∀ f ∈ m.fields, f.name.size ≤ Rows.uptoBulk x.1 := by
 obtain ⟨v, xs, rfl, hr, hx⟩ := open_rows Tryz.underlying22 (show 0 < Tryz.prog.cellsOf 36 from of_decide_eq_true (by kernel_rfl)) h
 rw [show Tryz.prog.cellsOf 36 = 2 by kernel_rfl] at hr
 have hh : ∀ j, j < xs.length → ∃ q : MT × Value, xs[j]? = some [.string q.1.name, q.2] ∧ FTsAt w q.2 q.1.fields ∧ ∀ f ∈ q.1.fields, f.name.size ≤ Rows.uptoBulk x.1 := by
  intro j hj
  obtain ⟨y, n, -, hy, hb⟩ := hx j hj
  obtain ⟨hl, m, -, hf⟩ := open_cells Tryz.underlying36 (by kernel_rfl) (by kernel_rfl) hy
  obtain ⟨v0, y0, c0, t0, b0⟩ := hf 0 _ rfl
  obtain ⟨v1, y1, c1, t1, b1⟩ := hf 1 _ rfl
  obtain ⟨s, e0, rfl, -⟩ := DataW.trod_string Tryz.underlying9 t0
  obtain ⟨u, fs, e1, g1, g2⟩ := open_fts t1
  cases e0; cases e1
  refine ⟨(⟨s, fs⟩, v1), ?_, g1, fun f hf => ?_⟩
  · rw [List.getElem?_eq_getElem hj, two_of hl c0 c1]
  · have := g2 f hf
    omega
 obtain ⟨qs, hql, hq⟩ := list_of xs.length _ hh
 refine ⟨v, qs.map (·.1), rfl, ⟨qs.map (·.2), by simp, ?_, fun j h1 h2 => ?_⟩, fun m hm f hf => ?_⟩
 · have e : xs = List.zipWith (fun m fv => [Value.string m.name, fv]) (qs.map (·.1)) (qs.map (·.2)) := by
    refine List.ext_getElem (by rw [List.length_zipWith, List.length_map, List.length_map, hql, Nat.min_self]) fun j h1 h2 => ?_
    have := (hq j (by omega)).1
    rw [List.getElem?_eq_getElem h1] at this
    rw [List.getElem_zipWith, List.getElem_map, List.getElem_map]
    exact Option.some.inj this
   rw [← e]; exact hr
 · rw [List.getElem_map, List.getElem_map]
   rw [List.length_map] at h1
   exact (hq j h1).2.1
 · obtain ⟨q, hq', rfl⟩ := List.mem_map.1 hm
   obtain ⟨j, hj, rfl⟩ := List.getElem_of_mem hq'
   exact (hq j hj).2.2 f hf
set_option maxRecDepth 100000 in
theorem open_ets {fuel : Nat} {cs : List Value} {x : DataW H × List MemPlace} (h : DataW.trod enc Tryz.prog w base spare held fuel 23 cs = some x) :
 ∃ v es, cs = [v] ∧ ETsAt w v es ∧ ∀ e ∈ es, (∀ n ∈ e.names, n.size ≤ Rows.uptoBulk x.1) ∧ ∀ n ∈ e.numbers, -2147483648 ≤ n ∧ n ≤ 2147483647 := by
 obtain ⟨v, xs, rfl, hr, hx⟩ := open_rows Tryz.underlying23 (show 0 < Tryz.prog.cellsOf 56 from of_decide_eq_true (by kernel_rfl)) h
 rw [show Tryz.prog.cellsOf 56 = 2 by kernel_rfl] at hr
 have hh : ∀ j, j < xs.length → ∃ q : ET × Value × Value, xs[j]? = some [q.2.1, q.2.2] ∧ StrRows w q.2.1 q.1.names ∧ I32Rows w q.2.2 q.1.numbers ∧ (∀ n ∈ q.1.names, n.size ≤ Rows.uptoBulk x.1) ∧ ∀ n ∈ q.1.numbers, -2147483648 ≤ n ∧ n ≤ 2147483647 := by
  intro j hj
  obtain ⟨y, n, -, hy, hb⟩ := hx j hj
  obtain ⟨hl, m, -, hf⟩ := open_cells Tryz.underlying56 (by kernel_rfl) (by kernel_rfl) hy
  obtain ⟨v0, y0, c0, t0, b0⟩ := hf 0 _ rfl
  obtain ⟨v1, y1, c1, t1, b1⟩ := hf 1 _ rfl
  obtain ⟨u0, ss, e0, g0, g00⟩ := open_strs t0
  obtain ⟨u1, ns, e1, g1, g11⟩ := open_i32s t1
  cases e0; cases e1
  refine ⟨(⟨ss, ns⟩, v0, v1), ?_, g0, g1, fun f hf => ?_, g11⟩
  · rw [List.getElem?_eq_getElem hj, two_of hl c0 c1]
  · have := g00 f hf
    omega
 obtain ⟨qs, hql, hq⟩ := list_of xs.length _ hh
 refine ⟨v, qs.map (·.1), rfl, ⟨qs.map (·.2.1), qs.map (·.2.2), by simp, by simp, ?_, fun j h1 h2 h3 => ?_⟩, fun m hm => ?_⟩
 · have e : xs = List.zipWith (fun nv uv => [nv, uv]) (qs.map (·.2.1)) (qs.map (·.2.2)) := by
    refine List.ext_getElem (by rw [List.length_zipWith, List.length_map, List.length_map, hql, Nat.min_self]) fun j h1 h2 => ?_
    have := (hq j (by omega)).1
    rw [List.getElem?_eq_getElem h1] at this
    rw [List.getElem_zipWith, List.getElem_map, List.getElem_map]
    exact Option.some.inj this
   rw [← e]; exact hr
 · rw [List.getElem_map, List.getElem_map, List.getElem_map]
   rw [List.length_map] at h1
   exact ⟨(hq j h1).2.1, (hq j h1).2.2.1⟩
 · obtain ⟨q, hq', rfl⟩ := List.mem_map.1 hm
   obtain ⟨j, hj, rfl⟩ := List.getElem_of_mem hq'
   exact (hq j hj).2.2.2
def MLong (n : Nat) : Nat → List (Int × List PV) → Prop
 | 0, _ => True
 | d + 1, fs => ∀ f ∈ fs, ∀ p ∈ f.2, ((PV.text p).size ≤ n ∧ (PV.text p).size ≤ maxLen) ∧ MLong n d (PV.msg p)
theorem MLong.mono {n m : Nat} (hnm : n ≤ m) : ∀ {d : Nat} {fs : List (Int × List PV)}, MLong n d fs → MLong m d fs
 | 0, _, _ => trivial
 | _ + 1, _, h => fun f hf p hp => ⟨⟨Nat.le_trans (h f hf p hp).1.1 hnm, (h f hf p hp).1.2⟩, MLong.mono hnm (h f hf p hp).2⟩
theorem MLong.bound {n : Nat} : ∀ {d : Nat} {fs : List (Int × List PV)}, MLong n d fs → MBound d fs
 | 0, _, _ => trivial
 | _ + 1, _, h => fun f hf p hp => ⟨(h f hf p hp).1.2, MLong.bound (h f hf p hp).2⟩
def vrow (p : PV) (mv : Value) : List Value := match p with
 | .mk b i u f s _ => [Value.bool b, .int .i64 i, .int .u64 (u : Int), .int .u64 (f : Int), .string s, mv]
def VGood (w : World) (d : Nat) (p : PV) (mv : Value) : Prop := match p with
 | .mk _ i u f _ m => -9223372036854775808 ≤ i ∧ i ≤ 9223372036854775807 ∧ u < 18446744073709551616 ∧ f < 18446744073709551616 ∧ MsgAt w d mv m
set_option maxRecDepth 100000 in
theorem open_msg : ∀ (k : Nat) {fuel : Nat} {cs : List Value} {x : DataW H × List MemPlace}, fuel ≤ k → DataW.trod enc Tryz.prog w base spare held fuel 26 cs = some x →
 ∃ v fs, cs = [v] ∧ MsgAt w (fuel / 4 + 1) v fs ∧ MLong (Rows.uptoBulk x.1) (fuel / 4 + 1) fs
 | 0, fuel, cs, x, hk, h => by
  obtain rfl : fuel = 0 := by omega
  simp [DataW.trod] at h
 | k + 1, fuel, cs, x, hk, h => by
  obtain ⟨v, xs, rfl, hr, hx⟩ := open_rows Tryz.underlying26 (show 0 < Tryz.prog.cellsOf 31 from of_decide_eq_true (by kernel_rfl)) h
  rw [show Tryz.prog.cellsOf 31 = 2 by kernel_rfl] at hr
  have hh : ∀ j, j < xs.length → ∃ q : (Int × List PV) × Value, xs[j]? = some [.int .i64 q.1.1, q.2] ∧
   (∃ ms : List Value, ms.length = q.1.2.length ∧
    RowsAt w q.2 6 (List.zipWith (fun p mv => match p with | .mk b i u f s _ => [Value.bool b, .int .i64 i, .int .u64 (u : Int), .int .u64 (f : Int), .string s, mv]) q.1.2 ms) ∧
    ∀ k (hk : k < q.1.2.length) (hk' : k < ms.length), match q.1.2[k] with
     | .mk _ i u f _ m => -9223372036854775808 ≤ i ∧ i ≤ 9223372036854775807 ∧ u < 18446744073709551616 ∧ f < 18446744073709551616 ∧ MsgAt w (fuel / 4) ms[k] m) ∧
   ∀ p ∈ q.1.2, ((PV.text p).size ≤ Rows.uptoBulk x.1 ∧ (PV.text p).size ≤ maxLen) ∧ MLong (Rows.uptoBulk x.1) (fuel / 4) (PV.msg p) := by
   intro j hj
   obtain ⟨y, n, rfl, hy, hb⟩ := hx j hj
   obtain ⟨hl, m, rfl, hf⟩ := open_cells Tryz.underlying31 (by kernel_rfl) (by kernel_rfl) hy
   obtain ⟨v0, y0, c0, t0, b0⟩ := hf 0 _ rfl
   obtain ⟨v1, y1, c1, t1, b1⟩ := hf 1 _ rfl
   obtain ⟨at_, e0, -, -⟩ := DataW.trod_int Tryz.underlying3 t0
   cases e0
   obtain ⟨vv, zs, e1, hzr, hz⟩ := open_rows Tryz.underlying29 (show 0 < Tryz.prog.cellsOf 39 from of_decide_eq_true (by kernel_rfl)) t1
   rw [show Tryz.prog.cellsOf 39 = 6 by kernel_rfl] at hzr
   cases e1
   have gg : ∀ i, i < zs.length → ∃ q : PV × Value, zs[i]? = some (vrow q.1 q.2) ∧ VGood w ((m + 2) / 4) q.1 q.2 ∧ ((PV.text q.1).size ≤ Rows.uptoBulk x.1 ∧ (PV.text q.1).size ≤ maxLen) ∧ MLong (Rows.uptoBulk x.1) ((m + 2) / 4) (PV.msg q.1) := by
    intro i hi
    obtain ⟨y, n2, rfl, hy2, hb2⟩ := hz i hi
    obtain ⟨hl2, m2, rfl, hf2⟩ := open_cells Tryz.underlying39 (by kernel_rfl) (by kernel_rfl) hy2
    obtain ⟨w0, z0, d0, s0, a0⟩ := hf2 0 _ rfl
    obtain ⟨w1, z1, d1, s1, a1⟩ := hf2 1 _ rfl
    obtain ⟨w2, z2, d2, s2, a2⟩ := hf2 2 _ rfl
    obtain ⟨w3, z3, d3, s3, a3⟩ := hf2 3 _ rfl
    obtain ⟨w4, z4, d4, s4, a4⟩ := hf2 4 _ rfl
    obtain ⟨w5, z5, d5, s5, a5⟩ := hf2 5 _ rfl
    obtain ⟨n0, e0, -⟩ := DataW.trod_bool Tryz.underlying4 s0
    obtain ⟨n1, e1, -, f1⟩ := DataW.trod_int Tryz.underlying2 s1
    obtain ⟨n2, e2, -, f2⟩ := DataW.trod_int Tryz.underlying37 s2
    obtain ⟨n3, e3, -, f3⟩ := DataW.trod_int Tryz.underlying37 s3
    obtain ⟨t, e4, rfl, tml⟩ := DataW.trod_string Tryz.underlying9 s4
    obtain ⟨v5, msg, e5, g1, g2⟩ := open_msg k (by omega) s5
    cases e0; cases e1; cases e2; cases e3; cases e4; cases e5
    simp only [Lit.wf, Bool.and_eq_true, decide_eq_true_eq] at f1 f2 f3
    have q1 : IntKind.min .i64 = -9223372036854775808 := by decide
    have q2 : IntKind.max .i64 = 9223372036854775807 := by decide
    have q3 : IntKind.min .u64 = 0 := by decide
    have q4 : IntKind.max .u64 = 18446744073709551615 := by decide
    rw [q1, q2] at f1
    rw [q3, q4] at f2 f3
    obtain ⟨n2, rfl⟩ : ∃ a : Nat, n2 = (a : Int) := ⟨n2.toNat, by omega⟩
    obtain ⟨n3, rfl⟩ : ∃ a : Nat, n3 = (a : Int) := ⟨n3.toNat, by omega⟩
    have hd : m2 / 4 + 1 = (m2 + 1 + 1 + 2) / 4 := by omega
    rw [hd] at g1 g2
    have hbb : Rows.uptoBulk z5.1 ≤ Rows.uptoBulk x.1 := by omega
    refine ⟨(.mk n0 n1 n2 n3 t msg, w5), ?_, ⟨by omega, by omega, by omega, by omega, g1⟩, ?_, g2.mono hbb⟩
    · rw [List.getElem?_eq_getElem hi, six_of hl2 d0 d1 d2 d3 d4 d5]
      rfl
    · rw [bulk_string] at a4
      refine ⟨?_, tml⟩
      show t.size ≤ _
      have := size_list t
      omega
   obtain ⟨qs, hql, hq⟩ := list_of zs.length _ gg
   have hd : (m + 1 + 1) / 4 = (m + 2) / 4 := by omega
   rw [hd]
   refine ⟨((at_, qs.map (·.1)), v1), ?_, ⟨qs.map (·.2), by simp, ?_, fun k hk hk' => ?_⟩, fun p hp => ?_⟩
   · rw [List.getElem?_eq_getElem hj, two_of hl c0 c1]
   · have e : zs = List.zipWith (fun p mv => match p with | .mk b i u f s _ => [Value.bool b, .int .i64 i, .int .u64 (u : Int), .int .u64 (f : Int), .string s, mv]) (qs.map (·.1)) (qs.map (·.2)) := by
      refine List.ext_getElem (by rw [List.length_zipWith, List.length_map, List.length_map, hql, Nat.min_self]) fun j h1 h2 => ?_
      have := (hq j (by omega)).1
      rw [List.getElem?_eq_getElem h1] at this
      rw [List.getElem_zipWith, List.getElem_map, List.getElem_map]
      exact Option.some.inj this
     rw [← e]; exact hzr
   · have hk2 : k < qs.length := by simpa using hk
     have := (hq k hk2).2.1
     simp only [List.getElem_map]
     cases hqk : qs[k].1 with
     | mk b i u f s mm =>
      rw [hqk] at this
      exact this
   · obtain ⟨q, hq', rfl⟩ := List.mem_map.1 hp
     obtain ⟨j, hj, rfl⟩ := List.getElem_of_mem hq'
     exact (hq j hj).2.2
  obtain ⟨qs, hql, hq⟩ := list_of xs.length _ hh
  refine ⟨v, qs.map (·.1), rfl, ?_, fun f hf p hp => ?_⟩
  · unfold MsgAt
    refine ⟨qs.map (·.2), by simp, ?_, fun j h1 h2 => ?_⟩
    · have e : xs = List.zipWith (fun f vv => [Value.int .i64 f.1, vv]) (qs.map (·.1)) (qs.map (·.2)) := by
       refine List.ext_getElem (by rw [List.length_zipWith, List.length_map, List.length_map, hql, Nat.min_self]) fun j h1 h2 => ?_
       have := (hq j (by omega)).1
       rw [List.getElem?_eq_getElem h1] at this
       rw [List.getElem_zipWith, List.getElem_map, List.getElem_map]
       exact Option.some.inj this
      rw [← e]; exact hr
    · have hj2 : j < qs.length := by simpa using h1
      have := (hq j hj2).2.1
      simp only [List.getElem_map]
      exact this
  · obtain ⟨q, hq', rfl⟩ := List.mem_map.1 hf
    obtain ⟨j, hj, rfl⟩ := List.getElem_of_mem hq'
    exact (hq j hj).2.2 p hp
end
end Go.Proofs.YtonegoemmologaaGreatDoor
