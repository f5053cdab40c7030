/-
  A schema and a message as plain data, and how they lie in memory.
  The bounds on lengths (zzFits1 to zzFits8) over a schema: what they answer, and what it tells where it is true.
-/
import Derived.Test.YtmijjppjodpagaaGreatDoorM01
import Derived.Deep.DeepCutAuto
set_option linter.unusedVariables false
set_option linter.unusedSimpArgs false
namespace Go.Proofs.YtmijjppjodpagaaGreatDoor
open Go.RowKit

/-- v is a slice whose elements, of sz cells each, hold these cells. -/
def RowsAt (w : World) (v : Value) (sz : Nat) (xs : List (List Value)) : Prop :=
  ∃ a c, v = .slice a xs.length c ∧ xs.length ≤ c ∧ c ≤ maxLen ∧ (xs = [] ∨ ∃ b off, a = some ⟨b, off, none⟩ ∧ ∀ j (h : j < xs.length) i u, i < sz → xs[j][i]? = some u → w.cell? ⟨b, off + j * sz + i, none⟩ = some u)
theorem RowsAt.keeps {S : Nat → Prop} {w w' : World} {v : Value} {sz : Nat} {xs : List (List Value)} (h : RowsAt w v sz xs) (hk : Keeps S w w') (hn : ∀ k, v.ownBlock = some k → ¬ S k) : RowsAt w' v sz xs := by
  obtain ⟨a, c, rfl, h1, h2, h3⟩ := h
  refine ⟨a, c, rfl, h1, h2, ?_⟩
  rcases h3 with h3 | ⟨b, off, rfl, h3⟩
  · exact .inl h3
  · exact .inr ⟨b, off, rfl, fun j hj i u hi hu => hk.cell (h3 j hj i u hi hu) (hn b rfl)⟩
theorem RowsAt.form {w : World} {v : Value} {sz : Nat} {xs : List (List Value)} (h : RowsAt w v sz xs) : ∃ a c, v = .slice a xs.length c ∧ xs.length ≤ c ∧ c ≤ maxLen := by
  obtain ⟨a, c, h0, h1, h2, _⟩ := h
  exact ⟨a, c, h0, h1, h2⟩
theorem RowsAt.at {w : World} {a : Option Addr} {n c sz : Nat} {xs : List (List Value)} (h : RowsAt w (.slice a n c) sz xs) (h0 : xs ≠ []) : ∃ b off, a = some ⟨b, off, none⟩ ∧ ∀ j (hj : j < xs.length) i u, i < sz → xs[j][i]? = some u → w.cell? ⟨b, off + j * sz + i, none⟩ = some u := by
  obtain ⟨a', c', hv, _, _, h3⟩ := h
  cases hv
  exact h3.resolve_left h0

/-- A field's type. -/
structure FT where
  name : ByteArray
  number : Int
  kind : Int
  rep : Bool
  map : Bool
  type : Int
/-- A message's type. -/
structure MT where
  name : ByteArray
  fields : List FT
/-- An enum's type. -/
structure ET where
  names : List ByteArray
  numbers : List Int
/-- A schema. -/
structure Sch where
  msgs : List MT
  enums : List ET

def ftc (f : FT) : List Value := [.string f.name, .int .i64 f.number, .int .i64 f.kind, .bool f.rep, .bool f.map, .int .i64 f.type]
def FTsAt (w : World) (v : Value) (fs : List FT) : Prop := RowsAt w v 6 (fs.map ftc)
def StrRows (w : World) (v : Value) (ss : List ByteArray) : Prop := RowsAt w v 1 (ss.map fun s => [Value.string s])
def I32Rows (w : World) (v : Value) (ns : List Int) : Prop := RowsAt w v 1 (ns.map fun n => [Value.int .i32 n])
/-- The types of a schema's messages: each row has a name and a slice of fields' types. -/
def MTsAt (w : World) (v : Value) (ms : List MT) : Prop :=
  ∃ vs : List Value, vs.length = ms.length ∧ RowsAt w v 2 (List.zipWith (fun m fv => [Value.string m.name, fv]) ms vs) ∧ ∀ j (h : j < ms.length) (h' : j < vs.length), FTsAt w vs[j] ms[j].fields
def ETsAt (w : World) (v : Value) (es : List ET) : Prop :=
  ∃ vs us : List Value, vs.length = es.length ∧ us.length = es.length ∧ RowsAt w v 2 (List.zipWith (fun nv uv => [nv, uv]) vs us) ∧ ∀ j (h : j < es.length) (h' : j < vs.length) (h'' : j < us.length), StrRows w vs[j] es[j].names ∧ I32Rows w us[j] es[j].numbers
/-- A schema by value: its two slices. -/
def SchAt (w : World) (x y : Value) (S : Sch) : Prop := MTsAt w x S.msgs ∧ ETsAt w y S.enums

theorem FTsAt.keeps {w w' : World} {v : Value} {fs : List FT} (h : FTsAt w v fs) (hk : Keeps (fun _ => False) w w') : FTsAt w' v fs := RowsAt.keeps h hk (fun _ _ => id)
theorem StrRows.keeps {w w' : World} {v : Value} {ss : List ByteArray} (h : StrRows w v ss) (hk : Keeps (fun _ => False) w w') : StrRows w' v ss := RowsAt.keeps h hk (fun _ _ => id)
theorem I32Rows.keeps {w w' : World} {v : Value} {ss : List Int} (h : I32Rows w v ss) (hk : Keeps (fun _ => False) w w') : I32Rows w' v ss := RowsAt.keeps h hk (fun _ _ => id)
theorem MTsAt.keeps {w w' : World} {v : Value} {ms : List MT} (h : MTsAt w v ms) (hk : Keeps (fun _ => False) w w') : MTsAt w' v ms := by
  obtain ⟨vs, h1, h2, h3⟩ := h
  exact ⟨vs, h1, h2.keeps hk (fun _ _ => id), fun j h h' => (h3 j h h').keeps hk⟩
theorem ETsAt.keeps {w w' : World} {v : Value} {es : List ET} (h : ETsAt w v es) (hk : Keeps (fun _ => False) w w') : ETsAt w' v es := by
  obtain ⟨vs, us, h0, h1, h2, h3⟩ := h
  exact ⟨vs, us, h0, h1, h2.keeps hk (fun _ _ => id), fun j h h' h'' => ⟨(h3 j h h' h'').1.keeps hk, (h3 j h h' h'').2.keeps hk⟩⟩
theorem SchAt.keeps {w w' : World} {x y : Value} {S : Sch} (h : SchAt w x y S) (hk : Keeps (fun _ => False) w w') : SchAt w' x y S := ⟨h.1.keeps hk, h.2.keeps hk⟩

theorem FTsAt.len {w : World} {v : Value} {fs : List FT} (h : FTsAt w v fs) : ∃ a c, v = .slice a fs.length c ∧ fs.length ≤ c ∧ c ≤ maxLen := by
  obtain ⟨a, c, h0, h1, h2⟩ := RowsAt.form h
  rw [List.length_map] at h0 h1
  exact ⟨a, c, h0, h1, h2⟩
theorem FTsAt.cells {w : World} {a : Option Addr} {n c : Nat} {fs : List FT} (h : FTsAt w (.slice a n c) fs) (h0 : fs ≠ []) : ∃ b off, a = some ⟨b, off, none⟩ ∧ ∀ j (hj : j < fs.length),
    w.cell? ⟨b, off + j * 6, none⟩ = some (.string fs[j].name) ∧ w.cell? ⟨b, off + j * 6 + 1, none⟩ = some (.int .i64 fs[j].number) ∧ w.cell? ⟨b, off + j * 6 + 2, none⟩ = some (.int .i64 fs[j].kind) ∧
    w.cell? ⟨b, off + j * 6 + 3, none⟩ = some (.bool fs[j].rep) ∧ w.cell? ⟨b, off + j * 6 + 4, none⟩ = some (.bool fs[j].map) ∧ w.cell? ⟨b, off + j * 6 + 5, none⟩ = some (.int .i64 fs[j].type) := by
  obtain ⟨b, off, rfl, hc⟩ := RowsAt.at h (by simpa using h0)
  refine ⟨b, off, rfl, fun j hj => ?_⟩
  have hj' : j < (fs.map ftc).length := by simpa using hj
  have g := fun i u hi hu => hc j hj' i u hi (by rw [List.getElem_map]; exact hu)
  exact ⟨g 0 _ (by omega) rfl, g 1 _ (by omega) rfl, g 2 _ (by omega) rfl, g 3 _ (by omega) rfl, g 4 _ (by omega) rfl, g 5 _ (by omega) rfl⟩
theorem StrRows.len {w : World} {v : Value} {ss : List ByteArray} (h : StrRows w v ss) : ∃ a c, v = .slice a ss.length c ∧ ss.length ≤ c ∧ c ≤ maxLen := by
  obtain ⟨a, c, h0, h1, h2⟩ := RowsAt.form h
  rw [List.length_map] at h0 h1
  exact ⟨a, c, h0, h1, h2⟩
theorem StrRows.cells {w : World} {a : Option Addr} {n c : Nat} {ss : List ByteArray} (h : StrRows w (.slice a n c) ss) (h0 : ss ≠ []) : ∃ b off, a = some ⟨b, off, none⟩ ∧ ∀ j (hj : j < ss.length), w.cell? ⟨b, off + j, none⟩ = some (.string ss[j]) := by
  obtain ⟨b, off, rfl, hc⟩ := RowsAt.at h (by simpa using h0)
  refine ⟨b, off, rfl, fun j hj => ?_⟩
  have g := hc j (by simpa using hj) 0 (.string ss[j]) (by omega) (by rw [List.getElem_map]; rfl)
  simpa using g
theorem I32Rows.len {w : World} {v : Value} {ss : List Int} (h : I32Rows w v ss) : ∃ a c, v = .slice a ss.length c ∧ ss.length ≤ c ∧ c ≤ maxLen := by
  obtain ⟨a, c, h0, h1, h2⟩ := RowsAt.form h
  rw [List.length_map] at h0 h1
  exact ⟨a, c, h0, h1, h2⟩
theorem I32Rows.cells {w : World} {a : Option Addr} {n c : Nat} {ss : List Int} (h : I32Rows w (.slice a n c) ss) (h0 : ss ≠ []) : ∃ b off, a = some ⟨b, off, none⟩ ∧ ∀ j (hj : j < ss.length), w.cell? ⟨b, off + j, none⟩ = some (.int .i32 ss[j]) := by
  obtain ⟨b, off, rfl, hc⟩ := RowsAt.at h (by simpa using h0)
  refine ⟨b, off, rfl, fun j hj => ?_⟩
  have g := hc j (by simpa using hj) 0 (.int .i32 ss[j]) (by omega) (by rw [List.getElem_map]; rfl)
  simpa using g
theorem MTsAt.len {w : World} {v : Value} {ms : List MT} (h : MTsAt w v ms) : ∃ a c, v = .slice a ms.length c ∧ ms.length ≤ c ∧ c ≤ maxLen := by
  obtain ⟨vs, h3, h, _⟩ := h
  obtain ⟨a, c, h0, h1, h2⟩ := RowsAt.form h
  rw [List.length_zipWith, h3, Nat.min_self] at h0 h1
  exact ⟨a, c, h0, h1, h2⟩
theorem MTsAt.cells {w : World} {a : Option Addr} {n c : Nat} {ms : List MT} (h : MTsAt w (.slice a n c) ms) (h0 : ms ≠ []) : ∃ b off, a = some ⟨b, off, none⟩ ∧ ∀ j (hj : j < ms.length), ∃ fv,
    w.cell? ⟨b, off + j * 2, none⟩ = some (.string ms[j].name) ∧ w.cell? ⟨b, off + j * 2 + 1, none⟩ = some fv ∧ FTsAt w fv ms[j].fields := by
  obtain ⟨vs, h3, h, hf⟩ := h
  have hl : (List.zipWith (fun m fv => [Value.string m.name, fv]) ms vs).length = ms.length := by rw [List.length_zipWith, h3, Nat.min_self]
  obtain ⟨b, off, rfl, hc⟩ := RowsAt.at h (by intro e; rw [e] at hl; exact h0 (List.eq_nil_of_length_eq_zero hl.symm))
  refine ⟨b, off, rfl, fun j hj => ⟨vs[j]'(by omega), ?_, ?_, hf j hj (by omega)⟩⟩
  · exact hc j (by omega) 0 _ (by omega) (by rw [List.getElem_zipWith]; rfl)
  · exact hc j (by omega) 1 _ (by omega) (by rw [List.getElem_zipWith]; rfl)
theorem ETsAt.len {w : World} {v : Value} {es : List ET} (h : ETsAt w v es) : ∃ a c, v = .slice a es.length c ∧ es.length ≤ c ∧ c ≤ maxLen := by
  obtain ⟨vs, us, h3, h4, h, _⟩ := h
  obtain ⟨a, c, h0, h1, h2⟩ := RowsAt.form h
  rw [List.length_zipWith, h3, h4, Nat.min_self] at h0 h1
  exact ⟨a, c, h0, h1, h2⟩
theorem ETsAt.cells {w : World} {a : Option Addr} {n c : Nat} {es : List ET} (h : ETsAt w (.slice a n c) es) (h0 : es ≠ []) : ∃ b off, a = some ⟨b, off, none⟩ ∧ ∀ j (hj : j < es.length), ∃ nv uv,
    w.cell? ⟨b, off + j * 2, none⟩ = some nv ∧ w.cell? ⟨b, off + j * 2 + 1, none⟩ = some uv ∧ StrRows w nv es[j].names ∧ I32Rows w uv es[j].numbers := by
  obtain ⟨vs, us, h3, h4, h, hf⟩ := h
  have hl : (List.zipWith (fun nv uv => [nv, uv]) vs us).length = es.length := by rw [List.length_zipWith, h3, h4, Nat.min_self]
  obtain ⟨b, off, rfl, hc⟩ := RowsAt.at h (by intro e; rw [e] at hl; exact h0 (List.eq_nil_of_length_eq_zero hl.symm))
  refine ⟨b, off, rfl, fun j hj => ⟨vs[j]'(by omega), us[j]'(by omega), ?_, ?_, (hf j hj (by omega) (by omega)).1, (hf j hj (by omega) (by omega)).2⟩⟩
  · exact hc j (by omega) 0 _ (by omega) (by rw [List.getElem_zipWith]; rfl)
  · exact hc j (by omega) 1 _ (by omega) (by rw [List.getElem_zipWith]; rfl)

/-- A value: its bool, its numbers, its float's bits, its text, its message. -/
inductive PV where
  | mk (b : Bool) (i : Int) (u f : Nat) (s : ByteArray) (msg : List (Int × List PV))
/-- v is a slice of fields, each with its place and its values, on at most d levels. -/
def MsgAt (w : World) : Nat → Value → List (Int × List PV) → Prop
  | 0, _, _ => False
  | d + 1, v, fs => ∃ vs : List Value, vs.length = fs.length ∧ RowsAt w v 2 (List.zipWith (fun f vv => [Value.int .i64 f.1, vv]) fs vs) ∧
      ∀ j (h : j < fs.length) (h' : j < vs.length), ∃ ms : List Value, ms.length = (fs[j]).2.length ∧
        RowsAt w vs[j] 6 (List.zipWith (fun p mv => match p with | .mk b i u f s _ => [Value.bool b, .int .i64 i, .int .u64 (u : Int), .int .u64 (f : Int), .string s, mv]) (fs[j]).2 ms) ∧
        ∀ k (hk : k < (fs[j]).2.length) (hk' : k < ms.length), match (fs[j]).2[k] with
          | .mk _ i u f _ m => -9223372036854775808 ≤ i ∧ i ≤ 9223372036854775807 ∧ u < 18446744073709551616 ∧ f < 18446744073709551616 ∧ MsgAt w d ms[k] m
theorem MsgAt.keeps {w w' : World} (hk : Keeps (fun _ => False) w w') : ∀ {d : Nat} {v : Value} {fs : List (Int × List PV)}, MsgAt w d v fs → MsgAt w' d v fs
  | 0, _, _, h => h
  | d + 1, v, fs, h => by
    obtain ⟨vs, h1, h2, h3⟩ := h
    refine ⟨vs, h1, h2.keeps hk (fun _ _ => id), fun j hj hj' => ?_⟩
    obtain ⟨ms, g1, g2, g3⟩ := h3 j hj hj'
    refine ⟨ms, g1, g2.keeps hk (fun _ _ => id), fun k hk1 hk2 => ?_⟩
    have g4 := g3 k hk1 hk2
    cases he : (fs[j]).2[k] with
    | mk b i u f s m =>
      rw [he] at g4
      simp only at g4 ⊢
      exact ⟨g4.1, g4.2.1, g4.2.2.1, g4.2.2.2.1, MsgAt.keeps hk g4.2.2.2.2⟩
end Go.Proofs.YtmijjppjodpagaaGreatDoor

namespace Go.Proofs.YtmijjppjodpagaaGreatDoor
open Go.RowKit

def natOfV : Value → Nat
  | .int _ n => n.toNat
  | _ => 0
def most : Nat := 2147483647
def FTBound (f : FT) : Prop := f.name.size ≤ 2147483647
def MTBound (m : MT) : Prop := ∀ f ∈ m.fields, FTBound f
def ETBound (e : ET) : Prop := ∀ s ∈ e.names, s.size ≤ 2147483647
/-- A call answers a bool, and tells T where it is true. -/
def Tells (w : World) (T : Prop) (e : Ending) (w' : World) : Prop := ∃ b : Bool, e = .returned (.bool b) ∧ (b = true → T) ∧ Keeps (fun _ => False) w w'
theorem Tells.no {w w' : World} {T : Prop} (hk : Keeps (fun _ => False) w w') : Tells w T (.returned (.bool false)) w' := ⟨false, rfl, (fun h => by cases h), hk⟩
theorem Tells.yes {w w' : World} {T : Prop} (h : T) (hk : Keeps (fun _ => False) w w') : Tells w T (.returned (.bool true)) w' := ⟨true, rfl, fun _ => h, hk⟩

set_option maxRecDepth 1000000 in
theorem zfits5 (f : FT) (w : World) : Calls Tryz.prog 69 #[.agg #[.string f.name, .int .i64 f.number, .int .i64 f.kind, .bool f.rep, .bool f.map, .int .i64 f.type]] w (Tells w (FTBound f)) := by
  obtain ⟨s, hs⟩ : ∃ s, f.name = s := ⟨_, rfl⟩
  have HS := Lib.hid hs
  rw [hs]
  clear hs
  by_cases g1 : (2147483647 : Int) < (s.size : Int)
  · go_enter Tryz.func69, Tryz.ntmps69
    go_wp2
    go_ret
    exact Tells.no ((Keeps.refl _ w).alloc _)
  · go_enter Tryz.func69, Tryz.ntmps69
    go_wp2
    go_ret
    exact Tells.yes (by unfold FTBound; rw [HS.out]; omega) ((Keeps.refl _ w).alloc _)

set_option maxRecDepth 1000000 in
set_option maxHeartbeats 4000000 in
theorem zfits4 (v : Value) (xs : List FT) (w : World) (hv : FTsAt w v xs) : Calls Tryz.prog 47 #[v] w (Tells w (∀ x ∈ xs, FTBound x)) := by
  obtain ⟨a, c, rfl, hc, hm⟩ := hv.len
  obtain ⟨n, hn⟩ : ∃ n, xs.length = n := ⟨_, rfl⟩
  unfold maxLen at hm
  rw [hn] at hc hv ⊢
  have HX := Lib.hid hv
  have HN := Lib.hid hn
  clear hv hn
  by_cases hbig : (2147483647 : Int) < (n : Int)
  · go_enter Tryz.func47, Tryz.ntmps47
    go_wp2
    go_ret
    exact Tells.no (Keeps.refl _ w)
  · go_enter Tryz.func47, Tryz.ntmps47
    go_wp2_with (fail)
    go_loopw [10] (fun i wr => ∃ k : Nat, i = .int .i64 (k : Nat) ∧ k ≤ n ∧ Keeps (fun _ => False) w wr ∧ ∀ j (h : j < xs.length), j < k → (fun x => FTBound x) xs[j]) (fun i _ => n - natOfV i)
    case atStart => exact ⟨0, rfl, Nat.zero_le _, Keeps.refl _ _, fun j _ h => by omega⟩
    case round =>
      obtain ⟨k, rfl, hk, hkw, hall⟩ := hrel
      have HK := Lib.hid hkw
      have HA := Lib.hid hall
      clear hkw hall
      by_cases hlt : k < n
      · have t1 : (k : Int) < (n : Int) := by omega
        have t0 : (0 : Int) ≤ (k : Int) := by omega
        have hkl : k < xs.length := by rw [HN.out]; exact hlt
        obtain ⟨b, off, rfl, hcell⟩ := (HX.out.keeps HK.out).cells (by intro e; rw [e] at hkl; simp at hkl)
        have hck := hcell k hkl
        clear hcell
        obtain ⟨x, hx⟩ : ∃ x, xs[k] = x := ⟨_, rfl⟩
        rw [hx] at hck
        have HXK := Lib.hid hx
        clear hx
        obtain ⟨e0, e1, e2, e3, e4, e5⟩ := hck
        have hwr : IntKind.i64.wrap ((k : Int) + 1) = ((k + 1 : Nat) : Int) := by rw [IntWalk.i64_in _ (by omega)]; rfl
        have hcall := fun w' (_ : Keeps (fun _ => False) wr w') => zfits5 x w'
        go_wp2_with (go_at_call 69; refine (hcall _ (by repeat (first | exact Keeps.refl _ _ | apply Keeps.alloc))).mono ?_; rintro e w2 ⟨bb, rfl, hbb, hk2⟩; have HBB := Lib.hid hbb; have HK2 := Lib.hid (((Keeps.refl _ wr).alloc _).trans hk2 (fun _ _ => id)); clear hbb hk2; cases bb)
        · go_ret
          exact Tells.no (HK.out.trans HK2.out (fun _ _ => id))
        · go_roundw
          case rel =>
            refine ⟨k + 1, rfl, by omega, HK.out.trans HK2.out (fun _ _ => id), fun j hj hjk => ?_⟩
            by_cases h1 : j < k
            · exact HA.out j hj h1
            · obtain rfl : j = k := by omega
              rw [HXK.out]
              exact HBB.out (by first | rfl | trivial)
          case measure => simp [natOfV]; omega

      · have t1 : ¬ (k : Int) < (n : Int) := by omega
        go_wp2_with (fail)
        go_ret
        refine Tells.yes (fun x hx => ?_) HK.out
        obtain ⟨j, hj, rfl⟩ := List.getElem_of_mem hx
        exact HA.out j hj (by have := HN.out; omega)

set_option maxRecDepth 1000000 in
set_option maxHeartbeats 4000000 in
theorem zfits3 (m : MT) (fv : Value) (w : World) (hf : FTsAt w fv m.fields) : Calls Tryz.prog 25 #[.agg #[.string m.name, fv]] w (Tells w (MTBound m)) := by
  obtain ⟨s, hs⟩ : ∃ s, m.name = s := ⟨_, rfl⟩
  rw [hs]
  clear hs
  obtain ⟨a, c, hfv, _, _⟩ := hf.len
  obtain ⟨n, hn⟩ : ∃ n, m.fields.length = n := ⟨_, rfl⟩
  rw [hn] at hfv
  subst hfv
  clear hn
  have hcall := fun w' (hk : Keeps (fun _ => False) w w') => zfits4 _ m.fields w' (hf.keeps hk)
  have HC := Lib.hid hcall
  clear hcall hf
  by_cases g1 : (2147483647 : Int) < (s.size : Int)
  · go_enter Tryz.func25, Tryz.ntmps25
    go_wp2
    go_ret
    exact Tells.no ((Keeps.refl _ w).alloc _)
  · go_enter Tryz.func25, Tryz.ntmps25
    go_wp2_with (go_at_call 47; refine (HC.out _ ((Keeps.refl _ w).alloc _)).mono ?_; rintro e w2 ⟨bb, rfl, hbb, hk2⟩; have HBB := Lib.hid hbb; have HK2 := Lib.hid (((Keeps.refl _ w).alloc _).trans hk2 (fun _ _ => id)); clear hbb hk2; cases bb)
    · go_ret
      exact Tells.no HK2.out
    · go_ret
      exact Tells.yes (HBB.out (by first | rfl | trivial)) HK2.out

set_option maxRecDepth 1000000 in
set_option maxHeartbeats 4000000 in
theorem zfits2 (v : Value) (xs : List MT) (w : World) (hv : MTsAt w v xs) : Calls Tryz.prog 11 #[v] w (Tells w (∀ x ∈ xs, MTBound x)) := by
  obtain ⟨a, c, rfl, hc, hm⟩ := hv.len
  obtain ⟨n, hn⟩ : ∃ n, xs.length = n := ⟨_, rfl⟩
  unfold maxLen at hm
  rw [hn] at hc hv ⊢
  have HX := Lib.hid hv
  have HN := Lib.hid hn
  clear hv hn
  by_cases hbig : (2147483647 : Int) < (n : Int)
  · go_enter Tryz.func11, Tryz.ntmps11
    go_wp2
    go_ret
    exact Tells.no (Keeps.refl _ w)
  · go_enter Tryz.func11, Tryz.ntmps11
    go_wp2_with (fail)
    go_loopw [10] (fun i wr => ∃ k : Nat, i = .int .i64 (k : Nat) ∧ k ≤ n ∧ Keeps (fun _ => False) w wr ∧ ∀ j (h : j < xs.length), j < k → (fun x => MTBound x) xs[j]) (fun i _ => n - natOfV i)
    case atStart => exact ⟨0, rfl, Nat.zero_le _, Keeps.refl _ _, fun j _ h => by omega⟩
    case round =>
      obtain ⟨k, rfl, hk, hkw, hall⟩ := hrel
      have HK := Lib.hid hkw
      have HA := Lib.hid hall
      clear hkw hall
      by_cases hlt : k < n
      · have t1 : (k : Int) < (n : Int) := by omega
        have t0 : (0 : Int) ≤ (k : Int) := by omega
        have hkl : k < xs.length := by rw [HN.out]; exact hlt
        obtain ⟨b, off, rfl, hcell⟩ := (HX.out.keeps HK.out).cells (by intro e; rw [e] at hkl; simp at hkl)
        have hck := hcell k hkl
        clear hcell
        obtain ⟨x, hx⟩ : ∃ x, xs[k] = x := ⟨_, rfl⟩
        rw [hx] at hck
        have HXK := Lib.hid hx
        clear hx
        obtain ⟨fv, e0, e1, hfv⟩ := hck
        obtain ⟨af, cf, hff, _, _⟩ := hfv.len
        obtain ⟨nf, hnf⟩ : ∃ nf, x.fields.length = nf := ⟨_, rfl⟩
        rw [hnf] at hff
        subst hff
        have HFV := Lib.hid hfv
        clear hfv hnf
        have hwr : IntKind.i64.wrap ((k : Int) + 1) = ((k + 1 : Nat) : Int) := by rw [IntWalk.i64_in _ (by omega)]; rfl
        have hcall := fun w' (hk : Keeps (fun _ => False) wr w') => zfits3 x _ w' (HFV.out.keeps hk)
        go_wp2_with (go_at_call 25; refine (hcall _ (by repeat (first | exact Keeps.refl _ _ | apply Keeps.alloc))).mono ?_; rintro e w2 ⟨bb, rfl, hbb, hk2⟩; have HBB := Lib.hid hbb; have HK2 := Lib.hid (((Keeps.refl _ wr).alloc _).trans hk2 (fun _ _ => id)); clear hbb hk2; cases bb)
        · go_ret
          exact Tells.no (HK.out.trans HK2.out (fun _ _ => id))
        · go_roundw
          case rel =>
            refine ⟨k + 1, rfl, by omega, HK.out.trans HK2.out (fun _ _ => id), fun j hj hjk => ?_⟩
            by_cases h1 : j < k
            · exact HA.out j hj h1
            · obtain rfl : j = k := by omega
              rw [HXK.out]
              exact HBB.out (by first | rfl | trivial)
          case measure => simp [natOfV]; omega

      · have t1 : ¬ (k : Int) < (n : Int) := by omega
        go_wp2_with (fail)
        go_ret
        refine Tells.yes (fun x hx => ?_) HK.out
        obtain ⟨j, hj, rfl⟩ := List.getElem_of_mem hx
        exact HA.out j hj (by have := HN.out; omega)

set_option maxRecDepth 1000000 in
set_option maxHeartbeats 4000000 in
theorem zfits8 (v : Value) (xs : List ByteArray) (w : World) (hv : StrRows w v xs) : Calls Tryz.prog 48 #[v] w (Tells w (∀ x ∈ xs, x.size ≤ 2147483647)) := by
  obtain ⟨a, c, rfl, hc, hm⟩ := hv.len
  obtain ⟨n, hn⟩ : ∃ n, xs.length = n := ⟨_, rfl⟩
  unfold maxLen at hm
  rw [hn] at hc hv ⊢
  have HX := Lib.hid hv
  have HN := Lib.hid hn
  clear hv hn
  by_cases hbig : (2147483647 : Int) < (n : Int)
  · go_enter Tryz.func48, Tryz.ntmps48
    go_wp2
    go_ret
    exact Tells.no (Keeps.refl _ w)
  · go_enter Tryz.func48, Tryz.ntmps48
    go_wp2_with (fail)
    go_loopw [10] (fun i wr => ∃ k : Nat, i = .int .i64 (k : Nat) ∧ k ≤ n ∧ Keeps (fun _ => False) w wr ∧ ∀ j (h : j < xs.length), j < k → (fun x => x.size ≤ 2147483647) xs[j]) (fun i _ => n - natOfV i)
    case atStart => exact ⟨0, rfl, Nat.zero_le _, Keeps.refl _ _, fun j _ h => by omega⟩
    case round =>
      obtain ⟨k, rfl, hk, hkw, hall⟩ := hrel
      have HK := Lib.hid hkw
      have HA := Lib.hid hall
      clear hkw hall
      by_cases hlt : k < n
      · have t1 : (k : Int) < (n : Int) := by omega
        have t0 : (0 : Int) ≤ (k : Int) := by omega
        have hkl : k < xs.length := by rw [HN.out]; exact hlt
        obtain ⟨b, off, rfl, hcell⟩ := (HX.out.keeps HK.out).cells (by intro e; rw [e] at hkl; simp at hkl)
        have hck := hcell k hkl
        clear hcell
        obtain ⟨x, hx⟩ : ∃ x, xs[k] = x := ⟨_, rfl⟩
        rw [hx] at hck
        have HXK := Lib.hid hx
        clear hx
        have e0 := hck
        have hwr : IntKind.i64.wrap ((k : Int) + 1) = ((k + 1 : Nat) : Int) := by rw [IntWalk.i64_in _ (by omega)]; rfl
        by_cases hb : (2147483647 : Int) < (x.size : Int)
        · go_wp2
          go_ret
          exact Tells.no HK.out
        · go_wp2
          go_roundw
          case rel =>
            refine ⟨k + 1, rfl, by omega, HK.out, fun j hj hjk => ?_⟩
            by_cases h1 : j < k
            · exact HA.out j hj h1
            · obtain rfl : j = k := by omega
              rw [HXK.out]
              show x.size ≤ 2147483647
              omega
          case measure => simp [natOfV]; omega

      · have t1 : ¬ (k : Int) < (n : Int) := by omega
        go_wp2_with (fail)
        go_ret
        refine Tells.yes (fun x hx => ?_) HK.out
        obtain ⟨j, hj, rfl⟩ := List.getElem_of_mem hx
        exact HA.out j hj (by have := HN.out; omega)

set_option maxRecDepth 1000000 in
set_option maxHeartbeats 4000000 in
theorem zfits7 (x : ET) (nv uv : Value) (w : World) (hn : StrRows w nv x.names) (hu : I32Rows w uv x.numbers) : Calls Tryz.prog 26 #[.agg #[nv, uv]] w (Tells w (ETBound x)) := by
  obtain ⟨a, c, hfv, _, _⟩ := hn.len
  obtain ⟨n, hnn⟩ : ∃ n, x.names.length = n := ⟨_, rfl⟩
  rw [hnn] at hfv
  subst hfv
  clear hnn
  obtain ⟨a2, c2, hfu, _, _⟩ := hu.len
  obtain ⟨n2, hn2⟩ : ∃ n, x.numbers.length = n := ⟨_, rfl⟩
  rw [hn2] at hfu
  subst hfu
  clear hn2 hu
  have hcall := fun w' (hk : Keeps (fun _ => False) w w') => zfits8 _ x.names w' (hn.keeps hk)
  have HC := Lib.hid hcall
  clear hcall hn
  by_cases g1 : (2147483647 : Int) < (n2 : Int)
  · go_enter Tryz.func26, Tryz.ntmps26
    go_wp2_with (go_at_call 48; refine (HC.out _ ((Keeps.refl _ w).alloc _)).mono ?_; rintro e w2 ⟨bb, rfl, hbb, hk2⟩; have HBB := Lib.hid hbb; have HR2 := Lib.hid (hk2.row (heap_alloc_new w _) id); have q1 := cell_row (j := 1) HR2.out; simp at q1; have HK2 := Lib.hid (((Keeps.refl _ w).alloc _).trans hk2 (fun _ _ => id)); clear hbb hk2; cases bb)
    all_goals go_ret
    all_goals exact Tells.no HK2.out
  · go_enter Tryz.func26, Tryz.ntmps26
    go_wp2_with (go_at_call 48; refine (HC.out _ ((Keeps.refl _ w).alloc _)).mono ?_; rintro e w2 ⟨bb, rfl, hbb, hk2⟩; have HBB := Lib.hid hbb; have HR2 := Lib.hid (hk2.row (heap_alloc_new w _) id); have q1 := cell_row (j := 1) HR2.out; simp at q1; have HK2 := Lib.hid (((Keeps.refl _ w).alloc _).trans hk2 (fun _ _ => id)); clear hbb hk2; cases bb)
    · go_ret
      exact Tells.no HK2.out
    · go_ret
      exact Tells.yes (HBB.out (by first | rfl | trivial)) HK2.out

set_option maxRecDepth 1000000 in
set_option maxHeartbeats 4000000 in
theorem zfits6 (v : Value) (xs : List ET) (w : World) (hv : ETsAt w v xs) : Calls Tryz.prog 12 #[v] w (Tells w (∀ x ∈ xs, ETBound x)) := by
  obtain ⟨a, c, rfl, hc, hm⟩ := hv.len
  obtain ⟨n, hn⟩ : ∃ n, xs.length = n := ⟨_, rfl⟩
  unfold maxLen at hm
  rw [hn] at hc hv ⊢
  have HX := Lib.hid hv
  have HN := Lib.hid hn
  clear hv hn
  by_cases hbig : (2147483647 : Int) < (n : Int)
  · go_enter Tryz.func12, Tryz.ntmps12
    go_wp2
    go_ret
    exact Tells.no (Keeps.refl _ w)
  · go_enter Tryz.func12, Tryz.ntmps12
    go_wp2_with (fail)
    go_loopw [10] (fun i wr => ∃ k : Nat, i = .int .i64 (k : Nat) ∧ k ≤ n ∧ Keeps (fun _ => False) w wr ∧ ∀ j (h : j < xs.length), j < k → (fun x => ETBound x) xs[j]) (fun i _ => n - natOfV i)
    case atStart => exact ⟨0, rfl, Nat.zero_le _, Keeps.refl _ _, fun j _ h => by omega⟩
    case round =>
      obtain ⟨k, rfl, hk, hkw, hall⟩ := hrel
      have HK := Lib.hid hkw
      have HA := Lib.hid hall
      clear hkw hall
      by_cases hlt : k < n
      · have t1 : (k : Int) < (n : Int) := by omega
        have t0 : (0 : Int) ≤ (k : Int) := by omega
        have hkl : k < xs.length := by rw [HN.out]; exact hlt
        obtain ⟨b, off, rfl, hcell⟩ := (HX.out.keeps HK.out).cells (by intro e; rw [e] at hkl; simp at hkl)
        have hck := hcell k hkl
        clear hcell
        obtain ⟨x, hx⟩ : ∃ x, xs[k] = x := ⟨_, rfl⟩
        rw [hx] at hck
        have HXK := Lib.hid hx
        clear hx
        obtain ⟨nv, uv, e0, e1, hnv, huv⟩ := hck
        obtain ⟨af, cf, hff, _, _⟩ := hnv.len
        obtain ⟨nf, hnf⟩ : ∃ nf, x.names.length = nf := ⟨_, rfl⟩
        rw [hnf] at hff
        subst hff
        obtain ⟨ag, cg, hgg, _, _⟩ := huv.len
        obtain ⟨ng, hng⟩ : ∃ ng, x.numbers.length = ng := ⟨_, rfl⟩
        rw [hng] at hgg
        subst hgg
        have HNV := Lib.hid hnv
        have HUV := Lib.hid huv
        clear hnv huv hnf hng
        have hwr : IntKind.i64.wrap ((k : Int) + 1) = ((k + 1 : Nat) : Int) := by rw [IntWalk.i64_in _ (by omega)]; rfl
        have hcall := fun w' (hk : Keeps (fun _ => False) wr w') => zfits7 x _ _ w' (HNV.out.keeps hk) (HUV.out.keeps hk)
        go_wp2_with (go_at_call 26; refine (hcall _ (by repeat (first | exact Keeps.refl _ _ | apply Keeps.alloc))).mono ?_; rintro e w2 ⟨bb, rfl, hbb, hk2⟩; have HBB := Lib.hid hbb; have HK2 := Lib.hid (((Keeps.refl _ wr).alloc _).trans hk2 (fun _ _ => id)); clear hbb hk2; cases bb)
        · go_ret
          exact Tells.no (HK.out.trans HK2.out (fun _ _ => id))
        · go_roundw
          case rel =>
            refine ⟨k + 1, rfl, by omega, HK.out.trans HK2.out (fun _ _ => id), fun j hj hjk => ?_⟩
            by_cases h1 : j < k
            · exact HA.out j hj h1
            · obtain rfl : j = k := by omega
              rw [HXK.out]
              exact HBB.out (by first | rfl | trivial)
          case measure => simp [natOfV]; omega

      · have t1 : ¬ (k : Int) < (n : Int) := by omega
        go_wp2_with (fail)
        go_ret
        refine Tells.yes (fun x hx => ?_) HK.out
        obtain ⟨j, hj, rfl⟩ := List.getElem_of_mem hx
        exact HA.out j hj (by have := HN.out; omega)

set_option maxRecDepth 1000000 in
set_option maxHeartbeats 4000000 in
theorem zfits1 (x y : Value) (S : Sch) (w : World) (h : SchAt w x y S) : Calls Tryz.prog 4 #[.agg #[x, y]] w (Tells w ((∀ m ∈ S.msgs, MTBound m) ∧ ∀ e ∈ S.enums, ETBound e)) := by
  obtain ⟨a, c, hfv, _, _⟩ := h.1.len
  obtain ⟨a2, c2, hfu, _, _⟩ := h.2.len
  obtain ⟨n, hnn⟩ : ∃ n, S.msgs.length = n := ⟨_, rfl⟩
  obtain ⟨n2, hn2⟩ : ∃ n, S.enums.length = n := ⟨_, rfl⟩
  rw [hnn] at hfv
  rw [hn2] at hfu
  subst hfv hfu
  clear hnn hn2
  have HC2 := Lib.hid (fun w' (hk : Keeps (fun _ => False) w w') => zfits2 _ S.msgs w' (h.1.keeps hk))
  have HC6 := Lib.hid (fun w' (hk : Keeps (fun _ => False) w w') => zfits6 _ S.enums w' (h.2.keeps hk))
  clear h
  go_enter Tryz.func4, Tryz.ntmps4
  go_wp2_with (first
    | (go_at_call 11; refine (HC2.out _ ((Keeps.refl _ w).alloc _)).mono ?_; rintro e w2 ⟨bb, rfl, hbb, hk2⟩; have HBB := Lib.hid hbb; have HR2 := Lib.hid (hk2.row (heap_alloc_new w _) id); have q1 := cell_row (j := 1) HR2.out; simp at q1; have HK2 := Lib.hid (((Keeps.refl _ w).alloc _).trans hk2 (fun _ _ => id)); clear hbb hk2; cases bb)
    | (go_at_call 12; refine (HC6.out _ HK2.out).mono ?_; rintro e w3 ⟨b3, rfl, hb3, hk3⟩; have HB3 := Lib.hid hb3; have HK3 := Lib.hid (HK2.out.trans hk3 (fun _ _ => id)); clear hb3 hk3; cases b3))
  · go_ret
    exact Tells.no HK2.out
  · go_ret
    exact Tells.no HK3.out
  · go_ret
    exact Tells.yes ⟨HBB.out (by first | rfl | trivial), HB3.out (by first | rfl | trivial)⟩ HK3.out
end Go.Proofs.YtmijjppjodpagaaGreatDoor
