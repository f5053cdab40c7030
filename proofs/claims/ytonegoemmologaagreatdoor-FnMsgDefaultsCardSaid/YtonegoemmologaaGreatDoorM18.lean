/-
  The bounds on lengths (zzFits1 to zzFits8) over a schema: what they answer, and what it tells where it is true.
  numDigits, formatBase10 and setDigits: total, and functions of their numbers.
  The digits that setDigits writes: their number; without the noughts at the end.
  fmtEFG: the first n cells of a buffer, and slices of it.
-/
import Derived.Test.YtonegoemmologaaGreatDoorM08
import Derived.Deep.DeepCutAuto
import Derived.Test.YtonegoemmologaaGreatDoorM04
import Derived.Lib.ItoaLen
import Derived.BigQuiet
import Derived.Test.YtonegoemmologaaGreatDoorM06
import Derived.Test.YtonegoemmologaaGreatDoorM02
set_option linter.unusedVariables false
set_option linter.unusedSimpArgs false
namespace Go.Proofs.YtonegoemmologaaGreatDoor
open Go.RowKit
def natOfV : Value → Nat
 | .int _ n => n.toNat
 | _ => 0
def most : Nat := 2147483647
def FTBound (f : FT) : Prop := f.name.size ≤ 2147483647
def MTBound (m : MT) : Prop := ∀ f ∈ m.fields, FTBound f
def ETBound (e : ET) : Prop := ∀ s ∈ e.names, s.size ≤ 2147483647
def Tells (w : World) (T : Prop) (e : Ending) (w' : World) : Prop := ∃ b : Bool, e = .returned (.bool b) ∧ (b = true → T) ∧ Keeps (fun _ => False) w w'
theorem Tells.no {w w' : World} {T : Prop} (hk : Keeps (fun _ => False) w w') : Tells w T (.returned (.bool false)) w' := ⟨false, rfl, (fun h => by cases h), hk⟩
theorem Tells.yes {w w' : World} {T : Prop} (h : T) (hk : Keeps (fun _ => False) w w') : Tells w T (.returned (.bool true)) w' := ⟨true, rfl, fun _ => h, hk⟩
set_option maxRecDepth 1000000 in
theorem zfits5 (f : FT) (w : World) : Calls Tryz.prog 81 #[.agg #[.string f.name, .int .i64 f.number, .int .i64 f.kind, .bool f.rep, .bool f.map, .int .i64 f.type]] w (Tells w (FTBound f)) := by
 obtain ⟨s, hs⟩ : ∃ s, f.name = s := ⟨_, rfl⟩
 have HS := Lib.hid hs
 rw [hs]
 clear hs
 by_cases g1 : (2147483647 : Int) < (s.size : Int)
 · go_enter Tryz.func81, Tryz.ntmps81
   go_wp2
   go_ret
   exact Tells.no ((Keeps.refl _ w).alloc _)
 · go_enter Tryz.func81, Tryz.ntmps81
   go_wp2
   go_ret
   exact Tells.yes (by unfold FTBound; rw [HS.out]; omega) ((Keeps.refl _ w).alloc _)
set_option maxRecDepth 1000000 in
set_option maxHeartbeats 4000000 in
theorem zfits4 (v : Value) (xs : List FT) (w : World) (hv : FTsAt w v xs) : Calls Tryz.prog 61 #[v] w (Tells w (∀ x ∈ xs, FTBound x)) := by
 obtain ⟨a, c, rfl, hc, hm⟩ := hv.len
 obtain ⟨n, hn⟩ : ∃ n, xs.length = n := ⟨_, rfl⟩
 unfold maxLen at hm
 rw [hn] at hc hv ⊢
 have HX := Lib.hid hv
 have HN := Lib.hid hn
 clear hv hn
 by_cases hbig : (2147483647 : Int) < (n : Int)
 · go_enter Tryz.func61, Tryz.ntmps61
   go_wp2
   go_ret
   exact Tells.no (Keeps.refl _ w)
 · go_enter Tryz.func61, Tryz.ntmps61
   go_wp2_with (fail)
   go_loopw [10] (fun i wr => ∃ k : Nat, i = .int .i64 (k : Nat) ∧ k ≤ n ∧ Keeps (fun _ => False) w wr ∧ ∀ j (h : j < xs.length), j < k → (fun x => FTBound x) xs[j]) (fun i _ => n - natOfV i)
   case atStart => exact ⟨0, rfl, Nat.zero_le _, Keeps.refl _ _, fun j _ h => by omega⟩
   case round =>
    obtain ⟨k, rfl, hk, hkw, hall⟩ := hrel
    have HK := Lib.hid hkw
    have HA := Lib.hid hall
    clear hkw hall
    by_cases hlt : k < n
    · have t1 : (k : Int) < (n : Int) := by omega
      have t0 : (0 : Int) ≤ (k : Int) := by omega
      have hkl : k < xs.length := by rw [HN.out]; exact hlt
      obtain ⟨b, off, rfl, hcell⟩ := (HX.out.keeps HK.out).cells (by intro e; rw [e] at hkl; simp at hkl)
      have hck := hcell k hkl
      clear hcell
      obtain ⟨x, hx⟩ : ∃ x, xs[k] = x := ⟨_, rfl⟩
      rw [hx] at hck
      have HXK := Lib.hid hx
      clear hx
      obtain ⟨e0, e1, e2, e3, e4, e5⟩ := hck
      have hwr : IntKind.i64.wrap ((k : Int) + 1) = ((k + 1 : Nat) : Int) := by rw [IntWalk.i64_in _ (by omega)]; rfl
      have hcall := fun w' (_ : Keeps (fun _ => False) wr w') => zfits5 x w'
      go_wp2_with (go_at_call 81; refine (hcall _ (by repeat (first | exact Keeps.refl _ _ | apply Keeps.alloc))).mono ?_; rintro e w2 ⟨bb, rfl, hbb, hk2⟩; have HBB := Lib.hid hbb; have HK2 := Lib.hid (((Keeps.refl _ wr).alloc _).trans hk2 (fun _ _ => id)); clear hbb hk2; cases bb)
      · go_ret
        exact Tells.no (HK.out.trans HK2.out (fun _ _ => id))
      · go_roundw
        case rel =>
         refine ⟨k + 1, rfl, by omega, HK.out.trans HK2.out (fun _ _ => id), fun j hj hjk => ?_⟩
         by_cases h1 : j < k
         · exact HA.out j hj h1
         · obtain rfl : j = k := by omega
           rw [HXK.out]
           exact HBB.out (by first | rfl | trivial)
        case measure => simp [natOfV]; omega
    · have t1 : ¬ (k : Int) < (n : Int) := by omega
      go_wp2_with (fail)
      go_ret
      refine Tells.yes (fun x hx => ?_) HK.out
      obtain ⟨j, hj, rfl⟩ := List.getElem_of_mem hx
      exact HA.out j hj (by have := HN.out; omega)
set_option maxRecDepth 1000000 in
set_option maxHeartbeats 4000000 in
theorem zfits3 (m : MT) (fv : Value) (w : World) (hf : FTsAt w fv m.fields) : Calls Tryz.prog 25 #[.agg #[.string m.name, fv]] w (Tells w (MTBound m)) := by
 obtain ⟨s, hs⟩ : ∃ s, m.name = s := ⟨_, rfl⟩
 rw [hs]
 clear hs
 obtain ⟨a, c, hfv, _, _⟩ := hf.len
 obtain ⟨n, hn⟩ : ∃ n, m.fields.length = n := ⟨_, rfl⟩
 rw [hn] at hfv
 subst hfv
 clear hn
 have hcall := fun w' (hk : Keeps (fun _ => False) w w') => zfits4 _ m.fields w' (hf.keeps hk)
 have HC := Lib.hid hcall
 clear hcall hf
 by_cases g1 : (2147483647 : Int) < (s.size : Int)
 · go_enter Tryz.func25, Tryz.ntmps25
   go_wp2
   go_ret
   exact Tells.no ((Keeps.refl _ w).alloc _)
 · go_enter Tryz.func25, Tryz.ntmps25
   go_wp2_with (go_at_call 61; refine (HC.out _ ((Keeps.refl _ w).alloc _)).mono ?_; rintro e w2 ⟨bb, rfl, hbb, hk2⟩; have HBB := Lib.hid hbb; have HK2 := Lib.hid (((Keeps.refl _ w).alloc _).trans hk2 (fun _ _ => id)); clear hbb hk2; cases bb)
   · go_ret
     exact Tells.no HK2.out
   · go_ret
     exact Tells.yes (HBB.out (by first | rfl | trivial)) HK2.out
set_option maxRecDepth 1000000 in
set_option maxHeartbeats 4000000 in
theorem zfits2 (v : Value) (xs : List MT) (w : World) (hv : MTsAt w v xs) : Calls Tryz.prog 11 #[v] w (Tells w (∀ x ∈ xs, MTBound x)) := by
 obtain ⟨a, c, rfl, hc, hm⟩ := hv.len
 obtain ⟨n, hn⟩ : ∃ n, xs.length = n := ⟨_, rfl⟩
 unfold maxLen at hm
 rw [hn] at hc hv ⊢
 have HX := Lib.hid hv
 have HN := Lib.hid hn
 clear hv hn
 by_cases hbig : (2147483647 : Int) < (n : Int)
 · go_enter Tryz.func11, Tryz.ntmps11
   go_wp2
   go_ret
   exact Tells.no (Keeps.refl _ w)
 · go_enter Tryz.func11, Tryz.ntmps11
   go_wp2_with (fail)
   go_loopw [10] (fun i wr => ∃ k : Nat, i = .int .i64 (k : Nat) ∧ k ≤ n ∧ Keeps (fun _ => False) w wr ∧ ∀ j (h : j < xs.length), j < k → (fun x => MTBound x) xs[j]) (fun i _ => n - natOfV i)
   case atStart => exact ⟨0, rfl, Nat.zero_le _, Keeps.refl _ _, fun j _ h => by omega⟩
   case round =>
    obtain ⟨k, rfl, hk, hkw, hall⟩ := hrel
    have HK := Lib.hid hkw
    have HA := Lib.hid hall
    clear hkw hall
    by_cases hlt : k < n
    · have t1 : (k : Int) < (n : Int) := by omega
      have t0 : (0 : Int) ≤ (k : Int) := by omega
      have hkl : k < xs.length := by rw [HN.out]; exact hlt
      obtain ⟨b, off, rfl, hcell⟩ := (HX.out.keeps HK.out).cells (by intro e; rw [e] at hkl; simp at hkl)
      have hck := hcell k hkl
      clear hcell
      obtain ⟨x, hx⟩ : ∃ x, xs[k] = x := ⟨_, rfl⟩
      rw [hx] at hck
      have HXK := Lib.hid hx
      clear hx
      obtain ⟨fv, e0, e1, hfv⟩ := hck
      obtain ⟨af, cf, hff, _, _⟩ := hfv.len
      obtain ⟨nf, hnf⟩ : ∃ nf, x.fields.length = nf := ⟨_, rfl⟩
      rw [hnf] at hff
      subst hff
      have HFV := Lib.hid hfv
      clear hfv hnf
      have hwr : IntKind.i64.wrap ((k : Int) + 1) = ((k + 1 : Nat) : Int) := by rw [IntWalk.i64_in _ (by omega)]; rfl
      have hcall := fun w' (hk : Keeps (fun _ => False) wr w') => zfits3 x _ w' (HFV.out.keeps hk)
      go_wp2_with (go_at_call 25; refine (hcall _ (by repeat (first | exact Keeps.refl _ _ | apply Keeps.alloc))).mono ?_; rintro e w2 ⟨bb, rfl, hbb, hk2⟩; have HBB := Lib.hid hbb; have HK2 := Lib.hid (((Keeps.refl _ wr).alloc _).trans hk2 (fun _ _ => id)); clear hbb hk2; cases bb)
      · go_ret
        exact Tells.no (HK.out.trans HK2.out (fun _ _ => id))
      · go_roundw
        case rel =>
         refine ⟨k + 1, rfl, by omega, HK.out.trans HK2.out (fun _ _ => id), fun j hj hjk => ?_⟩
         by_cases h1 : j < k
         · exact HA.out j hj h1
         · obtain rfl : j = k := by omega
           rw [HXK.out]
           exact HBB.out (by first | rfl | trivial)
        case measure => simp [natOfV]; omega
    · have t1 : ¬ (k : Int) < (n : Int) := by omega
      go_wp2_with (fail)
      go_ret
      refine Tells.yes (fun x hx => ?_) HK.out
      obtain ⟨j, hj, rfl⟩ := List.getElem_of_mem hx
      exact HA.out j hj (by have := HN.out; omega)
set_option maxRecDepth 1000000 in
set_option maxHeartbeats 4000000 in
theorem zfits8 (v : Value) (xs : List ByteArray) (w : World) (hv : StrRows w v xs) : Calls Tryz.prog 62 #[v] w (Tells w (∀ x ∈ xs, x.size ≤ 2147483647)) := by
 obtain ⟨a, c, rfl, hc, hm⟩ := hv.len
 obtain ⟨n, hn⟩ : ∃ n, xs.length = n := ⟨_, rfl⟩
 unfold maxLen at hm
 rw [hn] at hc hv ⊢
 have HX := Lib.hid hv
 have HN := Lib.hid hn
 clear hv hn
 by_cases hbig : (2147483647 : Int) < (n : Int)
 · go_enter Tryz.func62, Tryz.ntmps62
   go_wp2
   go_ret
   exact Tells.no (Keeps.refl _ w)
 · go_enter Tryz.func62, Tryz.ntmps62
   go_wp2_with (fail)
   go_loopw [10] (fun i wr => ∃ k : Nat, i = .int .i64 (k : Nat) ∧ k ≤ n ∧ Keeps (fun _ => False) w wr ∧ ∀ j (h : j < xs.length), j < k → (fun x => x.size ≤ 2147483647) xs[j]) (fun i _ => n - natOfV i)
   case atStart => exact ⟨0, rfl, Nat.zero_le _, Keeps.refl _ _, fun j _ h => by omega⟩
   case round =>
    obtain ⟨k, rfl, hk, hkw, hall⟩ := hrel
    have HK := Lib.hid hkw
    have HA := Lib.hid hall
    clear hkw hall
    by_cases hlt : k < n
    · have t1 : (k : Int) < (n : Int) := by omega
      have t0 : (0 : Int) ≤ (k : Int) := by omega
      have hkl : k < xs.length := by rw [HN.out]; exact hlt
      obtain ⟨b, off, rfl, hcell⟩ := (HX.out.keeps HK.out).cells (by intro e; rw [e] at hkl; simp at hkl)
      have hck := hcell k hkl
      clear hcell
      obtain ⟨x, hx⟩ : ∃ x, xs[k] = x := ⟨_, rfl⟩
      rw [hx] at hck
      have HXK := Lib.hid hx
      clear hx
      have e0 := hck
      have hwr : IntKind.i64.wrap ((k : Int) + 1) = ((k + 1 : Nat) : Int) := by rw [IntWalk.i64_in _ (by omega)]; rfl
      by_cases hb : (2147483647 : Int) < (x.size : Int)
      · go_wp2
        go_ret
        exact Tells.no HK.out
      · go_wp2
        go_roundw
        case rel =>
         refine ⟨k + 1, rfl, by omega, HK.out, fun j hj hjk => ?_⟩
         by_cases h1 : j < k
         · exact HA.out j hj h1
         · obtain rfl : j = k := by omega
           rw [HXK.out]
           show x.size ≤ 2147483647
           omega
        case measure => simp [natOfV]; omega
    · have t1 : ¬ (k : Int) < (n : Int) := by omega
      go_wp2_with (fail)
      go_ret
      refine Tells.yes (fun x hx => ?_) HK.out
      obtain ⟨j, hj, rfl⟩ := List.getElem_of_mem hx
      exact HA.out j hj (by have := HN.out; omega)
set_option maxRecDepth 1000000 in
set_option maxHeartbeats 4000000 in
theorem zfits7 (x : ET) (nv uv : Value) (w : World) (hn : StrRows w nv x.names) (hu : I32Rows w uv x.numbers) : Calls Tryz.prog 26 #[.agg #[nv, uv]] w (Tells w (ETBound x)) := by
 obtain ⟨a, c, hfv, _, _⟩ := hn.len
 obtain ⟨n, hnn⟩ : ∃ n, x.names.length = n := ⟨_, rfl⟩
 rw [hnn] at hfv
 subst hfv
 clear hnn
 obtain ⟨a2, c2, hfu, _, _⟩ := hu.len
 obtain ⟨n2, hn2⟩ : ∃ n, x.numbers.length = n := ⟨_, rfl⟩
 rw [hn2] at hfu
 subst hfu
 clear hn2 hu
 have hcall := fun w' (hk : Keeps (fun _ => False) w w') => zfits8 _ x.names w' (hn.keeps hk)
 have HC := Lib.hid hcall
 clear hcall hn
 by_cases g1 : (2147483647 : Int) < (n2 : Int)
 · go_enter Tryz.func26, Tryz.ntmps26
   go_wp2_with (go_at_call 62; refine (HC.out _ ((Keeps.refl _ w).alloc _)).mono ?_; rintro e w2 ⟨bb, rfl, hbb, hk2⟩; have HBB := Lib.hid hbb; have HR2 := Lib.hid (hk2.row (heap_alloc_new w _) id); have q1 := cell_row (j := 1) HR2.out; simp at q1; have HK2 := Lib.hid (((Keeps.refl _ w).alloc _).trans hk2 (fun _ _ => id)); clear hbb hk2; cases bb)
   all_goals go_ret
   all_goals exact Tells.no HK2.out
 · go_enter Tryz.func26, Tryz.ntmps26
   go_wp2_with (go_at_call 62; refine (HC.out _ ((Keeps.refl _ w).alloc _)).mono ?_; rintro e w2 ⟨bb, rfl, hbb, hk2⟩; have HBB := Lib.hid hbb; have HR2 := Lib.hid (hk2.row (heap_alloc_new w _) id); have q1 := cell_row (j := 1) HR2.out; simp at q1; have HK2 := Lib.hid (((Keeps.refl _ w).alloc _).trans hk2 (fun _ _ => id)); clear hbb hk2; cases bb)
   · go_ret
     exact Tells.no HK2.out
   · go_ret
     exact Tells.yes (HBB.out (by first | rfl | trivial)) HK2.out
set_option maxRecDepth 1000000 in
set_option maxHeartbeats 4000000 in
theorem zfits6 (v : Value) (xs : List ET) (w : World) (hv : ETsAt w v xs) : Calls Tryz.prog 12 #[v] w (Tells w (∀ x ∈ xs, ETBound x)) := by
 obtain ⟨a, c, rfl, hc, hm⟩ := hv.len
 obtain ⟨n, hn⟩ : ∃ n, xs.length = n := ⟨_, rfl⟩
 unfold maxLen at hm
 rw [hn] at hc hv ⊢
 have HX := Lib.hid hv
 have HN := Lib.hid hn
 clear hv hn
 by_cases hbig : (2147483647 : Int) < (n : Int)
 · go_enter Tryz.func12, Tryz.ntmps12
   go_wp2
   go_ret
   exact Tells.no (Keeps.refl _ w)
 · go_enter Tryz.func12, Tryz.ntmps12
   go_wp2_with (fail)
   go_loopw [10] (fun i wr => ∃ k : Nat, i = .int .i64 (k : Nat) ∧ k ≤ n ∧ Keeps (fun _ => False) w wr ∧ ∀ j (h : j < xs.length), j < k → (fun x => ETBound x) xs[j]) (fun i _ => n - natOfV i)
   case atStart => exact ⟨0, rfl, Nat.zero_le _, Keeps.refl _ _, fun j _ h => by omega⟩
   case round =>
    obtain ⟨k, rfl, hk, hkw, hall⟩ := hrel
    have HK := Lib.hid hkw
    have HA := Lib.hid hall
    clear hkw hall
    by_cases hlt : k < n
    · have t1 : (k : Int) < (n : Int) := by omega
      have t0 : (0 : Int) ≤ (k : Int) := by omega
      have hkl : k < xs.length := by rw [HN.out]; exact hlt
      obtain ⟨b, off, rfl, hcell⟩ := (HX.out.keeps HK.out).cells (by intro e; rw [e] at hkl; simp at hkl)
      have hck := hcell k hkl
      clear hcell
      obtain ⟨x, hx⟩ : ∃ x, xs[k] = x := ⟨_, rfl⟩
      rw [hx] at hck
      have HXK := Lib.hid hx
      clear hx
      obtain ⟨nv, uv, e0, e1, hnv, huv⟩ := hck
      obtain ⟨af, cf, hff, _, _⟩ := hnv.len
      obtain ⟨nf, hnf⟩ : ∃ nf, x.names.length = nf := ⟨_, rfl⟩
      rw [hnf] at hff
      subst hff
      obtain ⟨ag, cg, hgg, _, _⟩ := huv.len
      obtain ⟨ng, hng⟩ : ∃ ng, x.numbers.length = ng := ⟨_, rfl⟩
      rw [hng] at hgg
      subst hgg
      have HNV := Lib.hid hnv
      have HUV := Lib.hid huv
      clear hnv huv hnf hng
      have hwr : IntKind.i64.wrap ((k : Int) + 1) = ((k + 1 : Nat) : Int) := by rw [IntWalk.i64_in _ (by omega)]; rfl
      have hcall := fun w' (hk : Keeps (fun _ => False) wr w') => zfits7 x _ _ w' (HNV.out.keeps hk) (HUV.out.keeps hk)
      go_wp2_with (go_at_call 26; refine (hcall _ (by repeat (first | exact Keeps.refl _ _ | apply Keeps.alloc))).mono ?_; rintro e w2 ⟨bb, rfl, hbb, hk2⟩; have HBB := Lib.hid hbb; have HK2 := Lib.hid (((Keeps.refl _ wr).alloc _).trans hk2 (fun _ _ => id)); clear hbb hk2; cases bb)
      · go_ret
        exact Tells.no (HK.out.trans HK2.out (fun _ _ => id))
      · go_roundw
        case rel =>
         refine ⟨k + 1, rfl, by omega, HK.out.trans HK2.out (fun _ _ => id), fun j hj hjk => ?_⟩
         by_cases h1 : j < k
         · exact HA.out j hj h1
         · obtain rfl : j = k := by omega
           rw [HXK.out]
           exact HBB.out (by first | rfl | trivial)
        case measure => simp [natOfV]; omega
    · have t1 : ¬ (k : Int) < (n : Int) := by omega
      go_wp2_with (fail)
      go_ret
      refine Tells.yes (fun x hx => ?_) HK.out
      obtain ⟨j, hj, rfl⟩ := List.getElem_of_mem hx
      exact HA.out j hj (by have := HN.out; omega)
set_option maxRecDepth 1000000 in
set_option maxHeartbeats 4000000 in
theorem zfits1 (x y : Value) (S : Sch) (w : World) (h : SchAt w x y S) : Calls Tryz.prog 4 #[.agg #[x, y]] w (Tells w ((∀ m ∈ S.msgs, MTBound m) ∧ ∀ e ∈ S.enums, ETBound e)) := by
 obtain ⟨a, c, hfv, _, _⟩ := h.1.len
 obtain ⟨a2, c2, hfu, _, _⟩ := h.2.len
 obtain ⟨n, hnn⟩ : ∃ n, S.msgs.length = n := ⟨_, rfl⟩
 obtain ⟨n2, hn2⟩ : ∃ n, S.enums.length = n := ⟨_, rfl⟩
 rw [hnn] at hfv
 rw [hn2] at hfu
 subst hfv hfu
 clear hnn hn2
 have HC2 := Lib.hid (fun w' (hk : Keeps (fun _ => False) w w') => zfits2 _ S.msgs w' (h.1.keeps hk))
 have HC6 := Lib.hid (fun w' (hk : Keeps (fun _ => False) w w') => zfits6 _ S.enums w' (h.2.keeps hk))
 clear h
 go_enter Tryz.func4, Tryz.ntmps4
 go_wp2_with (first
  | (go_at_call 11; refine (HC2.out _ ((Keeps.refl _ w).alloc _)).mono ?_; rintro e w2 ⟨bb, rfl, hbb, hk2⟩; have HBB := Lib.hid hbb; have HR2 := Lib.hid (hk2.row (heap_alloc_new w _) id); have q1 := cell_row (j := 1) HR2.out; simp at q1; have HK2 := Lib.hid (((Keeps.refl _ w).alloc _).trans hk2 (fun _ _ => id)); clear hbb hk2; cases bb)
  | (go_at_call 12; refine (HC6.out _ HK2.out).mono ?_; rintro e w3 ⟨b3, rfl, hb3, hk3⟩; have HB3 := Lib.hid hb3; have HK3 := Lib.hid (HK2.out.trans hk3 (fun _ _ => id)); clear hb3 hk3; cases b3))
 · go_ret
   exact Tells.no HK2.out
 · go_ret
   exact Tells.no HK3.out
 · go_ret
   exact Tells.yes ⟨HBB.out (by first | rfl | trivial), HB3.out (by first | rfl | trivial)⟩ HK3.out
end Go.Proofs.YtonegoemmologaaGreatDoor
namespace Go.Proofs.YtonegoemmologaaGreatDoor
open Go.RowKit
def Ten (w : World) : Prop := Lib.TabIs Tryz.prog w "internal/strconv.uint64pow10" .u64 Lib.pow10Tab
theorem gTen : Tryz.prog.globalNamed "internal/strconv.uint64pow10" = some 1 := by kernel_rfl
theorem Ten.keeps {S : Nat → Prop} {w w' : World} (h : Ten w) (hk : Keeps S w w') (hs : ¬ S 1) : Ten w' := by
 unfold Ten Lib.TabIs World.var? at h ⊢
 rw [gTen] at h ⊢
 simp only [Option.bind_some] at h ⊢
 have hlt : 1 < w.heap.size := by
  rcases Nat.lt_or_ge 1 w.heap.size with h' | h'
  · exact h'
  · rw [Array.getElem?_eq_none h'] at h; cases h
 rw [hk.block _ hlt hs]
 exact h
theorem tenLen : Lib.pow10Tab.length = 20 := by decide
theorem Ten.cell {w : World} (h : Ten w) (i : Nat) (hi : i < 20) : w.cell? ⟨1, i, none⟩ = some (.int .u64 (Lib.pow10Tab.getD i 0)) :=
 Lib.TabIs.cell h gTen i (by rw [tenLen]; exact hi)
set_option maxRecDepth 1000000 in
theorem bool2i_any (b : Bool) (w : World) : Calls Tryz.prog 104 #[.bool b] w fun e w' => e = .returned (.int .i64 (if b then 1 else 0)) ∧ w' = w := by
 go_enter Tryz.func104, Tryz.ntmps104
 cases b
 all_goals go_wp2_with (fail)
 all_goals go_ret
 all_goals exact ⟨rfl, rfl⟩
set_option maxRecDepth 1000000 in
set_option maxHeartbeats 4000000 in
theorem numDigits_ex (d : Nat) (hd : d < 18446744073709551616) : ∃ nd : Nat, nd ≤ 20 ∧ d < 10 ^ nd ∧ ∀ w, Ten w → Calls Tryz.prog 86 #[.int .u64 (d : Int)] w fun e w' => e = .returned (.int .i64 (nd : Int)) ∧ w' = w := by
 by_cases h0 : d = 0
 · subst h0
   refine ⟨0, by omega, by decide, fun w hT => ?_⟩
   have L := Lib.hid (len64_any 0 (by omega))
   have G := Lib.hid (log10_any 0 (by omega) (by omega))
   have t0 := hT.cell 0 (by omega)
   have hb : Lib.bitLen 0 = 0 := by decide
   have hp : Lib.pow10Tab.getD 0 0 = 1 := by decide
   rw [hp] at t0
   go_enter Tryz.func86, Tryz.ntmps86
   go_wp2_with (first
    | (go_at_call 103; refine (L.out _).mono ?_; rintro en w' ⟨rfl, rfl⟩; rw [hb])
    | (go_at_call 102; refine (G.out _).mono ?_; rintro en w' ⟨rfl, rfl⟩)
    | (go_at_call 104; refine (bool2i_any _ _).mono ?_; rintro en w' ⟨rfl, rfl⟩))
   go_ret
   exact ⟨rfl, rfl⟩
 · exact ⟨Lib.nDigits d, Lib.nDigits_le20 d hd, Lib.lt_pow_nDigits d, fun w hT => Any.internal_strconv_numDigits Tryz.laysM284 d (by omega) hd w hT⟩
def strip : Nat → (Nat → UInt8) → Nat
 | 0, _ => 0
 | n + 1, f => if f n = 48 then strip n f else n + 1
theorem strip_succ (n : Nat) (f : Nat → UInt8) : strip (n + 1) f = if f n = 48 then strip n f else n + 1 := rfl
theorem strip_le : ∀ n f, strip n f ≤ n
 | 0, _ => Nat.le_refl _
 | n + 1, f => by
  unfold strip
  split
  · exact Nat.le_succ_of_le (strip_le n f)
  · exact Nat.le_refl _
def encU8 : UInt8 → Value := fun b => .int .u8 (b.toNat : Int)
theorem putRow_keeps (w : World) (B n : Nat) (d : Array UInt8) : Keeps (fun k => k = B) w ((Go.Sort.putRow encU8 w B 0 d).drewN n) := by
 refine ⟨rfl, rfl, rfl, ?_, fun k hk hn => ?_⟩
 · simp [Go.Sort.putRow, Go.Sort.mapBlock, World.drewN]
 · have h2 : ¬ B = k := fun e => hn e.symm
   simp [Go.Sort.putRow, Go.Sort.mapBlock, World.drewN, Array.getElem?_modify, h2]
def ZeroRow (w : World) (B n : Nat) : Prop := ∃ T, w.heap[B]? = some (.cells (Array.replicate n (.int .u8 0)) T (0, 0))
theorem fmt10_any (d nd : Nat) (hd : d < 18446744073709551616) (hn : nd ≤ 20) (hlt : d < 10 ^ nd) (w : World) (B cap : Nat) (hz : ZeroRow w B 32) :
 Calls Tryz.prog 87 #[.slice (some ⟨B, 0, none⟩) nd cap, .int .u64 (d : Int)] w fun e w' => e = .returned (.tuple #[]) ∧ Keeps (fun k => k = B) w w' ∧ ∀ j, j < nd → w'.cell? ⟨B, j, none⟩ = some (.int .u8 ((Lib.dg d (nd - 1 - j)).toNat : Int)) := by
 obtain ⟨T, hrow⟩ := hz
 have hsz : (Array.replicate nd (0 : UInt8)).size = nd := Array.size_replicate
 have hH : Go.Sort.Holds encU8 w B 0 (Array.replicate nd 0) := by
  intro j hj
  rw [hsz] at hj
  constructor
  · rw [cell_row hrow]
    simp [encU8, hj, show j < 32 by omega]
  · exact frozen_row hrow
 have h := Any.internal_strconv_formatBase10 Tryz.lays285 B 0 cap d (Array.replicate nd 0) w hH (by rw [hsz]; exact hlt) hd (by rw [hsz]; omega)
 rw [hsz] at h
 refine h.mono ?_
 rintro e w' ⟨he, n, v', dk, hw, hf⟩
 subst hw
 refine ⟨he, putRow_keeps w B n dk, fun j hj => ?_⟩
 have hc := Go.Sort.cell?_putRow encU8 w B 0 (Array.replicate nd 0) dk hH (by rw [hsz]; exact hf.size) j (by rw [hf.size]; exact hj)
 rw [Nat.zero_add] at hc
 have hc2 : ((Go.Sort.putRow encU8 w B 0 dk).drewN n).cell? ⟨B, j, none⟩ = (Go.Sort.putRow encU8 w B 0 dk).cell? ⟨B, j, none⟩ := rfl
 rw [show (fun b : UInt8 => Value.int .u8 (b.toNat : Int)) = encU8 from rfl, hc2, hc, hf.done j (by omega) hj]
 rfl
set_option maxRecDepth 1000000 in
set_option maxHeartbeats 8000000 in
theorem setDigits_any (d nd : Nat) (p : Int) (hd : d < 18446744073709551616) (hn : nd ≤ 20) (hlt : d < 10 ^ nd) (hp : -500 ≤ p) (hp2 : p ≤ 500) (w : World) (B : Nat) (hz : ZeroRow w B 32) :
 Calls Tryz.prog 113 #[.slice (some ⟨B, 0, none⟩) 32 32, .int .u64 (d : Int), .int .i64 p, .int .i64 (nd : Int)] w fun e w' => e = .returned (.tuple #[.int .i64 ((nd : Int) + p), .int .i64 (strip nd (fun j => Lib.dg d (nd - 1 - j)) : Nat)]) ∧ Keeps (fun k => k = B) w w' ∧ ∀ j, j < nd → w'.cell? ⟨B, j, none⟩ = some (.int .u8 ((Lib.dg d (nd - 1 - j)).toNat : Int)) := by
 have F := Lib.hid (fmt10_any d nd hd hn hlt w B 32 hz)
 have S1 := run_sto (some ⟨B, 0, none⟩) 32 32 nd (by omega)
 have hle : (nd : Int) ≤ 32 := by omega
 obtain ⟨f, hf⟩ : ∃ f : Nat → UInt8, (fun j => Lib.dg d (nd - 1 - j)) = f := ⟨_, rfl⟩
 have hff : ∀ j, Lib.dg d (nd - 1 - j) = f j := fun j => congrFun hf j
 rw [hf]
 clear hf hz
 go_enter Tryz.func113, Tryz.ntmps113
 go_wp2_with (go_at_call 87; refine F.out.mono ?_; rintro en w1 ⟨rfl, k1, c1⟩; have K1 := Lib.hid k1; have C1 := Lib.hid c1; clear k1 c1 S1)
 go_loopw [3] (fun s wr => ∃ k : Nat, s = .int .i64 (k : Int) ∧ k ≤ nd ∧ strip k f = strip nd f ∧ Keeps (fun _ => False) w1 wr) (fun s _ => natOfV s)
 case atStart => exact ⟨nd, rfl, Nat.le_refl _, rfl, Keeps.refl _ _⟩
 case round =>
  obtain ⟨k, rfl, hk, hs, hkk⟩ := hrel
  have HS := Lib.hid hs
  have HK := Lib.hid hkk
  clear hs hkk
  cases k with
  | zero =>
   go_wp2_with (fail)
   go_ret2
   rw [← HS.out]
   exact ⟨rfl, K1.out.trans HK.out (fun _ _ h => h.elim), fun j hj => by rw [hff]; exact HK.out.cell (by rw [← hff]; exact C1.out j hj) id⟩
  | succ k =>
   have c0 := HK.out.cell (C1.out k (by omega)) id
   rw [hff] at c0
   have hk0 : (0 : Int) < ((k + 1 : Nat) : Int) := by omega
   have hk1 : ((k + 1 : Nat) : Int) - 1 = (k : Int) := by omega
   have hk2 : (k : Int) < 32 := by omega
   have HFF := Lib.hid hff
   clear hff
   by_cases h48 : f k = 48
   · rw [h48] at c0
     go_wp2_with (fail)
     go_roundw
     case rel => exact ⟨k, rfl, by omega, by rw [← HS.out]; rw [strip_succ, if_pos h48], HK.out⟩
     case measure => simp [natOfV]
   · have h49 : (((f k).toNat : Int) == 48) = false := by
      simp
      intro h
      apply h48
      apply UInt8.toNat_inj.1
      rw [show (48 : UInt8).toNat = 48 from rfl]
      omega
     go_wp2_with (fail)
     go_ret2
     rw [← HS.out]
     rw [strip_succ, if_neg h48]
     exact ⟨rfl, K1.out.trans HK.out (fun _ _ h => h.elim), fun j hj => by rw [HFF.out]; exact HK.out.cell (by rw [← HFF.out]; exact C1.out j hj) id⟩
end Go.Proofs.YtonegoemmologaaGreatDoor
namespace Go.Proofs.YtonegoemmologaaGreatDoor
open Go.RowKit
theorem dg_isDig (u j : Nat) : Fl.isDig (Lib.dg u j) := by
 unfold Lib.dg Fl.isDig
 have h : 48 + u / 10 ^ j % 10 < 256 := by omega
 rw [UInt8.toNat_ofNat_of_lt' (by simpa using h)]
 omega
theorem dg_val (u j : Nat) : (Lib.dg u j).toNat - 48 = u / 10 ^ j % 10 := by
 unfold Lib.dg
 have h : 48 + u / 10 ^ j % 10 < 256 := by omega
 rw [UInt8.toNat_ofNat_of_lt' (by simpa using h)]
 omega
theorem digits_dg (d n : Nat) (k : Nat) : Fl.Digits (fun j => Lib.dg d (n - 1 - j)) k := fun _ _ => dg_isDig _ _
theorem nval_dg (d n : Nat) : ∀ k, k ≤ n → Fl.nval (Fl.dsq (fun j => Lib.dg d (n - 1 - j)) 0 k) = d / 10 ^ (n - k) % 10 ^ k
 | 0, _ => by simp [Fl.dsq, Fl.nval, Nat.mod_one]
 | k + 1, h => by
  rw [Fl.dsq_succ, Fl.nval_snoc, nval_dg d n k (by omega), dg_val, Nat.zero_add]
  have e1 : n - 1 - k = n - (k + 1) := by omega
  have e2 : d / 10 ^ (n - k) = d / 10 ^ (n - (k + 1)) / 10 := by
   rw [Nat.div_div_eq_div_mul, ← Nat.pow_succ]
   congr 2; omega
  rw [e1, e2, Nat.pow_succ, Nat.mul_comm (10 ^ k), Nat.mod_mul]
  omega
theorem nval_all (d n : Nat) (h : d < 10 ^ n) : Fl.nval (Fl.dsq (fun j => Lib.dg d (n - 1 - j)) 0 n) = d := by
 rw [nval_dg d n n (Nat.le_refl _), Nat.sub_self, Nat.pow_zero, Nat.div_one, Nat.mod_eq_of_lt h]
theorem nval_strip (f : Nat → UInt8) : ∀ n, Fl.nval (Fl.dsq f 0 n) = Fl.nval (Fl.dsq f 0 (strip n f)) * 10 ^ (n - strip n f)
 | 0 => by simp [strip]
 | n + 1 => by
  rw [strip_succ]
  by_cases c : f n = 48
  · rw [if_pos c, Fl.dsq_succ, Fl.nval_snoc, nval_strip f n, Nat.zero_add, c]
    have := strip_le n f
    rw [show n + 1 - strip n f = (n - strip n f) + 1 by omega, Nat.pow_succ]
    simp only [show (48 : UInt8).toNat - 48 = 0 from rfl]
    rw [Nat.mul_assoc]; rfl
  · rw [if_neg c, Nat.sub_self]; simp
theorem strip_val (d n : Nat) (h : d < 10 ^ n) : Fl.nval (Fl.dsq (fun j => Lib.dg d (n - 1 - j)) 0 (strip n fun j => Lib.dg d (n - 1 - j))) * 10 ^ (n - strip n fun j => Lib.dg d (n - 1 - j)) = d := by
 rw [← nval_strip, nval_all d n h]
theorem strip_pos (d n : Nat) (h : d < 10 ^ n) (h0 : 0 < d) : 1 ≤ strip n fun j => Lib.dg d (n - 1 - j) := by
 have := strip_val d n h
 rcases Nat.eq_zero_or_pos (strip n fun j => Lib.dg d (n - 1 - j)) with g | g
 · rw [g] at this
   simp [Fl.dsq, Fl.nval] at this
   omega
 · exact g
theorem strip_le_val (d n : Nat) (h : d < 10 ^ n) : Fl.nval (Fl.dsq (fun j => Lib.dg d (n - 1 - j)) 0 (strip n fun j => Lib.dg d (n - 1 - j))) ≤ d := by
 have h1 := strip_val d n h
 have h2 : 1 ≤ 10 ^ (n - strip n fun j => Lib.dg d (n - 1 - j)) := Nat.pow_pos (by omega)
 generalize 10 ^ (n - strip n fun j => Lib.dg d (n - 1 - j)) = z at *
 generalize Fl.nval (Fl.dsq (fun j => Lib.dg d (n - 1 - j)) 0 (strip n fun j => Lib.dg d (n - 1 - j))) = v at *
 have := Nat.mul_le_mul_left v h2
 omega
end Go.Proofs.YtonegoemmologaaGreatDoor
namespace Go.Proofs.YtonegoemmologaaGreatDoor
open Go.RowKit
def Digs (w : World) (B n : Nat) (f : Nat → UInt8) : Prop := ∀ j, j < n → w.cell? ⟨B, j, none⟩ = some (.int .u8 ((f j).toNat : Int))
theorem run_sl1 (B nd : Nat) (hn : 1 ≤ nd) (hn2 : nd ≤ 20) (w : World) : (Instr.slice 72 (.slice (some ⟨B, 0, none⟩) 32 32) (some (.int .i64 1)) (some (.int .i64 (nd : Int))) none).run Tryz.prog w = .ok (.slice (some ⟨B, 1, none⟩) (nd - 1) 31) w := by
 obtain ⟨i0, hi, hz0, hz1, hz2⟩ := info_parts info5
 have h1 := run_sliceBound (P := Tryz.prog) w .i64 (nd : Int) 32 .sliceAcap (by omega) (by omega)
 have h2 := run_sliceBound (P := Tryz.prog) w .i64 1 nd .sliceB (by omega) (by omega)
 simp [Instr.slice, Instr.sliceBounds, run_underlying Tryz.underlying72, h1, h2, sizeOf, typeInfo, hi, hz1, Addr.add]
theorem dsq_of_mid {f : Nat → UInt8} {nd : Nat} {mid : List UInt8} (hml : mid.length = nd - 1) (hmg : ∀ j (h : j < mid.length), mid[j] = f (1 + j)) : mid = Fl.dsq f 1 (nd - 1) := by
 refine List.ext_getElem (by rw [Fl.dsq_length, hml]) fun j h1 h2 => ?_
 rw [hmg j h1]
 simp [Fl.dsq]
theorem u8_of (k : Nat) (h : k < 256) : ∃ c : UInt8, (c.toNat : Int) = (k : Int) := ⟨UInt8.ofNat k, by rw [UInt8.toNat_ofNat_of_lt' (by simpa using h)]⟩
end Go.Proofs.YtonegoemmologaaGreatDoor
