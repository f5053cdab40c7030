/-
  valueFits of the reference: what it tells of a value.
-/
import Derived.Test.YtonegoemmologaaGreatDoorM42
import Derived.Test.YtonegoemmologaaGreatDoorM31
import Derived.Test.YtonegoemmologaaGreatDoorM32
import Derived.Test.YtonegoemmologaaGreatDoorM02
set_option linter.unusedVariables false
set_option linter.unusedSimpArgs false
namespace Go.Proofs.YtonegoemmologaaGreatDoor
open Go.RowKit
def PV.msg : PV → List (Int × List PV)
 | .mk _ _ _ _ _ m => m
def PV.flo : PV → Nat
 | .mk _ _ _ g _ _ => g
def PV.text : PV → ByteArray
 | .mk _ _ _ _ s _ => s
def cntM : Nat → List (Int × List PV) → Nat
 | 0, _ => 0
 | d + 1, fs => (fs.map fun f => (f.2.map fun p => 1 + cntM d p.msg).sum).sum
def MBound : Nat → List (Int × List PV) → Prop
 | 0, _ => True
 | d + 1, fs => ∀ f ∈ fs, ∀ p ∈ f.2, (PV.text p).size ≤ maxLen ∧ MBound d (PV.msg p)
theorem cntM_nil (d : Nat) : cntM d [] = 0 := by cases d <;> rfl
def VClean (kind : Int) (b : Bool) (i : Int) (u g : Nat) (s : ByteArray) : Prop :=
 (sortK kind ≠ 1 → b = false) ∧ (sortK kind ≠ 2 → sortK kind ≠ 7 → i = 0) ∧ (sortK kind ≠ 3 → u = 0) ∧ (sortK kind ≠ 4 → g = 0) ∧ (sortK kind ≠ 5 → sortK kind ≠ 6 → s.toList = []) ∧
  (narrowK kind = true → (sortK kind = 2 ∨ sortK kind = 7 → -2147483648 ≤ i ∧ i ≤ 2147483647) ∧ (sortK kind = 3 → u < 4294967296))
def VCleanP (kind : Int) : PV → Prop
 | .mk b i u g s _ => VClean kind b i u g s
def MFits (S : Sch) : Nat → Int → List (Int × List PV) → Prop
 | 0, _, _ => False
 | l + 1, at_, fs => 0 ≤ at_ ∧ at_ < S.msgs.length ∧ ∀ M, S.msgs[at_.toNat]? = some M → ∀ j (h : j < fs.length), 0 ≤ (fs[j]).1 ∧ 1 ≤ (fs[j]).2.length ∧ ∃ f : FT, M.fields[(fs[j]).1.toNat]? = some f ∧ (f.rep = false → (fs[j]).2.length ≤ 1) ∧
  ∀ p ∈ (fs[j]).2, (PV.text p).size ≤ 1000 ∧ (sortK f.kind = 8 → MFits S l f.type (PV.msg p)) ∧ (sortK f.kind ≠ 8 → PV.msg p = []) ∧ (f.kind = 2 → FOk (PV.flo p)) ∧ VCleanP f.kind p
def VFits (S : Sch) (l : Nat) (f : FT) (p : PV) : Prop := (PV.text p).size ≤ 1000 ∧ (sortK f.kind = 8 → MFits S l f.type (PV.msg p)) ∧ (sortK f.kind ≠ 8 → PV.msg p = []) ∧ (f.kind = 2 → FOk (PV.flo p)) ∧ VCleanP f.kind p
def Counts (w : World) (L : Nat) (left : Int) (T : Prop) (used : Nat) (e : Ending) (w' : World) : Prop :=
 ∃ (b : Bool) (l2 : Int), e = .returned (.bool b) ∧ Keeps (fun j => j = L) w w' ∧ w'.heap[L]? = some (.cells #[.int .i64 l2] 3 (0, 0)) ∧ -1 ≤ l2 ∧ l2 ≤ left ∧ (b = true → T ∧ 0 ≤ l2 ∧ l2 + used = left)
theorem Counts.no {w w' : World} {L : Nat} {left : Int} {T : Prop} {used : Nat} (hrow : w.heap[L]? = some (.cells #[.int .i64 left] 3 (0, 0))) (hk : Keeps (fun _ => False) w w') (h0 : 0 ≤ left) :
 Counts w L left T used (.returned (.bool false)) w' := ⟨false, left, rfl, hk.mono (fun _ _ h => h.elim), hk.row hrow id, by omega, by omega, fun h => by cases h⟩
theorem Counts.leaf {w w' : World} {L : Nat} {left : Int} {T : Prop} {used : Nat} {b : Bool} (hrow : w.heap[L]? = some (.cells #[.int .i64 left] 3 (0, 0))) (hk : Keeps (fun _ => False) w w') (h0 : 0 ≤ left) (hT : b = true → T ∧ used = 0) :
 Counts w L left T used (.returned (.bool b)) w' := ⟨b, left, rfl, hk.mono (fun _ _ h => h.elim), hk.row hrow id, by omega, by omega, fun h => ⟨(hT h).1, h0, by have := (hT h).2; omega⟩⟩
theorem vfits_leaf {S : Sch} {l : Nat} {f : FT} {b : Bool} {i : Int} {u g d : Nat} {s : ByteArray} {msg : List (Int × List PV)} {q : Int} (hk : sortK f.kind = q) (hq : q ≠ 8) (hq4 : q ≠ 4) (hs : s.size ≤ 1000) (hm : ¬ 0 < msg.length) (hc : VClean f.kind b i u g s) :
 VFits S l f (.mk b i u g s msg) ∧ cntM d msg = 0 := by
 have hm' : msg = [] := List.eq_nil_of_length_eq_zero (by omega)
 subst hm'
 exact ⟨⟨hs, fun h => by omega, fun _ => rfl, fun e => by rw [e, show sortK 2 = 4 from rfl] at hk; exact absurd hk.symm hq4, hc⟩, cntM_nil d⟩
theorem vfits_leaf4 {S : Sch} {l : Nat} {f : FT} {b : Bool} {i : Int} {u g d : Nat} {s : ByteArray} {msg : List (Int × List PV)} (hk : sortK f.kind = 4) (hs : s.size ≤ 1000) (hm : ¬ 0 < msg.length) (hF : f.kind = 2 → FOk g) (hc : VClean f.kind b i u g s) :
 VFits S l f (.mk b i u g s msg) ∧ cntM d msg = 0 := by
 have hm' : msg = [] := List.eq_nil_of_length_eq_zero (by omega)
 subst hm'
 exact ⟨⟨hs, fun h => by omega, fun _ => rfl, hF, hc⟩, cntM_nil d⟩
theorem size_of_nil {s : ByteArray} (h : s.toList = []) : s.size ≤ 1000 := by
 have : s.size = s.toList.length := by rw [ByteArray.toList_eq]; rfl
 rw [this, h]; decide
set_option maxRecDepth 1000000 in
set_option maxHeartbeats 20000000 in
theorem valueFits_0 (x y : Value) (S : Sch) (l : Nat) (name : ByteArray) (number kind type : Int) (rep map : Bool) (b : Bool) (i : Int) (u g : Nat) (s : ByteArray) (am : Option Addr) (cm : Nat) (msg : List (Int × List PV)) (d : Nat)
 (L : Nat) (left : Int) (h00 : 0 ≤ left) (w : World) (hrow : w.heap[L]? = some (.cells #[.int .i64 left] 3 (0, 0))) (hk : sortK kind = 0) (hsz : s.data.toList.length ≤ maxLen) :
 Calls Tryz.prog 67 #[.agg #[x, y], .agg #[.string name, .int .i64 number, .int .i64 kind, .bool rep, .bool map, .int .i64 type], .agg #[.bool b, .int .i64 i, .int .u64 (u : Int), .int .u64 (g : Int), .string s, .slice am msg.length cm], .int .i64 ((l + 1 : Nat) : Int), .pointer (some ⟨L, 0, none⟩)] w
  (Counts w L left (VFits S l ⟨name, number, kind, rep, map, type⟩ (.mk b i u g s msg)) (cntM d msg)) := by
 have HK := Lib.hid hk
 clear hk
 go_enter Tryz.func67, Tryz.ntmps67
 go_wp2_with (first
  | (go_at_call 65; refine (sortOf_any kind _).mono ?_; rintro e w' ⟨rfl, rfl⟩; rw [HK.out]))
 all_goals go_ret
 all_goals first
  | exact Counts.leaf hrow ((((Keeps.refl _ w).alloc _).alloc _).alloc _) h00 (fun hh => vfits_leaf HK.out (by decide) (by decide) (size_of_nil (by with_reducible assumption)) (by omega) ⟨fun hq => (by first | exact absurd HK.out hq | rfl | (with_reducible assumption) | exact Bool.eq_false_iff.2 (by with_reducible assumption)), fun hq hq' => (by first | exact absurd HK.out hq | exact absurd HK.out hq' | rfl | (with_reducible assumption) | omega), fun hq => (by first | exact absurd HK.out hq | rfl | (with_reducible assumption) | omega), fun hq => (by first | exact absurd HK.out hq | rfl | (with_reducible assumption) | omega), fun hq hq' => (by first | exact absurd HK.out hq | exact absurd HK.out hq' | (with_reducible assumption)), fun hn => ⟨fun hq => (by first | (rw [HK.out] at hq; omega) | (exact absurd (HB1.out.trans hn) (by decide)) | (have h' := of_decide_eq_true hh; omega) | (simp at hh; omega) | cases hh | (simp at hh)), fun hq => (by first | (rw [HK.out] at hq; omega) | (exact absurd (HB1.out.trans hn) (by decide)) | (have h' := of_decide_eq_true hh; omega) | (simp at hh; omega) | cases hh | (simp at hh))⟩⟩)
  | exact Counts.leaf hrow (((((Keeps.refl _ w).alloc _).alloc _).alloc _).trans K1.out (fun _ _ => id)) h00 (fun hh => vfits_leaf HK.out (by decide) (by decide) (size_of_nil (by with_reducible assumption)) (by omega) ⟨fun hq => (by first | exact absurd HK.out hq | rfl | (with_reducible assumption) | exact Bool.eq_false_iff.2 (by with_reducible assumption)), fun hq hq' => (by first | exact absurd HK.out hq | exact absurd HK.out hq' | rfl | (with_reducible assumption) | omega), fun hq => (by first | exact absurd HK.out hq | rfl | (with_reducible assumption) | omega), fun hq => (by first | exact absurd HK.out hq | rfl | (with_reducible assumption) | omega), fun hq hq' => (by first | exact absurd HK.out hq | exact absurd HK.out hq' | (with_reducible assumption)), fun hn => ⟨fun hq => (by first | (rw [HK.out] at hq; omega) | (exact absurd (HB1.out.trans hn) (by decide)) | (have h' := of_decide_eq_true hh; omega) | (simp at hh; omega) | cases hh | (simp at hh)), fun hq => (by first | (rw [HK.out] at hq; omega) | (exact absurd (HB1.out.trans hn) (by decide)) | (have h' := of_decide_eq_true hh; omega) | (simp at hh; omega) | cases hh | (simp at hh))⟩⟩)
  | exact Counts.leaf hrow (((((Keeps.refl _ w).alloc _).alloc _).alloc _).trans K2.out (fun _ _ => id)) h00 (fun hh => vfits_leaf HK.out (by decide) (by decide) (size_of_nil (by with_reducible assumption)) (by omega) ⟨fun hq => (by first | exact absurd HK.out hq | rfl | (with_reducible assumption) | exact Bool.eq_false_iff.2 (by with_reducible assumption)), fun hq hq' => (by first | exact absurd HK.out hq | exact absurd HK.out hq' | rfl | (with_reducible assumption) | omega), fun hq => (by first | exact absurd HK.out hq | rfl | (with_reducible assumption) | omega), fun hq => (by first | exact absurd HK.out hq | rfl | (with_reducible assumption) | omega), fun hq hq' => (by first | exact absurd HK.out hq | exact absurd HK.out hq' | (with_reducible assumption)), fun hn => ⟨fun hq => (by first | (rw [HK.out] at hq; omega) | (exact absurd (HB1.out.trans hn) (by decide)) | (have h' := of_decide_eq_true hh; omega) | (simp at hh; omega) | cases hh | (simp at hh)), fun hq => (by first | (rw [HK.out] at hq; omega) | (exact absurd (HB1.out.trans hn) (by decide)) | (have h' := of_decide_eq_true hh; omega) | (simp at hh; omega) | cases hh | (simp at hh))⟩⟩)
  | exact Counts.no hrow ((((Keeps.refl _ w).alloc _).alloc _).alloc _) h00
set_option maxRecDepth 1000000 in
set_option maxHeartbeats 20000000 in
theorem valueFits_1 (x y : Value) (S : Sch) (l : Nat) (name : ByteArray) (number kind type : Int) (rep map : Bool) (b : Bool) (i : Int) (u g : Nat) (s : ByteArray) (am : Option Addr) (cm : Nat) (msg : List (Int × List PV)) (d : Nat)
 (L : Nat) (left : Int) (h00 : 0 ≤ left) (w : World) (hrow : w.heap[L]? = some (.cells #[.int .i64 left] 3 (0, 0))) (hk : sortK kind = 1) (hsz : s.data.toList.length ≤ maxLen) :
 Calls Tryz.prog 67 #[.agg #[x, y], .agg #[.string name, .int .i64 number, .int .i64 kind, .bool rep, .bool map, .int .i64 type], .agg #[.bool b, .int .i64 i, .int .u64 (u : Int), .int .u64 (g : Int), .string s, .slice am msg.length cm], .int .i64 ((l + 1 : Nat) : Int), .pointer (some ⟨L, 0, none⟩)] w
  (Counts w L left (VFits S l ⟨name, number, kind, rep, map, type⟩ (.mk b i u g s msg)) (cntM d msg)) := by
 have HK := Lib.hid hk
 clear hk
 go_enter Tryz.func67, Tryz.ntmps67
 go_wp2_with (first
  | (go_at_call 65; refine (sortOf_any kind _).mono ?_; rintro e w' ⟨rfl, rfl⟩; rw [HK.out]))
 all_goals go_ret
 all_goals first
  | exact Counts.leaf hrow ((((Keeps.refl _ w).alloc _).alloc _).alloc _) h00 (fun hh => vfits_leaf HK.out (by decide) (by decide) (size_of_nil (by with_reducible assumption)) (by omega) ⟨fun hq => (by first | exact absurd HK.out hq | rfl | (with_reducible assumption) | exact Bool.eq_false_iff.2 (by with_reducible assumption)), fun hq hq' => (by first | exact absurd HK.out hq | exact absurd HK.out hq' | rfl | (with_reducible assumption) | omega), fun hq => (by first | exact absurd HK.out hq | rfl | (with_reducible assumption) | omega), fun hq => (by first | exact absurd HK.out hq | rfl | (with_reducible assumption) | omega), fun hq hq' => (by first | exact absurd HK.out hq | exact absurd HK.out hq' | (with_reducible assumption)), fun hn => ⟨fun hq => (by first | (rw [HK.out] at hq; omega) | (exact absurd (HB1.out.trans hn) (by decide)) | (have h' := of_decide_eq_true hh; omega) | (simp at hh; omega) | cases hh | (simp at hh)), fun hq => (by first | (rw [HK.out] at hq; omega) | (exact absurd (HB1.out.trans hn) (by decide)) | (have h' := of_decide_eq_true hh; omega) | (simp at hh; omega) | cases hh | (simp at hh))⟩⟩)
  | exact Counts.leaf hrow (((((Keeps.refl _ w).alloc _).alloc _).alloc _).trans K1.out (fun _ _ => id)) h00 (fun hh => vfits_leaf HK.out (by decide) (by decide) (size_of_nil (by with_reducible assumption)) (by omega) ⟨fun hq => (by first | exact absurd HK.out hq | rfl | (with_reducible assumption) | exact Bool.eq_false_iff.2 (by with_reducible assumption)), fun hq hq' => (by first | exact absurd HK.out hq | exact absurd HK.out hq' | rfl | (with_reducible assumption) | omega), fun hq => (by first | exact absurd HK.out hq | rfl | (with_reducible assumption) | omega), fun hq => (by first | exact absurd HK.out hq | rfl | (with_reducible assumption) | omega), fun hq hq' => (by first | exact absurd HK.out hq | exact absurd HK.out hq' | (with_reducible assumption)), fun hn => ⟨fun hq => (by first | (rw [HK.out] at hq; omega) | (exact absurd (HB1.out.trans hn) (by decide)) | (have h' := of_decide_eq_true hh; omega) | (simp at hh; omega) | cases hh | (simp at hh)), fun hq => (by first | (rw [HK.out] at hq; omega) | (exact absurd (HB1.out.trans hn) (by decide)) | (have h' := of_decide_eq_true hh; omega) | (simp at hh; omega) | cases hh | (simp at hh))⟩⟩)
  | exact Counts.leaf hrow (((((Keeps.refl _ w).alloc _).alloc _).alloc _).trans K2.out (fun _ _ => id)) h00 (fun hh => vfits_leaf HK.out (by decide) (by decide) (size_of_nil (by with_reducible assumption)) (by omega) ⟨fun hq => (by first | exact absurd HK.out hq | rfl | (with_reducible assumption) | exact Bool.eq_false_iff.2 (by with_reducible assumption)), fun hq hq' => (by first | exact absurd HK.out hq | exact absurd HK.out hq' | rfl | (with_reducible assumption) | omega), fun hq => (by first | exact absurd HK.out hq | rfl | (with_reducible assumption) | omega), fun hq => (by first | exact absurd HK.out hq | rfl | (with_reducible assumption) | omega), fun hq hq' => (by first | exact absurd HK.out hq | exact absurd HK.out hq' | (with_reducible assumption)), fun hn => ⟨fun hq => (by first | (rw [HK.out] at hq; omega) | (exact absurd (HB1.out.trans hn) (by decide)) | (have h' := of_decide_eq_true hh; omega) | (simp at hh; omega) | cases hh | (simp at hh)), fun hq => (by first | (rw [HK.out] at hq; omega) | (exact absurd (HB1.out.trans hn) (by decide)) | (have h' := of_decide_eq_true hh; omega) | (simp at hh; omega) | cases hh | (simp at hh))⟩⟩)
  | exact Counts.no hrow ((((Keeps.refl _ w).alloc _).alloc _).alloc _) h00
set_option maxRecDepth 1000000 in
set_option maxHeartbeats 20000000 in
theorem valueFits_2 (x y : Value) (S : Sch) (l : Nat) (name : ByteArray) (number kind type : Int) (rep map : Bool) (b : Bool) (i : Int) (u g : Nat) (s : ByteArray) (am : Option Addr) (cm : Nat) (msg : List (Int × List PV)) (d : Nat)
 (L : Nat) (left : Int) (h00 : 0 ≤ left) (w : World) (hrow : w.heap[L]? = some (.cells #[.int .i64 left] 3 (0, 0))) (hk : sortK kind = 2) (hsz : s.data.toList.length ≤ maxLen) :
 Calls Tryz.prog 67 #[.agg #[x, y], .agg #[.string name, .int .i64 number, .int .i64 kind, .bool rep, .bool map, .int .i64 type], .agg #[.bool b, .int .i64 i, .int .u64 (u : Int), .int .u64 (g : Int), .string s, .slice am msg.length cm], .int .i64 ((l + 1 : Nat) : Int), .pointer (some ⟨L, 0, none⟩)] w
  (Counts w L left (VFits S l ⟨name, number, kind, rep, map, type⟩ (.mk b i u g s msg)) (cntM d msg)) := by
 have HK := Lib.hid hk
 clear hk
 go_enter Tryz.func67, Tryz.ntmps67
 go_wp2_with (first
  | (go_at_call 65; refine (sortOf_any kind _).mono ?_; rintro e w' ⟨rfl, rfl⟩; rw [HK.out])
  | (go_at_call 82; refine (narrow_any kind _).mono ?_; rintro e w3 ⟨b1, rfl, hb1, k1⟩; have c1 := cell_row (j := 1) (k1.row (heap_alloc_new _ _) id); have c2 := cell_row (j := 2) (k1.row (heap_alloc_new _ _) id); have c3 := cell_row (j := 3) (k1.row (heap_alloc_new _ _) id); have c4 := cell_row (j := 4) (k1.row (heap_alloc_new _ _) id); simp at c1 c2 c3 c4; have K1 := Lib.hid k1; have HB1 := Lib.hid hb1; clear k1 hb1; cases b1))
 all_goals go_ret
 all_goals first
  | exact Counts.leaf hrow ((((Keeps.refl _ w).alloc _).alloc _).alloc _) h00 (fun hh => vfits_leaf HK.out (by decide) (by decide) (size_of_nil (by with_reducible assumption)) (by omega) ⟨fun hq => (by first | exact absurd HK.out hq | rfl | (with_reducible assumption) | exact Bool.eq_false_iff.2 (by with_reducible assumption)), fun hq hq' => (by first | exact absurd HK.out hq | exact absurd HK.out hq' | rfl | (with_reducible assumption) | omega), fun hq => (by first | exact absurd HK.out hq | rfl | (with_reducible assumption) | omega), fun hq => (by first | exact absurd HK.out hq | rfl | (with_reducible assumption) | omega), fun hq hq' => (by first | exact absurd HK.out hq | exact absurd HK.out hq' | (with_reducible assumption)), fun hn => ⟨fun hq => (by first | (rw [HK.out] at hq; omega) | (exact absurd (HB1.out.trans hn) (by decide)) | (have h' := of_decide_eq_true hh; omega) | (simp at hh; omega) | cases hh | (simp at hh)), fun hq => (by first | (rw [HK.out] at hq; omega) | (exact absurd (HB1.out.trans hn) (by decide)) | (have h' := of_decide_eq_true hh; omega) | (simp at hh; omega) | cases hh | (simp at hh))⟩⟩)
  | exact Counts.leaf hrow (((((Keeps.refl _ w).alloc _).alloc _).alloc _).trans K1.out (fun _ _ => id)) h00 (fun hh => vfits_leaf HK.out (by decide) (by decide) (size_of_nil (by with_reducible assumption)) (by omega) ⟨fun hq => (by first | exact absurd HK.out hq | rfl | (with_reducible assumption) | exact Bool.eq_false_iff.2 (by with_reducible assumption)), fun hq hq' => (by first | exact absurd HK.out hq | exact absurd HK.out hq' | rfl | (with_reducible assumption) | omega), fun hq => (by first | exact absurd HK.out hq | rfl | (with_reducible assumption) | omega), fun hq => (by first | exact absurd HK.out hq | rfl | (with_reducible assumption) | omega), fun hq hq' => (by first | exact absurd HK.out hq | exact absurd HK.out hq' | (with_reducible assumption)), fun hn => ⟨fun hq => (by first | (rw [HK.out] at hq; omega) | (exact absurd (HB1.out.trans hn) (by decide)) | (have h' := of_decide_eq_true hh; omega) | (simp at hh; omega) | cases hh | (simp at hh)), fun hq => (by first | (rw [HK.out] at hq; omega) | (exact absurd (HB1.out.trans hn) (by decide)) | (have h' := of_decide_eq_true hh; omega) | (simp at hh; omega) | cases hh | (simp at hh))⟩⟩)
  | exact Counts.leaf hrow (((((Keeps.refl _ w).alloc _).alloc _).alloc _).trans K2.out (fun _ _ => id)) h00 (fun hh => vfits_leaf HK.out (by decide) (by decide) (size_of_nil (by with_reducible assumption)) (by omega) ⟨fun hq => (by first | exact absurd HK.out hq | rfl | (with_reducible assumption) | exact Bool.eq_false_iff.2 (by with_reducible assumption)), fun hq hq' => (by first | exact absurd HK.out hq | exact absurd HK.out hq' | rfl | (with_reducible assumption) | omega), fun hq => (by first | exact absurd HK.out hq | rfl | (with_reducible assumption) | omega), fun hq => (by first | exact absurd HK.out hq | rfl | (with_reducible assumption) | omega), fun hq hq' => (by first | exact absurd HK.out hq | exact absurd HK.out hq' | (with_reducible assumption)), fun hn => ⟨fun hq => (by first | (rw [HK.out] at hq; omega) | (exact absurd (HB1.out.trans hn) (by decide)) | (have h' := of_decide_eq_true hh; omega) | (simp at hh; omega) | cases hh | (simp at hh)), fun hq => (by first | (rw [HK.out] at hq; omega) | (exact absurd (HB1.out.trans hn) (by decide)) | (have h' := of_decide_eq_true hh; omega) | (simp at hh; omega) | cases hh | (simp at hh))⟩⟩)
  | exact Counts.no hrow ((((Keeps.refl _ w).alloc _).alloc _).alloc _) h00
set_option maxRecDepth 1000000 in
set_option maxHeartbeats 20000000 in
theorem valueFits_3 (x y : Value) (S : Sch) (l : Nat) (name : ByteArray) (number kind type : Int) (rep map : Bool) (b : Bool) (i : Int) (u g : Nat) (s : ByteArray) (am : Option Addr) (cm : Nat) (msg : List (Int × List PV)) (d : Nat)
 (L : Nat) (left : Int) (h00 : 0 ≤ left) (w : World) (hrow : w.heap[L]? = some (.cells #[.int .i64 left] 3 (0, 0))) (hk : sortK kind = 3) (hsz : s.data.toList.length ≤ maxLen) :
 Calls Tryz.prog 67 #[.agg #[x, y], .agg #[.string name, .int .i64 number, .int .i64 kind, .bool rep, .bool map, .int .i64 type], .agg #[.bool b, .int .i64 i, .int .u64 (u : Int), .int .u64 (g : Int), .string s, .slice am msg.length cm], .int .i64 ((l + 1 : Nat) : Int), .pointer (some ⟨L, 0, none⟩)] w
  (Counts w L left (VFits S l ⟨name, number, kind, rep, map, type⟩ (.mk b i u g s msg)) (cntM d msg)) := by
 have HK := Lib.hid hk
 clear hk
 go_enter Tryz.func67, Tryz.ntmps67
 go_wp2_with (first
  | (go_at_call 65; refine (sortOf_any kind _).mono ?_; rintro e w' ⟨rfl, rfl⟩; rw [HK.out])
  | (go_at_call 82; refine (narrow_any kind _).mono ?_; rintro e w3 ⟨b1, rfl, hb1, k1⟩; have c1 := cell_row (j := 1) (k1.row (heap_alloc_new _ _) id); have c2 := cell_row (j := 2) (k1.row (heap_alloc_new _ _) id); have c3 := cell_row (j := 3) (k1.row (heap_alloc_new _ _) id); have c4 := cell_row (j := 4) (k1.row (heap_alloc_new _ _) id); simp at c1 c2 c3 c4; have K1 := Lib.hid k1; have HB1 := Lib.hid hb1; clear k1 hb1; cases b1))
 all_goals go_ret
 all_goals first
  | exact Counts.leaf hrow ((((Keeps.refl _ w).alloc _).alloc _).alloc _) h00 (fun hh => vfits_leaf HK.out (by decide) (by decide) (size_of_nil (by with_reducible assumption)) (by omega) ⟨fun hq => (by first | exact absurd HK.out hq | rfl | (with_reducible assumption) | exact Bool.eq_false_iff.2 (by with_reducible assumption)), fun hq hq' => (by first | exact absurd HK.out hq | exact absurd HK.out hq' | rfl | (with_reducible assumption) | omega), fun hq => (by first | exact absurd HK.out hq | rfl | (with_reducible assumption) | omega), fun hq => (by first | exact absurd HK.out hq | rfl | (with_reducible assumption) | omega), fun hq hq' => (by first | exact absurd HK.out hq | exact absurd HK.out hq' | (with_reducible assumption)), fun hn => ⟨fun hq => (by first | (rw [HK.out] at hq; omega) | (exact absurd (HB1.out.trans hn) (by decide)) | (have h' := of_decide_eq_true hh; omega) | (simp at hh; omega) | cases hh | (simp at hh)), fun hq => (by first | (rw [HK.out] at hq; omega) | (exact absurd (HB1.out.trans hn) (by decide)) | (have h' := of_decide_eq_true hh; omega) | (simp at hh; omega) | cases hh | (simp at hh))⟩⟩)
  | exact Counts.leaf hrow (((((Keeps.refl _ w).alloc _).alloc _).alloc _).trans K1.out (fun _ _ => id)) h00 (fun hh => vfits_leaf HK.out (by decide) (by decide) (size_of_nil (by with_reducible assumption)) (by omega) ⟨fun hq => (by first | exact absurd HK.out hq | rfl | (with_reducible assumption) | exact Bool.eq_false_iff.2 (by with_reducible assumption)), fun hq hq' => (by first | exact absurd HK.out hq | exact absurd HK.out hq' | rfl | (with_reducible assumption) | omega), fun hq => (by first | exact absurd HK.out hq | rfl | (with_reducible assumption) | omega), fun hq => (by first | exact absurd HK.out hq | rfl | (with_reducible assumption) | omega), fun hq hq' => (by first | exact absurd HK.out hq | exact absurd HK.out hq' | (with_reducible assumption)), fun hn => ⟨fun hq => (by first | (rw [HK.out] at hq; omega) | (exact absurd (HB1.out.trans hn) (by decide)) | (have h' := of_decide_eq_true hh; omega) | (simp at hh; omega) | cases hh | (simp at hh)), fun hq => (by first | (rw [HK.out] at hq; omega) | (exact absurd (HB1.out.trans hn) (by decide)) | (have h' := of_decide_eq_true hh; omega) | (simp at hh; omega) | cases hh | (simp at hh))⟩⟩)
  | exact Counts.leaf hrow (((((Keeps.refl _ w).alloc _).alloc _).alloc _).trans K2.out (fun _ _ => id)) h00 (fun hh => vfits_leaf HK.out (by decide) (by decide) (size_of_nil (by with_reducible assumption)) (by omega) ⟨fun hq => (by first | exact absurd HK.out hq | rfl | (with_reducible assumption) | exact Bool.eq_false_iff.2 (by with_reducible assumption)), fun hq hq' => (by first | exact absurd HK.out hq | exact absurd HK.out hq' | rfl | (with_reducible assumption) | omega), fun hq => (by first | exact absurd HK.out hq | rfl | (with_reducible assumption) | omega), fun hq => (by first | exact absurd HK.out hq | rfl | (with_reducible assumption) | omega), fun hq hq' => (by first | exact absurd HK.out hq | exact absurd HK.out hq' | (with_reducible assumption)), fun hn => ⟨fun hq => (by first | (rw [HK.out] at hq; omega) | (exact absurd (HB1.out.trans hn) (by decide)) | (have h' := of_decide_eq_true hh; omega) | (simp at hh; omega) | cases hh | (simp at hh)), fun hq => (by first | (rw [HK.out] at hq; omega) | (exact absurd (HB1.out.trans hn) (by decide)) | (have h' := of_decide_eq_true hh; omega) | (simp at hh; omega) | cases hh | (simp at hh))⟩⟩)
  | exact Counts.no hrow ((((Keeps.refl _ w).alloc _).alloc _).alloc _) h00
set_option maxRecDepth 1000000 in
set_option maxHeartbeats 20000000 in
theorem valueFits_4 (x y : Value) (S : Sch) (l : Nat) (name : ByteArray) (number kind type : Int) (rep map : Bool) (b : Bool) (i : Int) (u g : Nat) (s : ByteArray) (am : Option Addr) (cm : Nat) (msg : List (Int × List PV)) (d : Nat)
 (L : Nat) (left : Int) (h00 : 0 ≤ left) (w : World) (hrow : w.heap[L]? = some (.cells #[.int .i64 left] 3 (0, 0))) (hk : sortK kind = 4) (hsz : s.data.toList.length ≤ maxLen) :
 Calls Tryz.prog 67 #[.agg #[x, y], .agg #[.string name, .int .i64 number, .int .i64 kind, .bool rep, .bool map, .int .i64 type], .agg #[.bool b, .int .i64 i, .int .u64 (u : Int), .int .u64 (g : Int), .string s, .slice am msg.length cm], .int .i64 ((l + 1 : Nat) : Int), .pointer (some ⟨L, 0, none⟩)] w
  (Counts w L left (VFits S l ⟨name, number, kind, rep, map, type⟩ (.mk b i u g s msg)) (cntM d msg)) := by
 by_cases hk2 : kind = 2
 · subst hk2
   have HK := Lib.hid hk
   clear hk
   go_enter Tryz.func67, Tryz.ntmps67
   go_wp2_with (first
    | (go_at_call 65; refine (sortOf_any 2 _).mono ?_; rintro e w' ⟨rfl, rfl⟩; rw [HK.out])
    | (go_at_call 82; refine (narrow_float _).mono ?_; rintro e w3 ⟨rfl, k1⟩; have c1 := cell_row (j := 1) (k1.row (heap_alloc_new _ _) id); have c2 := cell_row (j := 2) (k1.row (heap_alloc_new _ _) id); have c3 := cell_row (j := 3) (k1.row (heap_alloc_new _ _) id); have c4 := cell_row (j := 4) (k1.row (heap_alloc_new _ _) id); simp at c1 c2 c3 c4; have K1 := Lib.hid k1; clear k1)
    | (go_at_call 83; refine (shortFloat_short _ _).mono ?_; rintro e w4 ⟨b2, rfl, x2, k2⟩; have X2 := Lib.hid x2; have K2 := Lib.hid (K1.out.trans k2 (fun _ _ => id)); clear k2 x2))
   all_goals go_ret
   all_goals first
    | exact Counts.leaf hrow (((((Keeps.refl _ w).alloc _).alloc _).alloc _).trans K1.out (fun _ _ => id)) h00 (fun hh => vfits_leaf4 HK.out (size_of_nil (by with_reducible assumption)) (by omega) (fun _ => absurd rfl (by decide)) ⟨fun hq => (by first | exact absurd HK.out hq | rfl | (with_reducible assumption) | exact Bool.eq_false_iff.2 (by with_reducible assumption)), fun hq hq' => (by first | exact absurd HK.out hq | exact absurd HK.out hq' | rfl | (with_reducible assumption) | omega), fun hq => (by first | exact absurd HK.out hq | rfl | (with_reducible assumption) | omega), fun hq => (by first | exact absurd HK.out hq | rfl | (with_reducible assumption) | omega), fun hq hq' => (by first | exact absurd HK.out hq | exact absurd HK.out hq' | (with_reducible assumption)), fun hn => ⟨fun hq => (by first | (rw [HK.out] at hq; omega) | (exact absurd (HB1.out.trans hn) (by decide)) | (have h' := of_decide_eq_true hh; omega) | (simp at hh; omega) | cases hh | (simp at hh)), fun hq => (by first | (rw [HK.out] at hq; omega) | (exact absurd (HB1.out.trans hn) (by decide)) | (have h' := of_decide_eq_true hh; omega) | (simp at hh; omega) | cases hh | (simp at hh))⟩⟩)
    | exact Counts.leaf hrow (((((Keeps.refl _ w).alloc _).alloc _).alloc _).trans K2.out (fun _ _ => id)) h00 (fun hh => vfits_leaf4 HK.out (size_of_nil (by with_reducible assumption)) (by omega) (fun _ => by first | exact X2.out (by first | exact hh | (simpa using hh)) | (rw [show g = 0 by assumption]; exact X2.out (by first | exact hh | (simpa using hh)))) ⟨fun hq => (by first | exact absurd HK.out hq | rfl | (with_reducible assumption) | exact Bool.eq_false_iff.2 (by with_reducible assumption)), fun hq hq' => (by first | exact absurd HK.out hq | exact absurd HK.out hq' | rfl | (with_reducible assumption) | omega), fun hq => (by first | exact absurd HK.out hq | rfl | (with_reducible assumption) | omega), fun hq => (by first | exact absurd HK.out hq | rfl | (with_reducible assumption) | omega), fun hq hq' => (by first | exact absurd HK.out hq | exact absurd HK.out hq' | (with_reducible assumption)), fun hn => ⟨fun hq => (by first | (rw [HK.out] at hq; omega) | (exact absurd (HB1.out.trans hn) (by decide)) | (have h' := of_decide_eq_true hh; omega) | (simp at hh; omega) | cases hh | (simp at hh)), fun hq => (by first | (rw [HK.out] at hq; omega) | (exact absurd (HB1.out.trans hn) (by decide)) | (have h' := of_decide_eq_true hh; omega) | (simp at hh; omega) | cases hh | (simp at hh))⟩⟩)
    | exact Counts.no hrow ((((Keeps.refl _ w).alloc _).alloc _).alloc _) h00
 · have HK := Lib.hid hk
   clear hk
   go_enter Tryz.func67, Tryz.ntmps67
   go_wp2_with (first
    | (go_at_call 65; refine (sortOf_any kind _).mono ?_; rintro e w' ⟨rfl, rfl⟩; rw [HK.out])
    | (go_at_call 82; refine (narrow_any kind _).mono ?_; rintro e w3 ⟨b1, rfl, hb1, k1⟩; have c1 := cell_row (j := 1) (k1.row (heap_alloc_new _ _) id); have c2 := cell_row (j := 2) (k1.row (heap_alloc_new _ _) id); have c3 := cell_row (j := 3) (k1.row (heap_alloc_new _ _) id); have c4 := cell_row (j := 4) (k1.row (heap_alloc_new _ _) id); simp at c1 c2 c3 c4; have K1 := Lib.hid k1; have HB1 := Lib.hid hb1; clear k1 hb1; cases b1)
    | (go_at_call 83; refine (shortFloat_short _ _).mono ?_; rintro e w4 ⟨b2, rfl, x2, k2⟩; have X2 := Lib.hid x2; have K2 := Lib.hid (K1.out.trans k2 (fun _ _ => id)); clear k2 x2))
   all_goals go_ret
   all_goals first
    | exact Counts.leaf hrow (((((Keeps.refl _ w).alloc _).alloc _).alloc _).trans K1.out (fun _ _ => id)) h00 (fun hh => vfits_leaf4 HK.out (size_of_nil (by with_reducible assumption)) (by omega) (fun e => absurd e hk2) ⟨fun hq => (by first | exact absurd HK.out hq | rfl | (with_reducible assumption) | exact Bool.eq_false_iff.2 (by with_reducible assumption)), fun hq hq' => (by first | exact absurd HK.out hq | exact absurd HK.out hq' | rfl | (with_reducible assumption) | omega), fun hq => (by first | exact absurd HK.out hq | rfl | (with_reducible assumption) | omega), fun hq => (by first | exact absurd HK.out hq | rfl | (with_reducible assumption) | omega), fun hq hq' => (by first | exact absurd HK.out hq | exact absurd HK.out hq' | (with_reducible assumption)), fun hn => ⟨fun hq => (by first | (rw [HK.out] at hq; omega) | (exact absurd (HB1.out.trans hn) (by decide)) | (have h' := of_decide_eq_true hh; omega) | (simp at hh; omega) | cases hh | (simp at hh)), fun hq => (by first | (rw [HK.out] at hq; omega) | (exact absurd (HB1.out.trans hn) (by decide)) | (have h' := of_decide_eq_true hh; omega) | (simp at hh; omega) | cases hh | (simp at hh))⟩⟩)
    | exact Counts.leaf hrow (((((Keeps.refl _ w).alloc _).alloc _).alloc _).trans K2.out (fun _ _ => id)) h00 (fun hh => vfits_leaf4 HK.out (size_of_nil (by with_reducible assumption)) (by omega) (fun e => absurd e hk2) ⟨fun hq => (by first | exact absurd HK.out hq | rfl | (with_reducible assumption) | exact Bool.eq_false_iff.2 (by with_reducible assumption)), fun hq hq' => (by first | exact absurd HK.out hq | exact absurd HK.out hq' | rfl | (with_reducible assumption) | omega), fun hq => (by first | exact absurd HK.out hq | rfl | (with_reducible assumption) | omega), fun hq => (by first | exact absurd HK.out hq | rfl | (with_reducible assumption) | omega), fun hq hq' => (by first | exact absurd HK.out hq | exact absurd HK.out hq' | (with_reducible assumption)), fun hn => ⟨fun hq => (by first | (rw [HK.out] at hq; omega) | (exact absurd (HB1.out.trans hn) (by decide)) | (have h' := of_decide_eq_true hh; omega) | (simp at hh; omega) | cases hh | (simp at hh)), fun hq => (by first | (rw [HK.out] at hq; omega) | (exact absurd (HB1.out.trans hn) (by decide)) | (have h' := of_decide_eq_true hh; omega) | (simp at hh; omega) | cases hh | (simp at hh))⟩⟩)
    | exact Counts.no hrow ((((Keeps.refl _ w).alloc _).alloc _).alloc _) h00
set_option maxRecDepth 1000000 in
set_option maxHeartbeats 20000000 in
theorem valueFits_5 (x y : Value) (S : Sch) (l : Nat) (name : ByteArray) (number kind type : Int) (rep map : Bool) (b : Bool) (i : Int) (u g : Nat) (s : ByteArray) (am : Option Addr) (cm : Nat) (msg : List (Int × List PV)) (d : Nat)
 (L : Nat) (left : Int) (h00 : 0 ≤ left) (w : World) (hrow : w.heap[L]? = some (.cells #[.int .i64 left] 3 (0, 0))) (hk : sortK kind = 5) (hsz : s.data.toList.length ≤ maxLen) :
 Calls Tryz.prog 67 #[.agg #[x, y], .agg #[.string name, .int .i64 number, .int .i64 kind, .bool rep, .bool map, .int .i64 type], .agg #[.bool b, .int .i64 i, .int .u64 (u : Int), .int .u64 (g : Int), .string s, .slice am msg.length cm], .int .i64 ((l + 1 : Nat) : Int), .pointer (some ⟨L, 0, none⟩)] w
  (Counts w L left (VFits S l ⟨name, number, kind, rep, map, type⟩ (.mk b i u g s msg)) (cntM d msg)) := by
 have HK := Lib.hid hk
 clear hk
 by_cases hb : b = true
 · go_enter Tryz.func67, Tryz.ntmps67
   go_wp2_with (go_at_call 65; refine (sortOf_any kind _).mono ?_; rintro e w' ⟨rfl, rfl⟩; rw [HK.out])
   all_goals go_ret
   all_goals exact Counts.no hrow ((((Keeps.refl _ w).alloc _).alloc _).alloc _) h00
 by_cases hi : i = 0
 rotate_left
 · go_enter Tryz.func67, Tryz.ntmps67
   go_wp2_with (go_at_call 65; refine (sortOf_any kind _).mono ?_; rintro e w' ⟨rfl, rfl⟩; rw [HK.out])
   all_goals go_ret
   all_goals exact Counts.no hrow ((((Keeps.refl _ w).alloc _).alloc _).alloc _) h00
 by_cases hu : u = 0
 rotate_left
 · go_enter Tryz.func67, Tryz.ntmps67
   go_wp2_with (go_at_call 65; refine (sortOf_any kind _).mono ?_; rintro e w' ⟨rfl, rfl⟩; rw [HK.out])
   all_goals go_ret
   all_goals exact Counts.no hrow ((((Keeps.refl _ w).alloc _).alloc _).alloc _) h00
 by_cases hg : g = 0
 rotate_left
 · go_enter Tryz.func67, Tryz.ntmps67
   go_wp2_with (go_at_call 65; refine (sortOf_any kind _).mono ?_; rintro e w' ⟨rfl, rfl⟩; rw [HK.out])
   all_goals go_ret
   all_goals exact Counts.no hrow ((((Keeps.refl _ w).alloc _).alloc _).alloc _) h00
 by_cases hm : 0 < msg.length
 · go_enter Tryz.func67, Tryz.ntmps67
   go_wp2_with (go_at_call 65; refine (sortOf_any kind _).mono ?_; rintro e w' ⟨rfl, rfl⟩; rw [HK.out])
   all_goals go_ret
   all_goals exact Counts.no hrow ((((Keeps.refl _ w).alloc _).alloc _).alloc _) h00
 have hb' : b = false := by cases b <;> simp_all
 subst hb' hi hu hg
 obtain ⟨c5, w5, e5, hb5, k5⟩ := run_to_bytes s.data.toList hsz (((w.alloc (.cells #[x, y] 25)).alloc (.cells #[.string name, .int .i64 number, .int .i64 kind, .bool rep, .bool map, .int .i64 type] 33)).alloc (.cells #[.bool false, .int .i64 0, .int .u64 0, .int .u64 0, .string s, .slice am msg.length cm] 39))
 obtain ⟨N, hN⟩ : ∃ N, (((w.alloc (.cells #[x, y] 25)).alloc (.cells #[.string name, .int .i64 number, .int .i64 kind, .bool rep, .bool map, .int .i64 type] 33)).alloc (.cells #[.bool false, .int .i64 0, .int .u64 0, .int .u64 0, .string s, .slice am msg.length cm] 39)).heap.size = N := ⟨_, rfl⟩
 rw [hN] at e5 hb5
 clear hN
 obtain ⟨n5, hn5⟩ : ∃ n, s.data.toList.length = n := ⟨_, rfl⟩
 have HV : Hid (Calls Tryz.prog 84 #[.slice (some ⟨N, 0, none⟩) n5 c5] w5 (Tells w5 True)) := by
  show Calls _ _ _ _ _
  obtain ⟨a', c', e', h1, h2, h3⟩ := hb5
  cases e'
  rw [← hn5]
  refine utf8Valid_tells _ _ _ h1 (by unfold maxLen at h2; omega) _ ?_
  intro hp
  obtain ⟨b', off', e2, h4⟩ := h3.resolve_left (by intro e; rw [e] at hp; simp at hp)
  refine ⟨b', off', e2, fun j hj => ⟨_, ?_, h4 j hj⟩⟩
  exact UInt8.toNat_lt _
 rw [hn5] at e5
 have e5 : (convert 9 72 (.string s)).run Tryz.prog (((w.alloc (.cells #[x, y] 25)).alloc (.cells #[.string name, .int .i64 number, .int .i64 kind, .bool rep, .bool map, .int .i64 type] 33)).alloc (.cells #[.bool false, .int .i64 0, .int .u64 0, .int .u64 0, .string s, .slice am msg.length cm] 39)) = .ok (.slice (some ⟨N, 0, none⟩) n5 c5) w5 := e5
 have K5 := Lib.hid k5
 clear k5 hb5 hn5
 go_enter Tryz.func67, Tryz.ntmps67
 go_wp2_with (first
  | (go_at_call 65; refine (sortOf_any kind _).mono ?_; rintro e w' ⟨rfl, rfl⟩; rw [HK.out])
  | (go_at_call 84; refine HV.out.mono ?_; rintro e w6 ⟨b6, rfl, _, k6⟩; have K6 := Lib.hid (K5.out.trans k6 (fun _ _ => id)); clear k6; have c4 := cell_row (j := 4) (K6.out.row (heap_alloc_new _ _) id); simp at c4; cases b6))
 all_goals go_ret
 all_goals first
  | exact Counts.no hrow (((((Keeps.refl _ w).alloc _).alloc _).alloc _).trans K6.out (fun _ _ => id)) h00
  | exact Counts.leaf hrow (((((Keeps.refl _ w).alloc _).alloc _).alloc _).trans K6.out (fun _ _ => id)) h00 (fun hh => vfits_leaf HK.out (by decide) (by decide) (by have h' := of_decide_eq_true hh; omega) (by omega) ⟨fun hq => (by first | exact absurd HK.out hq | rfl | (with_reducible assumption) | exact Bool.eq_false_iff.2 (by with_reducible assumption)), fun hq hq' => (by first | exact absurd HK.out hq | exact absurd HK.out hq' | rfl | (with_reducible assumption) | omega), fun hq => (by first | exact absurd HK.out hq | rfl | (with_reducible assumption) | omega), fun hq => (by first | exact absurd HK.out hq | rfl | (with_reducible assumption) | omega), fun hq hq' => (by first | exact absurd HK.out hq | exact absurd HK.out hq' | (with_reducible assumption)), fun hn => ⟨fun hq => (by first | (rw [HK.out] at hq; omega) | (exact absurd (HB1.out.trans hn) (by decide)) | (have h' := of_decide_eq_true hh; omega) | (simp at hh; omega) | cases hh | (simp at hh)), fun hq => (by first | (rw [HK.out] at hq; omega) | (exact absurd (HB1.out.trans hn) (by decide)) | (have h' := of_decide_eq_true hh; omega) | (simp at hh; omega) | cases hh | (simp at hh))⟩⟩)
set_option maxRecDepth 1000000 in
set_option maxHeartbeats 20000000 in
theorem valueFits_6 (x y : Value) (S : Sch) (l : Nat) (name : ByteArray) (number kind type : Int) (rep map : Bool) (b : Bool) (i : Int) (u g : Nat) (s : ByteArray) (am : Option Addr) (cm : Nat) (msg : List (Int × List PV)) (d : Nat)
 (L : Nat) (left : Int) (h00 : 0 ≤ left) (w : World) (hrow : w.heap[L]? = some (.cells #[.int .i64 left] 3 (0, 0))) (hk : sortK kind = 6) (hsz : s.data.toList.length ≤ maxLen) :
 Calls Tryz.prog 67 #[.agg #[x, y], .agg #[.string name, .int .i64 number, .int .i64 kind, .bool rep, .bool map, .int .i64 type], .agg #[.bool b, .int .i64 i, .int .u64 (u : Int), .int .u64 (g : Int), .string s, .slice am msg.length cm], .int .i64 ((l + 1 : Nat) : Int), .pointer (some ⟨L, 0, none⟩)] w
  (Counts w L left (VFits S l ⟨name, number, kind, rep, map, type⟩ (.mk b i u g s msg)) (cntM d msg)) := by
 have HK := Lib.hid hk
 clear hk
 go_enter Tryz.func67, Tryz.ntmps67
 go_wp2_with (first
  | (go_at_call 65; refine (sortOf_any kind _).mono ?_; rintro e w' ⟨rfl, rfl⟩; rw [HK.out]))
 all_goals go_ret
 all_goals first
  | exact Counts.leaf hrow ((((Keeps.refl _ w).alloc _).alloc _).alloc _) h00 (fun hh => vfits_leaf HK.out (by decide) (by decide) (size_of_nil (by with_reducible assumption)) (by omega) ⟨fun hq => (by first | exact absurd HK.out hq | rfl | (with_reducible assumption) | exact Bool.eq_false_iff.2 (by with_reducible assumption)), fun hq hq' => (by first | exact absurd HK.out hq | exact absurd HK.out hq' | rfl | (with_reducible assumption) | omega), fun hq => (by first | exact absurd HK.out hq | rfl | (with_reducible assumption) | omega), fun hq => (by first | exact absurd HK.out hq | rfl | (with_reducible assumption) | omega), fun hq hq' => (by first | exact absurd HK.out hq | exact absurd HK.out hq' | (with_reducible assumption)), fun hn => ⟨fun hq => (by first | (rw [HK.out] at hq; omega) | (exact absurd (HB1.out.trans hn) (by decide)) | (have h' := of_decide_eq_true hh; omega) | (simp at hh; omega) | cases hh | (simp at hh)), fun hq => (by first | (rw [HK.out] at hq; omega) | (exact absurd (HB1.out.trans hn) (by decide)) | (have h' := of_decide_eq_true hh; omega) | (simp at hh; omega) | cases hh | (simp at hh))⟩⟩)
  | exact Counts.leaf hrow (((((Keeps.refl _ w).alloc _).alloc _).alloc _).trans K1.out (fun _ _ => id)) h00 (fun hh => vfits_leaf HK.out (by decide) (by decide) (size_of_nil (by with_reducible assumption)) (by omega) ⟨fun hq => (by first | exact absurd HK.out hq | rfl | (with_reducible assumption) | exact Bool.eq_false_iff.2 (by with_reducible assumption)), fun hq hq' => (by first | exact absurd HK.out hq | exact absurd HK.out hq' | rfl | (with_reducible assumption) | omega), fun hq => (by first | exact absurd HK.out hq | rfl | (with_reducible assumption) | omega), fun hq => (by first | exact absurd HK.out hq | rfl | (with_reducible assumption) | omega), fun hq hq' => (by first | exact absurd HK.out hq | exact absurd HK.out hq' | (with_reducible assumption)), fun hn => ⟨fun hq => (by first | (rw [HK.out] at hq; omega) | (exact absurd (HB1.out.trans hn) (by decide)) | (have h' := of_decide_eq_true hh; omega) | (simp at hh; omega) | cases hh | (simp at hh)), fun hq => (by first | (rw [HK.out] at hq; omega) | (exact absurd (HB1.out.trans hn) (by decide)) | (have h' := of_decide_eq_true hh; omega) | (simp at hh; omega) | cases hh | (simp at hh))⟩⟩)
  | exact Counts.leaf hrow (((((Keeps.refl _ w).alloc _).alloc _).alloc _).trans K2.out (fun _ _ => id)) h00 (fun hh => vfits_leaf HK.out (by decide) (by decide) (size_of_nil (by with_reducible assumption)) (by omega) ⟨fun hq => (by first | exact absurd HK.out hq | rfl | (with_reducible assumption) | exact Bool.eq_false_iff.2 (by with_reducible assumption)), fun hq hq' => (by first | exact absurd HK.out hq | exact absurd HK.out hq' | rfl | (with_reducible assumption) | omega), fun hq => (by first | exact absurd HK.out hq | rfl | (with_reducible assumption) | omega), fun hq => (by first | exact absurd HK.out hq | rfl | (with_reducible assumption) | omega), fun hq hq' => (by first | exact absurd HK.out hq | exact absurd HK.out hq' | (with_reducible assumption)), fun hn => ⟨fun hq => (by first | (rw [HK.out] at hq; omega) | (exact absurd (HB1.out.trans hn) (by decide)) | (have h' := of_decide_eq_true hh; omega) | (simp at hh; omega) | cases hh | (simp at hh)), fun hq => (by first | (rw [HK.out] at hq; omega) | (exact absurd (HB1.out.trans hn) (by decide)) | (have h' := of_decide_eq_true hh; omega) | (simp at hh; omega) | cases hh | (simp at hh))⟩⟩)
  | exact Counts.leaf hrow ((((Keeps.refl _ w).alloc _).alloc _).alloc _) h00 (fun hh => vfits_leaf HK.out (by decide) (by decide) (by have h' := of_decide_eq_true hh; omega) (by omega) ⟨fun hq => (by first | exact absurd HK.out hq | rfl | (with_reducible assumption) | exact Bool.eq_false_iff.2 (by with_reducible assumption)), fun hq hq' => (by first | exact absurd HK.out hq | exact absurd HK.out hq' | rfl | (with_reducible assumption) | omega), fun hq => (by first | exact absurd HK.out hq | rfl | (with_reducible assumption) | omega), fun hq => (by first | exact absurd HK.out hq | rfl | (with_reducible assumption) | omega), fun hq hq' => (by first | exact absurd HK.out hq | exact absurd HK.out hq' | (with_reducible assumption)), fun hn => ⟨fun hq => (by first | (rw [HK.out] at hq; omega) | (exact absurd (HB1.out.trans hn) (by decide)) | (have h' := of_decide_eq_true hh; omega) | (simp at hh; omega) | cases hh | (simp at hh)), fun hq => (by first | (rw [HK.out] at hq; omega) | (exact absurd (HB1.out.trans hn) (by decide)) | (have h' := of_decide_eq_true hh; omega) | (simp at hh; omega) | cases hh | (simp at hh))⟩⟩)
  | exact Counts.no hrow ((((Keeps.refl _ w).alloc _).alloc _).alloc _) h00
set_option maxRecDepth 1000000 in
set_option maxHeartbeats 20000000 in
theorem valueFits_7 (x y : Value) (S : Sch) (l : Nat) (name : ByteArray) (number kind type : Int) (rep map : Bool) (b : Bool) (i : Int) (u g : Nat) (s : ByteArray) (am : Option Addr) (cm : Nat) (msg : List (Int × List PV)) (d : Nat)
 (L : Nat) (left : Int) (h00 : 0 ≤ left) (w : World) (hrow : w.heap[L]? = some (.cells #[.int .i64 left] 3 (0, 0))) (hk : sortK kind = 7) (hsz : s.data.toList.length ≤ maxLen) :
 Calls Tryz.prog 67 #[.agg #[x, y], .agg #[.string name, .int .i64 number, .int .i64 kind, .bool rep, .bool map, .int .i64 type], .agg #[.bool b, .int .i64 i, .int .u64 (u : Int), .int .u64 (g : Int), .string s, .slice am msg.length cm], .int .i64 ((l + 1 : Nat) : Int), .pointer (some ⟨L, 0, none⟩)] w
  (Counts w L left (VFits S l ⟨name, number, kind, rep, map, type⟩ (.mk b i u g s msg)) (cntM d msg)) := by
 have HK := Lib.hid hk
 clear hk
 go_enter Tryz.func67, Tryz.ntmps67
 go_wp2_with (first
  | (go_at_call 65; refine (sortOf_any kind _).mono ?_; rintro e w' ⟨rfl, rfl⟩; rw [HK.out])
  | (go_at_call 82; refine (narrow_any kind _).mono ?_; rintro e w3 ⟨b1, rfl, hb1, k1⟩; have c1 := cell_row (j := 1) (k1.row (heap_alloc_new _ _) id); have c2 := cell_row (j := 2) (k1.row (heap_alloc_new _ _) id); have c3 := cell_row (j := 3) (k1.row (heap_alloc_new _ _) id); have c4 := cell_row (j := 4) (k1.row (heap_alloc_new _ _) id); simp at c1 c2 c3 c4; have K1 := Lib.hid k1; have HB1 := Lib.hid hb1; clear k1 hb1; cases b1))
 all_goals go_ret
 all_goals first
  | exact Counts.leaf hrow ((((Keeps.refl _ w).alloc _).alloc _).alloc _) h00 (fun hh => vfits_leaf HK.out (by decide) (by decide) (size_of_nil (by with_reducible assumption)) (by omega) ⟨fun hq => (by first | exact absurd HK.out hq | rfl | (with_reducible assumption) | exact Bool.eq_false_iff.2 (by with_reducible assumption)), fun hq hq' => (by first | exact absurd HK.out hq | exact absurd HK.out hq' | rfl | (with_reducible assumption) | omega), fun hq => (by first | exact absurd HK.out hq | rfl | (with_reducible assumption) | omega), fun hq => (by first | exact absurd HK.out hq | rfl | (with_reducible assumption) | omega), fun hq hq' => (by first | exact absurd HK.out hq | exact absurd HK.out hq' | (with_reducible assumption)), fun hn => ⟨fun hq => (by first | (rw [HK.out] at hq; omega) | (exact absurd (HB1.out.trans hn) (by decide)) | (have h' := of_decide_eq_true hh; omega) | (simp at hh; omega) | cases hh | (simp at hh)), fun hq => (by first | (rw [HK.out] at hq; omega) | (exact absurd (HB1.out.trans hn) (by decide)) | (have h' := of_decide_eq_true hh; omega) | (simp at hh; omega) | cases hh | (simp at hh))⟩⟩)
  | exact Counts.leaf hrow (((((Keeps.refl _ w).alloc _).alloc _).alloc _).trans K1.out (fun _ _ => id)) h00 (fun hh => vfits_leaf HK.out (by decide) (by decide) (size_of_nil (by with_reducible assumption)) (by omega) ⟨fun hq => (by first | exact absurd HK.out hq | rfl | (with_reducible assumption) | exact Bool.eq_false_iff.2 (by with_reducible assumption)), fun hq hq' => (by first | exact absurd HK.out hq | exact absurd HK.out hq' | rfl | (with_reducible assumption) | omega), fun hq => (by first | exact absurd HK.out hq | rfl | (with_reducible assumption) | omega), fun hq => (by first | exact absurd HK.out hq | rfl | (with_reducible assumption) | omega), fun hq hq' => (by first | exact absurd HK.out hq | exact absurd HK.out hq' | (with_reducible assumption)), fun hn => ⟨fun hq => (by first | (rw [HK.out] at hq; omega) | (exact absurd (HB1.out.trans hn) (by decide)) | (have h' := of_decide_eq_true hh; omega) | (simp at hh; omega) | cases hh | (simp at hh)), fun hq => (by first | (rw [HK.out] at hq; omega) | (exact absurd (HB1.out.trans hn) (by decide)) | (have h' := of_decide_eq_true hh; omega) | (simp at hh; omega) | cases hh | (simp at hh))⟩⟩)
  | exact Counts.leaf hrow (((((Keeps.refl _ w).alloc _).alloc _).alloc _).trans K2.out (fun _ _ => id)) h00 (fun hh => vfits_leaf HK.out (by decide) (by decide) (size_of_nil (by with_reducible assumption)) (by omega) ⟨fun hq => (by first | exact absurd HK.out hq | rfl | (with_reducible assumption) | exact Bool.eq_false_iff.2 (by with_reducible assumption)), fun hq hq' => (by first | exact absurd HK.out hq | exact absurd HK.out hq' | rfl | (with_reducible assumption) | omega), fun hq => (by first | exact absurd HK.out hq | rfl | (with_reducible assumption) | omega), fun hq => (by first | exact absurd HK.out hq | rfl | (with_reducible assumption) | omega), fun hq hq' => (by first | exact absurd HK.out hq | exact absurd HK.out hq' | (with_reducible assumption)), fun hn => ⟨fun hq => (by first | (rw [HK.out] at hq; omega) | (exact absurd (HB1.out.trans hn) (by decide)) | (have h' := of_decide_eq_true hh; omega) | (simp at hh; omega) | cases hh | (simp at hh)), fun hq => (by first | (rw [HK.out] at hq; omega) | (exact absurd (HB1.out.trans hn) (by decide)) | (have h' := of_decide_eq_true hh; omega) | (simp at hh; omega) | cases hh | (simp at hh))⟩⟩)
  | exact Counts.no hrow ((((Keeps.refl _ w).alloc _).alloc _).alloc _) h00
set_option maxRecDepth 1000000 in
set_option maxHeartbeats 20000000 in
theorem valueFits_8 (x y : Value) (S : Sch) (l : Nat) (name : ByteArray) (number kind type : Int) (rep map : Bool) (b : Bool) (i : Int) (u g : Nat) (s : ByteArray) (am : Option Addr) (cm : Nat) (msg : List (Int × List PV)) (d : Nat)
 (L : Nat) (left : Int) (h00 : 0 ≤ left) (w : World) (hrow : w.heap[L]? = some (.cells #[.int .i64 left] 3 (0, 0))) (hk : sortK kind = 8) (h01 : left ≤ 2000) (hl : l ≤ 20)
 (w0 : World) (hk0 : Keeps (fun _ => False) w0 w) (hmsg : MsgAt w0 d (.slice am msg.length cm) msg) (hbd : MBound d msg)
 (ih : ∀ (w : World) (at_ : Int) (v : Value) (fs : List (Int × List PV)) (d : Nat) (left : Int), Keeps (fun _ => False) w0 w → MsgAt w0 d v fs → MBound d fs → w.heap[L]? = some (.cells #[.int .i64 left] 3 (0, 0)) → 0 ≤ left → left ≤ 2000 →
  Calls Tryz.prog 29 #[.agg #[x, y], .int .i64 at_, v, .int .i64 (l : Int), .pointer (some ⟨L, 0, none⟩)] w (Counts w L left (MFits S l at_ fs) (cntM d fs))) :
 Calls Tryz.prog 67 #[.agg #[x, y], .agg #[.string name, .int .i64 number, .int .i64 kind, .bool rep, .bool map, .int .i64 type], .agg #[.bool b, .int .i64 i, .int .u64 (u : Int), .int .u64 (g : Int), .string s, .slice am msg.length cm], .int .i64 ((l + 1 : Nat) : Int), .pointer (some ⟨L, 0, none⟩)] w
  (Counts w L left (VFits S l ⟨name, number, kind, rep, map, type⟩ (.mk b i u g s msg)) (cntM d msg)) := by
 have HK := Lib.hid hk
 have HS := Lib.hid hk0
 have HM := Lib.hid hmsg
 have HBD := Lib.hid hbd
 have HI := Lib.hid ih
 clear hk hk0 hmsg ih hbd
 by_cases hb : b = true
 · go_enter Tryz.func67, Tryz.ntmps67
   go_wp2_with (go_at_call 65; refine (sortOf_any kind _).mono ?_; rintro e w' ⟨rfl, rfl⟩; rw [HK.out])
   all_goals go_ret
   all_goals exact Counts.no hrow ((((Keeps.refl _ w).alloc _).alloc _).alloc _) h00
 by_cases hi : i = 0
 rotate_left
 · go_enter Tryz.func67, Tryz.ntmps67
   go_wp2_with (go_at_call 65; refine (sortOf_any kind _).mono ?_; rintro e w' ⟨rfl, rfl⟩; rw [HK.out])
   all_goals go_ret
   all_goals exact Counts.no hrow ((((Keeps.refl _ w).alloc _).alloc _).alloc _) h00
 by_cases hu : u = 0
 rotate_left
 · go_enter Tryz.func67, Tryz.ntmps67
   go_wp2_with (go_at_call 65; refine (sortOf_any kind _).mono ?_; rintro e w' ⟨rfl, rfl⟩; rw [HK.out])
   all_goals go_ret
   all_goals exact Counts.no hrow ((((Keeps.refl _ w).alloc _).alloc _).alloc _) h00
 by_cases hg : g = 0
 rotate_left
 · go_enter Tryz.func67, Tryz.ntmps67
   go_wp2_with (go_at_call 65; refine (sortOf_any kind _).mono ?_; rintro e w' ⟨rfl, rfl⟩; rw [HK.out])
   all_goals go_ret
   all_goals exact Counts.no hrow ((((Keeps.refl _ w).alloc _).alloc _).alloc _) h00
 by_cases hs : s.toList = []
 rotate_left
 · go_enter Tryz.func67, Tryz.ntmps67
   go_wp2_with (go_at_call 65; refine (sortOf_any kind _).mono ?_; rintro e w' ⟨rfl, rfl⟩; rw [HK.out])
   all_goals go_ret
   all_goals exact Counts.no hrow ((((Keeps.refl _ w).alloc _).alloc _).alloc _) h00
 have hb' : b = false := by cases b <;> simp_all
 subst hb' hi hu hg
 have hL : L < w.heap.size := by
  rcases Nat.lt_or_ge L w.heap.size with h | h
  · exact h
  · rw [Array.getElem?_eq_none h] at hrow; cases hrow
 have k3 : Keeps (fun _ => False) w (((w.alloc (.cells #[x, y] 25)).alloc (.cells #[.string name, .int .i64 number, .int .i64 kind, .bool rep, .bool map, .int .i64 type] 33)).alloc (.cells #[.bool false, .int .i64 0, .int .u64 0, .int .u64 0, .string s, .slice am msg.length cm] 39)) := ((((Keeps.refl _ w).alloc _).alloc _).alloc _)
 have HC := Lib.hid (HI.out _ type _ msg d left (HS.out.trans k3 (fun _ _ => id)) HM.out HBD.out (k3.row hrow id) h00 h01)
 clear k3
 have hwl : IntKind.i64.wrap ((l : Int) + 1 - 1) = (l : Int) := by rw [IntWalk.i64_in _ (by omega)]; omega
 have hwl2 : IntKind.i64.wrap (l : Int) = (l : Int) := by rw [IntWalk.i64_in _ (by omega)]
 go_enter Tryz.func67, Tryz.ntmps67
 go_wp2_with (first
  | (go_at_call 65; refine (sortOf_any kind _).mono ?_; rintro e w' ⟨rfl, rfl⟩; rw [HK.out])
  | (go_at_call 29; refine HC.out.mono ?_; rintro e w4 ⟨b4, l2, rfl, k4, r4, h1, h2, h3⟩; have c5 := cell_row (j := 5) (k4.row (heap_alloc_new _ _) (by intro e; simp at e; omega)); have c4 := cell_row (j := 4) (k4.row (heap_alloc2_old _ _ _) (by intro e; simp at e; omega)); simp at c4 c5; have K4 := Lib.hid k4; have H3 := Lib.hid h3; have R4 := Lib.hid r4; clear k4 h3 r4; cases b4))
 all_goals go_ret
 all_goals first
  | exact ⟨false, l2, rfl, ((((Keeps.refl (fun j => j = L) w).alloc _).alloc _).alloc _).trans K4.out (fun _ _ h => h), R4.out, h1, h2, fun h => by cases h⟩
  | exact ⟨_, l2, rfl, ((((Keeps.refl (fun j => j = L) w).alloc _).alloc _).alloc _).trans K4.out (fun _ _ h => h), R4.out, h1, h2, fun _ => ⟨⟨size_of_nil hs, fun _ => (H3.out (by first | rfl | trivial)).1, fun h => absurd HK.out h, fun e => by have h := HK.out; rw [show kind = 2 from e] at h; exact absurd h (by decide), ⟨fun _ => rfl, fun _ _ => rfl, fun _ => rfl, fun _ => rfl, fun _ _ => hs, fun _ => ⟨fun hq => (by rw [show sortK kind = 8 from HK.out] at hq; omega), fun hq => (by rw [show sortK kind = 8 from HK.out] at hq; omega)⟩⟩⟩, (H3.out (by first | rfl | trivial)).2⟩⟩
end Go.Proofs.YtonegoemmologaaGreatDoor
