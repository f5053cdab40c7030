/-
  The thin package's DefMarshal, over whatever given and Marshal do.
  The thin package's DefUnmarshal, over whatever Unmarshal and plain do.
-/
import Derived.Test.YtonegoemmologaaGreatDoorM26
import Derived.Deep.RegionHeld3
import Derived.Deep.DeepCutAuto
set_option linter.unusedVariables false
set_option linter.unusedSimpArgs false
namespace Go.Proofs.YtonegoemmologaaGreatDoor
open Go.RowKit
def GM (k form : Int) (x ev : Value) (R : World → Value → Prop) (T : ByteArray) (w : World) : Prop :=
 (∀ w', Keeps (fun _ => False) w w' → Calls Tryz.prog 20 #[x] w' fun en w2 => (∃ y, en = .returned y ∧ R w2 y) ∧ Keeps (fun _ => False) w' w2) ∧
 (∀ w' y, Keeps (fun _ => False) w w' → R w' y → Calls Tryz.prog 19 #[y, ev, .int .i8 k, .int .i64 form] w' fun en w2 => en = .returned (.tuple #[.string T, .nilIface]) ∧ Keeps (fun _ => False) w' w2) ∧
 (∀ w' w2 y, Keeps (fun _ => False) w' w2 → R w' y → R w2 y)
set_option maxRecDepth 1000000 in
set_option maxHeartbeats 8000000 in
theorem defMarshal_nil (k form i n u f : Int) (b : Bool) (s e T : ByteArray) (nv uv : Value) (names : List ByteArray) (numbers : List Int) (R : World → Value → Prop)
 (hn : IntKind.i32.wrap i = n) (hk : IntKind.i8.wrap k = k) (hl : names.length = numbers.length) (hb : names.length ≤ 100000000) (hx : evF (fun e => e.num == n) (evs names numbers) = .nilIface) (w : World) (h1 : StrRows w nv names) (h2 : I32Rows w uv numbers)
 (hg : GM k form (.agg #[.int .i64 k, .bool b, .int .i64 i, .int .u64 u, .int .u64 f, .string s, .string e]) (.iface 67 (.agg #[.string ⟨#[]⟩, .int .i32 0])) R T w) :
 Calls Tryz.prog 7 #[.agg #[.int .i64 k, .bool b, .int .i64 i, .int .u64 u, .int .u64 f, .string s, .string e], .int .i64 form, nv, uv] w fun en w' => en = .returned (.tuple #[.string T, .bool true]) ∧ Keeps (fun _ => False) w w' := by
 have HE := Lib.hid (fun w' (hk' : Keeps (fun _ => False) (w.alloc (.cells #[.int .i64 k, .bool b, .int .i64 i, .int .u64 u, .int .u64 f, .string s, .string e] 42)) w') => enum_any nv uv names numbers hl hb w' (h1.keeps (Keeps.trans ((Keeps.refl (fun _ => False) w).alloc _) hk' (fun _ _ h => h))) (h2.keeps (Keeps.trans ((Keeps.refl (fun _ => False) w).alloc _) hk' (fun _ _ h => h))))
 have hlen : (evs names numbers).length ≤ 100000000 := by unfold evs; rw [List.length_zipWith]; omega
 have HL := Lib.hid hlen
 have HX := Lib.hid hx
 have HG := Lib.hid hg
 have HW := Lib.hid (heap_alloc_new w (.cells #[.int .i64 k, .bool b, .int .i64 i, .int .u64 u, .int .u64 f, .string s, .string e] 42))
 clear hl hb hx hlen h1 h2 hg
 go_enter Tryz.func7, Tryz.ntmps7
 go_upto_region 1 with (go_in)
 have HC := Lib.hid (fun w' (hk' : Keeps (fun _ => False) (w.alloc (.cells #[.int .i64 k, .bool b, .int .i64 i, .int .u64 u, .int .u64 f, .string s, .string e] 42)) w') => (hk'.cell (show (w.alloc (.cells #[.int .i64 k, .bool b, .int .i64 i, .int .u64 u, .int .u64 f, .string s, .string e] 42)).cell? ⟨w.heap.size, 2, none⟩ = some (.int .i64 i) from cell_row HW.out) id))
 go_region_held3 (fun w' => w'.cell? ⟨w.heap.size, 2, none⟩ = some (.int .i64 i)) (exact HC.out _ (by repeat (first | exact Keeps.refl _ _ | assumption | (exact Keeps.of_drew (by assumption)) | apply Keeps.alloc | apply Keeps.drew))) (first
  | (go_at_call 17; (refine (HE.out _ (by repeat (first | exact Keeps.refl _ _ | assumption | (exact Keeps.of_drew (by assumption)) | apply Keeps.alloc | apply Keeps.drew))).mono ?_); rintro en w1 ⟨⟨V, rfl, hv⟩, k1⟩; have HV := Lib.hid hv; have hk1 : Keeps (fun _ => False) (w.alloc (.cells #[.int .i64 k, .bool b, .int .i64 i, .int .u64 u, .int .u64 f, .string s, .string e] 42)) w1 := Keeps.trans (by repeat (first | exact Keeps.refl _ _ | assumption | (exact Keeps.of_drew (by assumption)) | apply Keeps.alloc | apply Keeps.drew)) k1 (fun _ _ h => h); clear hv k1)
  | (go_at_call 18; (refine (byNumber_hit V _ n _ HL.out _ (HV.out.keeps (by repeat (first | exact Keeps.refl _ _ | assumption | (exact Keeps.of_drew (by assumption)) | apply Keeps.alloc | apply Keeps.drew))) HX.out).mono ?_); rintro en w2 ⟨rfl, k2⟩; have hk2 : Keeps (fun _ => False) (w.alloc (.cells #[.int .i64 k, .bool b, .int .i64 i, .int .u64 u, .int .u64 f, .string s, .string e] 42)) w2 := Keeps.trans (by repeat (first | exact Keeps.refl _ _ | assumption | (exact Keeps.of_drew (by assumption)) | apply Keeps.alloc | apply Keeps.drew)) k2 (fun _ _ h => h); clear k2))
 have HKW := Lib.hid (Keeps.trans ((Keeps.refl (fun _ => False) w).alloc _) hk2 (fun _ _ h => h))
 have HC7 := Lib.hid (fun w' (hk' : Keeps (fun _ => False) w2 w') => show w'.cell? ⟨w.heap.size, 0, none⟩ = some (.int .i64 k) ∧ w'.cell? ⟨w.heap.size, 1, none⟩ = some (.bool b) ∧ w'.cell? ⟨w.heap.size, 2, none⟩ = some (.int .i64 i) ∧ w'.cell? ⟨w.heap.size, 3, none⟩ = some (.int .u64 u) ∧ w'.cell? ⟨w.heap.size, 4, none⟩ = some (.int .u64 f) ∧ w'.cell? ⟨w.heap.size, 5, none⟩ = some (.string s) ∧ w'.cell? ⟨w.heap.size, 6, none⟩ = some (.string e) from ⟨(hk2.trans hk' (fun _ _ h => h)).cell (show (w.alloc (.cells #[.int .i64 k, .bool b, .int .i64 i, .int .u64 u, .int .u64 f, .string s, .string e] 42)).cell? ⟨w.heap.size, 0, none⟩ = some (.int .i64 k) from cell_row HW.out) id, (hk2.trans hk' (fun _ _ h => h)).cell (show (w.alloc (.cells #[.int .i64 k, .bool b, .int .i64 i, .int .u64 u, .int .u64 f, .string s, .string e] 42)).cell? ⟨w.heap.size, 1, none⟩ = some (.bool b) from cell_row HW.out) id, (hk2.trans hk' (fun _ _ h => h)).cell (show (w.alloc (.cells #[.int .i64 k, .bool b, .int .i64 i, .int .u64 u, .int .u64 f, .string s, .string e] 42)).cell? ⟨w.heap.size, 2, none⟩ = some (.int .i64 i) from cell_row HW.out) id, (hk2.trans hk' (fun _ _ h => h)).cell (show (w.alloc (.cells #[.int .i64 k, .bool b, .int .i64 i, .int .u64 u, .int .u64 f, .string s, .string e] 42)).cell? ⟨w.heap.size, 3, none⟩ = some (.int .u64 u) from cell_row HW.out) id, (hk2.trans hk' (fun _ _ h => h)).cell (show (w.alloc (.cells #[.int .i64 k, .bool b, .int .i64 i, .int .u64 u, .int .u64 f, .string s, .string e] 42)).cell? ⟨w.heap.size, 4, none⟩ = some (.int .u64 f) from cell_row HW.out) id, (hk2.trans hk' (fun _ _ h => h)).cell (show (w.alloc (.cells #[.int .i64 k, .bool b, .int .i64 i, .int .u64 u, .int .u64 f, .string s, .string e] 42)).cell? ⟨w.heap.size, 5, none⟩ = some (.string s) from cell_row HW.out) id, (hk2.trans hk' (fun _ _ h => h)).cell (show (w.alloc (.cells #[.int .i64 k, .bool b, .int .i64 i, .int .u64 u, .int .u64 f, .string s, .string e] 42)).cell? ⟨w.heap.size, 6, none⟩ = some (.string e) from cell_row HW.out) id⟩)
 clear hk1 hk2
 go_upto_region 4 with (go_in)
 go_region_held3 (fun w' => w'.cell? ⟨w.heap.size, 0, none⟩ = some (.int .i64 k) ∧ w'.cell? ⟨w.heap.size, 1, none⟩ = some (.bool b) ∧ w'.cell? ⟨w.heap.size, 2, none⟩ = some (.int .i64 i) ∧ w'.cell? ⟨w.heap.size, 3, none⟩ = some (.int .u64 u) ∧ w'.cell? ⟨w.heap.size, 4, none⟩ = some (.int .u64 f) ∧ w'.cell? ⟨w.heap.size, 5, none⟩ = some (.string s) ∧ w'.cell? ⟨w.heap.size, 6, none⟩ = some (.string e)) (exact HC7.out _ (by repeat (first | exact Keeps.refl _ _ | assumption | (exact Keeps.of_drew (by assumption)) | apply Keeps.alloc | apply Keeps.drew))) (first
  | (go_at_call 20; (refine (HG.out.1 _ (HKW.out.trans (by repeat (first | exact Keeps.refl _ _ | assumption | (exact Keeps.of_drew (by assumption)) | apply Keeps.alloc | apply Keeps.drew)) (fun _ _ h => h))).mono ?_); rintro en w5 ⟨⟨y, rfl, hy⟩, k5⟩; have HY := Lib.hid hy; have hk5 : Keeps (fun _ => False) w2 w5 := Keeps.trans (by repeat (first | exact Keeps.refl _ _ | assumption | (exact Keeps.of_drew (by assumption)) | apply Keeps.alloc | apply Keeps.drew)) k5 (fun _ _ h => h); clear hy k5)
  | (go_at_call 19; (refine (HG.out.2.1 _ _ (HKW.out.trans (by repeat (first | exact Keeps.refl _ _ | assumption | (exact Keeps.of_drew (by assumption)) | apply Keeps.alloc | apply Keeps.drew)) (fun _ _ h => h)) (HG.out.2.2 _ _ _ (by repeat (first | exact Keeps.refl _ _ | assumption | (exact Keeps.of_drew (by assumption)) | apply Keeps.alloc | apply Keeps.drew)) HY.out)).mono ?_); rintro en w6 ⟨rfl, k6⟩; have hk6 : Keeps (fun _ => False) w2 w6 := Keeps.trans (by repeat (first | exact Keeps.refl _ _ | assumption | (exact Keeps.of_drew (by assumption)) | apply Keeps.alloc | apply Keeps.drew)) k6 (fun _ _ h => h); clear k6))
 all_goals go_wp2_with (fail)
 all_goals go_ret2
 all_goals exact ⟨rfl, HKW.out.trans hk6 (fun _ _ h => h)⟩
set_option maxRecDepth 1000000 in
set_option maxHeartbeats 8000000 in
theorem defMarshal_hit (k form i n u f : Int) (b : Bool) (s e T : ByteArray) (nv uv : Value) (names : List ByteArray) (numbers : List Int) (E : Value) (R : World → Value → Prop)
 (hn : IntKind.i32.wrap i = n) (hk : IntKind.i8.wrap k = k) (hl : names.length = numbers.length) (hb : names.length ≤ 100000000) (hx : evF (fun e => e.num == n) (evs names numbers) = .iface 67 E) (w : World) (h1 : StrRows w nv names) (h2 : I32Rows w uv numbers)
 (hg : GM k form (.agg #[.int .i64 k, .bool b, .int .i64 i, .int .u64 u, .int .u64 f, .string s, .string e]) (.iface 67 E) R T w) :
 Calls Tryz.prog 7 #[.agg #[.int .i64 k, .bool b, .int .i64 i, .int .u64 u, .int .u64 f, .string s, .string e], .int .i64 form, nv, uv] w fun en w' => en = .returned (.tuple #[.string T, .bool true]) ∧ Keeps (fun _ => False) w w' := by
 have HE := Lib.hid (fun w' (hk' : Keeps (fun _ => False) (w.alloc (.cells #[.int .i64 k, .bool b, .int .i64 i, .int .u64 u, .int .u64 f, .string s, .string e] 42)) w') => enum_any nv uv names numbers hl hb w' (h1.keeps (Keeps.trans ((Keeps.refl (fun _ => False) w).alloc _) hk' (fun _ _ h => h))) (h2.keeps (Keeps.trans ((Keeps.refl (fun _ => False) w).alloc _) hk' (fun _ _ h => h))))
 have hlen : (evs names numbers).length ≤ 100000000 := by unfold evs; rw [List.length_zipWith]; omega
 have HL := Lib.hid hlen
 have HX := Lib.hid hx
 have HG := Lib.hid hg
 have HW := Lib.hid (heap_alloc_new w (.cells #[.int .i64 k, .bool b, .int .i64 i, .int .u64 u, .int .u64 f, .string s, .string e] 42))
 clear hl hb hx hlen h1 h2 hg
 go_enter Tryz.func7, Tryz.ntmps7
 go_upto_region 1 with (go_in)
 have HC := Lib.hid (fun w' (hk' : Keeps (fun _ => False) (w.alloc (.cells #[.int .i64 k, .bool b, .int .i64 i, .int .u64 u, .int .u64 f, .string s, .string e] 42)) w') => (hk'.cell (show (w.alloc (.cells #[.int .i64 k, .bool b, .int .i64 i, .int .u64 u, .int .u64 f, .string s, .string e] 42)).cell? ⟨w.heap.size, 2, none⟩ = some (.int .i64 i) from cell_row HW.out) id))
 go_region_held3 (fun w' => w'.cell? ⟨w.heap.size, 2, none⟩ = some (.int .i64 i)) (exact HC.out _ (by repeat (first | exact Keeps.refl _ _ | assumption | (exact Keeps.of_drew (by assumption)) | apply Keeps.alloc | apply Keeps.drew))) (first
  | (go_at_call 17; (refine (HE.out _ (by repeat (first | exact Keeps.refl _ _ | assumption | (exact Keeps.of_drew (by assumption)) | apply Keeps.alloc | apply Keeps.drew))).mono ?_); rintro en w1 ⟨⟨V, rfl, hv⟩, k1⟩; have HV := Lib.hid hv; have hk1 : Keeps (fun _ => False) (w.alloc (.cells #[.int .i64 k, .bool b, .int .i64 i, .int .u64 u, .int .u64 f, .string s, .string e] 42)) w1 := Keeps.trans (by repeat (first | exact Keeps.refl _ _ | assumption | (exact Keeps.of_drew (by assumption)) | apply Keeps.alloc | apply Keeps.drew)) k1 (fun _ _ h => h); clear hv k1)
  | (go_at_call 18; (refine (byNumber_hit V _ n _ HL.out _ (HV.out.keeps (by repeat (first | exact Keeps.refl _ _ | assumption | (exact Keeps.of_drew (by assumption)) | apply Keeps.alloc | apply Keeps.drew))) HX.out).mono ?_); rintro en w2 ⟨rfl, k2⟩; have hk2 : Keeps (fun _ => False) (w.alloc (.cells #[.int .i64 k, .bool b, .int .i64 i, .int .u64 u, .int .u64 f, .string s, .string e] 42)) w2 := Keeps.trans (by repeat (first | exact Keeps.refl _ _ | assumption | (exact Keeps.of_drew (by assumption)) | apply Keeps.alloc | apply Keeps.drew)) k2 (fun _ _ h => h); clear k2))
 have HKW := Lib.hid (Keeps.trans ((Keeps.refl (fun _ => False) w).alloc _) hk2 (fun _ _ h => h))
 have HC7 := Lib.hid (fun w' (hk' : Keeps (fun _ => False) w2 w') => show w'.cell? ⟨w.heap.size, 0, none⟩ = some (.int .i64 k) ∧ w'.cell? ⟨w.heap.size, 1, none⟩ = some (.bool b) ∧ w'.cell? ⟨w.heap.size, 2, none⟩ = some (.int .i64 i) ∧ w'.cell? ⟨w.heap.size, 3, none⟩ = some (.int .u64 u) ∧ w'.cell? ⟨w.heap.size, 4, none⟩ = some (.int .u64 f) ∧ w'.cell? ⟨w.heap.size, 5, none⟩ = some (.string s) ∧ w'.cell? ⟨w.heap.size, 6, none⟩ = some (.string e) from ⟨(hk2.trans hk' (fun _ _ h => h)).cell (show (w.alloc (.cells #[.int .i64 k, .bool b, .int .i64 i, .int .u64 u, .int .u64 f, .string s, .string e] 42)).cell? ⟨w.heap.size, 0, none⟩ = some (.int .i64 k) from cell_row HW.out) id, (hk2.trans hk' (fun _ _ h => h)).cell (show (w.alloc (.cells #[.int .i64 k, .bool b, .int .i64 i, .int .u64 u, .int .u64 f, .string s, .string e] 42)).cell? ⟨w.heap.size, 1, none⟩ = some (.bool b) from cell_row HW.out) id, (hk2.trans hk' (fun _ _ h => h)).cell (show (w.alloc (.cells #[.int .i64 k, .bool b, .int .i64 i, .int .u64 u, .int .u64 f, .string s, .string e] 42)).cell? ⟨w.heap.size, 2, none⟩ = some (.int .i64 i) from cell_row HW.out) id, (hk2.trans hk' (fun _ _ h => h)).cell (show (w.alloc (.cells #[.int .i64 k, .bool b, .int .i64 i, .int .u64 u, .int .u64 f, .string s, .string e] 42)).cell? ⟨w.heap.size, 3, none⟩ = some (.int .u64 u) from cell_row HW.out) id, (hk2.trans hk' (fun _ _ h => h)).cell (show (w.alloc (.cells #[.int .i64 k, .bool b, .int .i64 i, .int .u64 u, .int .u64 f, .string s, .string e] 42)).cell? ⟨w.heap.size, 4, none⟩ = some (.int .u64 f) from cell_row HW.out) id, (hk2.trans hk' (fun _ _ h => h)).cell (show (w.alloc (.cells #[.int .i64 k, .bool b, .int .i64 i, .int .u64 u, .int .u64 f, .string s, .string e] 42)).cell? ⟨w.heap.size, 5, none⟩ = some (.string s) from cell_row HW.out) id, (hk2.trans hk' (fun _ _ h => h)).cell (show (w.alloc (.cells #[.int .i64 k, .bool b, .int .i64 i, .int .u64 u, .int .u64 f, .string s, .string e] 42)).cell? ⟨w.heap.size, 6, none⟩ = some (.string e) from cell_row HW.out) id⟩)
 clear hk1 hk2
 go_upto_region 4 with (go_in)
 go_region_held3 (fun w' => w'.cell? ⟨w.heap.size, 0, none⟩ = some (.int .i64 k) ∧ w'.cell? ⟨w.heap.size, 1, none⟩ = some (.bool b) ∧ w'.cell? ⟨w.heap.size, 2, none⟩ = some (.int .i64 i) ∧ w'.cell? ⟨w.heap.size, 3, none⟩ = some (.int .u64 u) ∧ w'.cell? ⟨w.heap.size, 4, none⟩ = some (.int .u64 f) ∧ w'.cell? ⟨w.heap.size, 5, none⟩ = some (.string s) ∧ w'.cell? ⟨w.heap.size, 6, none⟩ = some (.string e)) (exact HC7.out _ (by repeat (first | exact Keeps.refl _ _ | assumption | (exact Keeps.of_drew (by assumption)) | apply Keeps.alloc | apply Keeps.drew))) (first
  | (go_at_call 20; (refine (HG.out.1 _ (HKW.out.trans (by repeat (first | exact Keeps.refl _ _ | assumption | (exact Keeps.of_drew (by assumption)) | apply Keeps.alloc | apply Keeps.drew)) (fun _ _ h => h))).mono ?_); rintro en w5 ⟨⟨y, rfl, hy⟩, k5⟩; have HY := Lib.hid hy; have hk5 : Keeps (fun _ => False) w2 w5 := Keeps.trans (by repeat (first | exact Keeps.refl _ _ | assumption | (exact Keeps.of_drew (by assumption)) | apply Keeps.alloc | apply Keeps.drew)) k5 (fun _ _ h => h); clear hy k5)
  | (go_at_call 19; (refine (HG.out.2.1 _ _ (HKW.out.trans (by repeat (first | exact Keeps.refl _ _ | assumption | (exact Keeps.of_drew (by assumption)) | apply Keeps.alloc | apply Keeps.drew)) (fun _ _ h => h)) (HG.out.2.2 _ _ _ (by repeat (first | exact Keeps.refl _ _ | assumption | (exact Keeps.of_drew (by assumption)) | apply Keeps.alloc | apply Keeps.drew)) HY.out)).mono ?_); rintro en w6 ⟨rfl, k6⟩; have hk6 : Keeps (fun _ => False) w2 w6 := Keeps.trans (by repeat (first | exact Keeps.refl _ _ | assumption | (exact Keeps.of_drew (by assumption)) | apply Keeps.alloc | apply Keeps.drew)) k6 (fun _ _ h => h); clear k6))
 all_goals go_wp2_with (fail)
 all_goals go_ret2
 all_goals exact ⟨rfl, HKW.out.trans hk6 (fun _ _ h => h)⟩
end Go.Proofs.YtonegoemmologaaGreatDoor
namespace Go.Proofs.YtonegoemmologaaGreatDoor
open Go.RowKit
def UP (k form : Int) (T : ByteArray) (L : List EV) (ev : Value) (b : Bool) (i u : Int) (s : ByteArray) (R : World → Int → Int → ByteArray → Option Addr → Nat → Nat → Prop) (RF : Int → Prop) (w : World) : Prop :=
 (∀ w' V, Keeps (fun _ => False) w w' → EVsAt w' V L → Calls Tryz.prog 21 #[.string T, .int .i8 k, .iface 61 V, .int .i64 form] w' fun en w2 => (∃ t nn ss ba bn bc, en = .returned (.tuple #[.agg #[.int .i64 t, .int .u64 nn, .string ss, .slice ba bn bc], ev, .nilIface]) ∧ R w2 t nn ss ba bn bc) ∧ Keeps (fun _ => False) w' w2) ∧
 (∀ w' t nn ss ba bn bc, Keeps (fun _ => False) w w' → R w' t nn ss ba bn bc → Calls Tryz.prog 22 #[.agg #[.int .i64 t, .int .u64 nn, .string ss, .slice ba bn bc], .int .i64 k] w' fun en w2 => (∃ f : Int, en = .returned (.agg #[.int .i64 k, .bool b, .int .i64 i, .int .u64 u, .int .u64 f, .string s, .string ⟨#[]⟩]) ∧ RF f) ∧ Keeps (fun _ => False) w' w2) ∧
 (∀ w' w2 t nn ss ba bn bc, Keeps (fun _ => False) w' w2 → R w' t nn ss ba bn bc → R w2 t nn ss ba bn bc)
theorem results_cell_1u {fn : Func} {p q : Tmp} {ty : TypeId} (h : fn.results = #[.cell p ty, .tmp q]) (tmps : Array Value) (w : World) (g : Nat) (hp : tmps.getD p undef = .pointer (some ⟨g, 0, none⟩)) {v : Value}
 (hv : (loadVar ty ⟨g, 0, none⟩).run Tryz.prog w = .ok v w) : (results fn tmps).run Tryz.prog w = .ok (.tuple #[v, tmps.getD q undef]) w := by
 have hp' : tmps[p]?.getD undef = .pointer (some ⟨g, 0, none⟩) := by simpa using hp
 simp [results, h, hp', asAddr, hv]
theorem row7 {w : World} {K : Nat} {cur : Array Value} {T : TypeId} (hr : w.heap[K]? = some (.cells cur T (0, 0))) (hc : cur.size = 7) (a b c d e f g : Value) : (((((((w.setCell ⟨K, 0, none⟩ a).setCell ⟨K, 1, none⟩ b).setCell ⟨K, 2, none⟩ c).setCell ⟨K, 3, none⟩ d).setCell ⟨K, 4, none⟩ e).setCell ⟨K, 5, none⟩ f).setCell ⟨K, 6, none⟩ g).heap[K]? = some (.cells #[a, b, c, d, e, f, g] T (0, 0)) := by
 rw [setCell_row (setCell_row (setCell_row (setCell_row (setCell_row (setCell_row (setCell_row hr _) _) _) _) _) _) _]
 obtain ⟨l⟩ := cur
 match l, hc with
 | [_, _, _, _, _, _, _], _ => rfl
theorem keeps7 (w : World) (K : Nat) (a b c d e f g : Value) : Keeps (fun k => k = K) w (((((((w.setCell ⟨K, 0, none⟩ a).setCell ⟨K, 1, none⟩ b).setCell ⟨K, 2, none⟩ c).setCell ⟨K, 3, none⟩ d).setCell ⟨K, 4, none⟩ e).setCell ⟨K, 5, none⟩ f).setCell ⟨K, 6, none⟩ g) :=
 ((((((((Keeps.refl (fun k => k = K) w).setCell ⟨K, 0, none⟩ (fun _ => rfl) _).setCell ⟨K, 1, none⟩ (fun _ => rfl) _).setCell ⟨K, 2, none⟩ (fun _ => rfl) _).setCell ⟨K, 3, none⟩ (fun _ => rfl) _).setCell ⟨K, 4, none⟩ (fun _ => rfl) _).setCell ⟨K, 5, none⟩ (fun _ => rfl) _).setCell ⟨K, 6, none⟩ (fun _ => rfl) _)
set_option maxRecDepth 1000000 in
set_option maxHeartbeats 8000000 in
theorem defUnmarshal_nil (k form i u : Int) (b : Bool) (s T : ByteArray) (nv uv : Value) (names : List ByteArray) (numbers : List Int) (R : World → Int → Int → ByteArray → Option Addr → Nat → Nat → Prop) (RF : Int → Prop)
 (hk : IntKind.i8.wrap k = k) (hl : names.length = numbers.length) (hb : names.length ≤ 100000000) (w : World) (h1 : StrRows w nv names) (h2 : I32Rows w uv numbers)
 (hg : UP k form T (evs names numbers) (.nilIface) b i u s R RF w) :
 Calls Tryz.prog 8 #[.string T, .int .i64 k, .int .i64 form, nv, uv] w fun en w' => (∃ f : Int, en = .returned (.tuple #[.agg #[.int .i64 k, .bool b, .int .i64 i, .int .u64 u, .int .u64 f, .string s, .string ⟨#[]⟩], .bool true]) ∧ RF f) ∧ Keeps (fun _ => False) w w' := by
 have HE := Lib.hid (fun w' (hk' : Keeps (fun _ => False) (w.alloc (.cells #[.int .i64 0, .bool false, .int .i64 0, .int .u64 0, .int .u64 0, .string ⟨#[]⟩, .string ⟨#[]⟩] 42)) w') => enum_any nv uv names numbers hl hb w' (h1.keeps (Keeps.trans ((Keeps.refl (fun _ => False) w).alloc _) hk' (fun _ _ h => h))) (h2.keeps (Keeps.trans ((Keeps.refl (fun _ => False) w).alloc _) hk' (fun _ _ h => h))))
 have HG := Lib.hid hg
 have HA := Lib.hid ((Keeps.refl (fun _ => False) w).alloc (.cells #[.int .i64 0, .bool false, .int .i64 0, .int .u64 0, .int .u64 0, .string ⟨#[]⟩, .string ⟨#[]⟩] 42))
 have HW := Lib.hid (heap_alloc_new w (.cells #[.int .i64 0, .bool false, .int .i64 0, .int .u64 0, .int .u64 0, .string ⟨#[]⟩, .string ⟨#[]⟩] 42))
 clear hl hb h1 h2 hg
 go_enter Tryz.func8, Tryz.ntmps8
 go_upto_region 7 with (first
  | (go_at_call 17; (refine (HE.out _ (by repeat (first | exact Keeps.refl _ _ | assumption | apply Keeps.alloc | apply Keeps.drewN | apply Keeps.drew))).mono ?_); rintro en w1 ⟨⟨V, rfl, hv⟩, k1⟩; have HV := Lib.hid hv; have hk1 : Keeps (fun _ => False) (w.alloc (.cells #[.int .i64 0, .bool false, .int .i64 0, .int .u64 0, .int .u64 0, .string ⟨#[]⟩, .string ⟨#[]⟩] 42)) w1 := Keeps.trans (by repeat (first | exact Keeps.refl _ _ | assumption | apply Keeps.alloc | apply Keeps.drewN | apply Keeps.drew)) k1 (fun _ _ h => h); clear hv k1)
  | (go_at_call 21; (refine (HG.out.1 _ V (HA.out.trans (by repeat (first | exact Keeps.refl _ _ | assumption | apply Keeps.alloc | apply Keeps.drewN | apply Keeps.drew)) (fun _ _ h => h)) HV.out).mono ?_); rintro en w2 ⟨⟨t, nn, ss, ba, bn, bc, rfl, hr⟩, k2⟩; have HRR := Lib.hid hr; have hk2 : Keeps (fun _ => False) (w.alloc (.cells #[.int .i64 0, .bool false, .int .i64 0, .int .u64 0, .int .u64 0, .string ⟨#[]⟩, .string ⟨#[]⟩] 42)) w2 := Keeps.trans hk1 k2 (fun _ _ h => h); clear hr k2 hk1)
  | (go_at_call 22; (refine (HG.out.2.1 _ t nn ss ba bn bc (HA.out.trans (by repeat (first | exact Keeps.refl _ _ | assumption | apply Keeps.alloc | apply Keeps.drewN | apply Keeps.drew)) (fun _ _ h => h)) (HG.out.2.2 w2 _ _ _ _ _ _ _ (by repeat (first | exact Keeps.refl _ _ | apply Keeps.alloc)) HRR.out)).mono ?_); rintro en w9 ⟨⟨f, rfl, hf⟩, k9⟩; have HF := Lib.hid hf; have hk9 : Keeps (fun _ => False) (w.alloc (.cells #[.int .i64 0, .bool false, .int .i64 0, .int .u64 0, .int .u64 0, .string ⟨#[]⟩, .string ⟨#[]⟩] 42)) w9 := Keeps.trans (by repeat (first | exact Keeps.refl _ _ | assumption | apply Keeps.alloc | apply Keeps.drewN | apply Keeps.drew)) k9 (fun _ _ h => h); clear hf k9 hk2; have HR9 := Lib.hid (hk9.row HW.out id); have HK9 := Lib.hid (HA.out.trans hk9 (fun _ _ h => h)); clear hk9)
  | (go_at_call 204; go_in))
 obtain ⟨W, hW⟩ : ∃ W, (w9.alloc (.cells #[.int .i64 k, .bool b, .int .i64 i, .int .u64 u, .int .u64 f, .string s, .string ⟨#[]⟩] 42)) = W := ⟨_, rfl⟩
 have hkW : Keeps (fun _ => False) w9 W := by rw [← hW]; exact (by repeat (first | exact Keeps.refl _ _ | assumption | apply Keeps.alloc | apply Keeps.drewN | apply Keeps.drew))
 have hr := hkW.row HR9.out id
 have hq : W.heap[w9.heap.size]? = some (.cells #[.int .i64 k, .bool b, .int .i64 i, .int .u64 u, .int .u64 f, .string s, .string ⟨#[]⟩] 42 (0, 0)) := by rw [← hW]; exact heap_alloc_new w9 _
 have HKW := Lib.hid (HK9.out.trans hkW (fun _ _ h => h))
 rw [hW]
 clear hW hkW
 revert hr hq
 generalize hgK : w.heap.size = K
 generalize hgQ : w9.heap.size = Q
 intro hr hq
 have f9 := fun j => frozen_row (j := j) hr
 have x0 := cell_row (j := 0) hr
 have x1 := cell_row (j := 1) hr
 have x2 := cell_row (j := 2) hr
 have x3 := cell_row (j := 3) hr
 have x4 := cell_row (j := 4) hr
 have x5 := cell_row (j := 5) hr
 have x6 := cell_row (j := 6) hr
 have y0 := cell_row (j := 0) hq
 have y1 := cell_row (j := 1) hq
 have y2 := cell_row (j := 2) hq
 have y3 := cell_row (j := 3) hq
 have y4 := cell_row (j := 4) hq
 have y5 := cell_row (j := 5) hq
 have y6 := cell_row (j := 6) hq
 simp at x0 y0 x1 y1 x2 y2 x3 y3 x4 y4 x5 y5 x6 y6
 have HR := Lib.hid hr
 clear hr hq
 go_wp2_with (fail)
 (try simp only [Exit.inBlock, Exit.then])
 refine bodyPost_ret (results_cell_1u rfl _ _ K rfl (run_loadVar_row _ _ _ _ _ (0, 0) _ (row7 HR.out rfl _ _ _ _ _ _ _) Tryz.underlying42 rfl (by kernel_rfl))) rfl ?_
 exact ⟨⟨f, rfl, HF.out⟩, HKW.out.trans (keeps7 _ _ _ _ _ _ _ _ _) (fun i hi e => by have := hgK; omega)⟩
set_option maxRecDepth 1000000 in
set_option maxHeartbeats 8000000 in
theorem defUnmarshal_hit (k form i u : Int) (b : Bool) (s T : ByteArray) (nv uv : Value) (names : List ByteArray) (numbers : List Int) (nm : ByteArray) (num : Int) (R : World → Int → Int → ByteArray → Option Addr → Nat → Nat → Prop) (RF : Int → Prop)
 (hk : IntKind.i8.wrap k = k) (hl : names.length = numbers.length) (hb : names.length ≤ 100000000) (w : World) (h1 : StrRows w nv names) (h2 : I32Rows w uv numbers)
 (hg : UP k form T (evs names numbers) (.iface 67 (.agg #[.string nm, .int .i32 num])) b i u s R RF w) :
 Calls Tryz.prog 8 #[.string T, .int .i64 k, .int .i64 form, nv, uv] w fun en w' => (∃ f : Int, en = .returned (.tuple #[.agg #[.int .i64 k, .bool b, .int .i64 i, .int .u64 u, .int .u64 f, .string s, .string nm], .bool true]) ∧ RF f) ∧ Keeps (fun _ => False) w w' := by
 have HE := Lib.hid (fun w' (hk' : Keeps (fun _ => False) (w.alloc (.cells #[.int .i64 0, .bool false, .int .i64 0, .int .u64 0, .int .u64 0, .string ⟨#[]⟩, .string ⟨#[]⟩] 42)) w') => enum_any nv uv names numbers hl hb w' (h1.keeps (Keeps.trans ((Keeps.refl (fun _ => False) w).alloc _) hk' (fun _ _ h => h))) (h2.keeps (Keeps.trans ((Keeps.refl (fun _ => False) w).alloc _) hk' (fun _ _ h => h))))
 have HG := Lib.hid hg
 have HA := Lib.hid ((Keeps.refl (fun _ => False) w).alloc (.cells #[.int .i64 0, .bool false, .int .i64 0, .int .u64 0, .int .u64 0, .string ⟨#[]⟩, .string ⟨#[]⟩] 42))
 have HW := Lib.hid (heap_alloc_new w (.cells #[.int .i64 0, .bool false, .int .i64 0, .int .u64 0, .int .u64 0, .string ⟨#[]⟩, .string ⟨#[]⟩] 42))
 clear hl hb h1 h2 hg
 go_enter Tryz.func8, Tryz.ntmps8
 go_upto_region 7 with (first
  | (go_at_call 17; (refine (HE.out _ (by repeat (first | exact Keeps.refl _ _ | assumption | apply Keeps.alloc | apply Keeps.drewN | apply Keeps.drew))).mono ?_); rintro en w1 ⟨⟨V, rfl, hv⟩, k1⟩; have HV := Lib.hid hv; have hk1 : Keeps (fun _ => False) (w.alloc (.cells #[.int .i64 0, .bool false, .int .i64 0, .int .u64 0, .int .u64 0, .string ⟨#[]⟩, .string ⟨#[]⟩] 42)) w1 := Keeps.trans (by repeat (first | exact Keeps.refl _ _ | assumption | apply Keeps.alloc | apply Keeps.drewN | apply Keeps.drew)) k1 (fun _ _ h => h); clear hv k1)
  | (go_at_call 21; (refine (HG.out.1 _ V (HA.out.trans (by repeat (first | exact Keeps.refl _ _ | assumption | apply Keeps.alloc | apply Keeps.drewN | apply Keeps.drew)) (fun _ _ h => h)) HV.out).mono ?_); rintro en w2 ⟨⟨t, nn, ss, ba, bn, bc, rfl, hr⟩, k2⟩; have HRR := Lib.hid hr; have hk2 : Keeps (fun _ => False) (w.alloc (.cells #[.int .i64 0, .bool false, .int .i64 0, .int .u64 0, .int .u64 0, .string ⟨#[]⟩, .string ⟨#[]⟩] 42)) w2 := Keeps.trans hk1 k2 (fun _ _ h => h); clear hr k2 hk1)
  | (go_at_call 22; (refine (HG.out.2.1 _ t nn ss ba bn bc (HA.out.trans (by repeat (first | exact Keeps.refl _ _ | assumption | apply Keeps.alloc | apply Keeps.drewN | apply Keeps.drew)) (fun _ _ h => h)) (HG.out.2.2 w2 _ _ _ _ _ _ _ (by repeat (first | exact Keeps.refl _ _ | apply Keeps.alloc)) HRR.out)).mono ?_); rintro en w9 ⟨⟨f, rfl, hf⟩, k9⟩; have HF := Lib.hid hf; have hk9 : Keeps (fun _ => False) (w.alloc (.cells #[.int .i64 0, .bool false, .int .i64 0, .int .u64 0, .int .u64 0, .string ⟨#[]⟩, .string ⟨#[]⟩] 42)) w9 := Keeps.trans (by repeat (first | exact Keeps.refl _ _ | assumption | apply Keeps.alloc | apply Keeps.drewN | apply Keeps.drew)) k9 (fun _ _ h => h); clear hf k9 hk2; have HR9 := Lib.hid (hk9.row HW.out id); have HK9 := Lib.hid (HA.out.trans hk9 (fun _ _ h => h)); clear hk9)
  | (go_at_call 204; go_in))
 obtain ⟨W, hW⟩ : ∃ W, ((w9.alloc (.cells #[.int .i64 k, .bool b, .int .i64 i, .int .u64 u, .int .u64 f, .string s, .string nm] 42)).alloc (.cells #[.string nm, .int .i32 num] 67)) = W := ⟨_, rfl⟩
 have hkW : Keeps (fun _ => False) w9 W := by rw [← hW]; exact (by repeat (first | exact Keeps.refl _ _ | assumption | apply Keeps.alloc | apply Keeps.drewN | apply Keeps.drew))
 have hr := hkW.row HR9.out id
 have hq : W.heap[w9.heap.size]? = some (.cells #[.int .i64 k, .bool b, .int .i64 i, .int .u64 u, .int .u64 f, .string s, .string nm] 42 (0, 0)) := by rw [← hW]; exact Keeps.row ((Keeps.refl (fun _ => False) _).alloc _) (heap_alloc_new w9 _) id
 have HKW := Lib.hid (HK9.out.trans hkW (fun _ _ h => h))
 rw [hW]
 clear hW hkW
 revert hr hq
 generalize hgK : w.heap.size = K
 generalize hgQ : w9.heap.size = Q
 intro hr hq
 have f9 := fun j => frozen_row (j := j) hr
 have x0 := cell_row (j := 0) hr
 have x1 := cell_row (j := 1) hr
 have x2 := cell_row (j := 2) hr
 have x3 := cell_row (j := 3) hr
 have x4 := cell_row (j := 4) hr
 have x5 := cell_row (j := 5) hr
 have x6 := cell_row (j := 6) hr
 have y0 := cell_row (j := 0) hq
 have y1 := cell_row (j := 1) hq
 have y2 := cell_row (j := 2) hq
 have y3 := cell_row (j := 3) hq
 have y4 := cell_row (j := 4) hq
 have y5 := cell_row (j := 5) hq
 have y6 := cell_row (j := 6) hq
 simp at x0 y0 x1 y1 x2 y2 x3 y3 x4 y4 x5 y5 x6 y6
 have HR := Lib.hid hr
 clear hr hq
 go_wp2_with (fail)
 (try simp only [Exit.inBlock, Exit.then])
 refine bodyPost_ret (results_cell_1u rfl _ _ K rfl (run_loadVar_row _ _ _ _ _ (0, 0) _ (row7 HR.out rfl _ _ _ _ _ _ _) Tryz.underlying42 rfl (by kernel_rfl))) rfl ?_
 exact ⟨⟨f, rfl, HF.out⟩, HKW.out.trans (keeps7 _ _ _ _ _ _ _ _ _) (fun i hi e => by have := hgK; omega)⟩
end Go.Proofs.YtonegoemmologaaGreatDoor
