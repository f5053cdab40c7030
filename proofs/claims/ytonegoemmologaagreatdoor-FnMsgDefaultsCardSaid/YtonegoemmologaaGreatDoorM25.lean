/-
  Contracts of Go's library at the numbers of this seat: written by the shelf's tool in plain words.
  FormatInt and FormatUint at base 10; FormatFloat at 'g', -1.
  The numerals that Marshal writes, read again.
-/
import Derived.Shelf.Strconv.Itoa4
import Derived.Shelf.LaysM
import Derived.Test.YtonegoemmologaaGreatDoorProg
import Derived.Test.YtonegoemmologaaGreatDoorM24
import Derived.Deep.DeepCutAuto
import Derived.Test.YtonegoemmologaaGreatDoorM14
set_option linter.unusedVariables false
set_option linter.unusedSimpArgs false
namespace Go.Proofs
open Go.Shelf
def Tryz.laysM173_ren : Go.Shelf.Ren := ⟨fun | 173 => 31 | 246 => 68 | 283 => 85 | 284 => 86 | 285 => 87 | 286 => 88 | 129 => 103 | 317 => 102 | 318 => 104 | 319 => 105 | 320 => 106 | 337 => 132 | 338 => 133 | n => n, fun | 2 => 2 | 3 => 3 | 9 => 9 | 4 => 4 | 171 => 149 | 0 => 0 | 53 => 37 | 37 => 72 | 5 => 5 | 173 => 152 | 212 => 168 | 51 => 86 | 20 => 20 | 213 => 169 | 46 => 137 | 232 => 174 | 233 => 253 | n => n, fun | 17 => 1 | 18 => 8 | 19 => 9 | n => n⟩
theorem Tryz.laysM173 : Go.Proofs.LaysM.n173 Tryz.prog Tryz.laysM173_ren := {
 mixed := by kernel_rfl
 f129 := Tryz.func103.trans (congrArg some (by kernel_rfl))
 f173 := Tryz.func31.trans (congrArg some (by kernel_rfl))
 f246 := Tryz.func68.trans (congrArg some (by kernel_rfl))
 f283 := Tryz.func85.trans (congrArg some (by kernel_rfl))
 f284 := Tryz.func86.trans (congrArg some (by kernel_rfl))
 f285 := Tryz.func87.trans (congrArg some (by kernel_rfl))
 f286 := Tryz.func88.trans (congrArg some (by kernel_rfl))
 f317 := Tryz.func102.trans (congrArg some (by kernel_rfl))
 f318 := Tryz.func104.trans (congrArg some (by kernel_rfl))
 f319 := Tryz.func105.trans (congrArg some (by kernel_rfl))
 f320 := Tryz.func106.trans (congrArg some (by kernel_rfl))
 f337 := Tryz.func132.trans (congrArg some (by kernel_rfl))
 f338 := Tryz.func133.trans (congrArg some (by kernel_rfl))
 t0 := Tryz.underlying0
 a0 := Tryz.isAgg0
 z0 := Tryz.sizeOf0
 v0 := Tryz.zeroValue0
 t2 := Tryz.underlying2
 a2 := Tryz.isAgg2
 z2 := Tryz.sizeOf2
 v2 := Tryz.zeroValue2
 t3 := Tryz.underlying3
 a3 := Tryz.isAgg3
 z3 := Tryz.sizeOf3
 v3 := Tryz.zeroValue3
 t4 := Tryz.underlying4
 a4 := Tryz.isAgg4
 z4 := Tryz.sizeOf4
 v4 := Tryz.zeroValue4
 t5 := Tryz.underlying5
 a5 := Tryz.isAgg5
 z5 := Tryz.sizeOf5
 v5 := Tryz.zeroValue5
 t9 := Tryz.underlying9
 a9 := Tryz.isAgg9
 z9 := Tryz.sizeOf9
 v9 := Tryz.zeroValue9
 t20 := Tryz.underlying20
 a20 := Tryz.isAgg20
 z20 := Tryz.sizeOf20
 v20 := Tryz.zeroValue20
 t37 := Tryz.underlying72
 a37 := Tryz.isAgg72
 z37 := Tryz.sizeOf72
 v37 := Tryz.zeroValue72
 t46 := Tryz.underlying137
 a46 := Tryz.isAgg137
 z46 := Tryz.sizeOf137
 v46 := Tryz.zeroValue137
 t51 := Tryz.underlying86
 a51 := Tryz.isAgg86
 z51 := Tryz.sizeOf86
 v51 := Tryz.zeroValue86
 t53 := Tryz.underlying37
 a53 := Tryz.isAgg37
 z53 := Tryz.sizeOf37
 v53 := Tryz.zeroValue37
 t171 := Tryz.underlying149
 a171 := Tryz.isAgg149
 z171 := Tryz.sizeOf149
 v171 := Tryz.zeroValue149
 t173 := Tryz.underlying152
 a173 := Tryz.isAgg152
 z173 := Tryz.sizeOf152
 v173 := Tryz.zeroValue152
 t212 := Tryz.underlying168
 a212 := Tryz.isAgg168
 z212 := Tryz.sizeOf168
 v212 := Tryz.zeroValue168
 t213 := Tryz.underlying169
 a213 := Tryz.isAgg169
 z213 := Tryz.sizeOf169
 t232 := Tryz.underlying174
 a232 := Tryz.isAgg174
 z232 := Tryz.sizeOf174
 v232 := Tryz.zeroValue174
 t233 := Tryz.underlying253
 a233 := Tryz.isAgg253
 z233 := Tryz.sizeOf253
 v233 := Tryz.zeroValue253
 g17 := by kernel_rfl
 g18 := by kernel_rfl
 g19 := by kernel_rfl
 i0 := by kernel_rfl
 i2 := by kernel_rfl
 i3 := by kernel_rfl
 i4 := by kernel_rfl
 i5 := by kernel_rfl
 i9 := by kernel_rfl
 i20 := by kernel_rfl
 i37 := by kernel_rfl
 i46 := by kernel_rfl
 i51 := by kernel_rfl
 i53 := by kernel_rfl
 i171 := by kernel_rfl
 i173 := by kernel_rfl
 i212 := by kernel_rfl
 i232 := by kernel_rfl
 i233 := by kernel_rfl
 m17 := by kernel_rfl
 m18 := by kernel_rfl
 m19 := by kernel_rfl }
end Go.Proofs
namespace Go.Proofs.YtonegoemmologaaGreatDoor
open Go.RowKit
theorem fmt10P_any (N d nd : Nat) (hN : 20 ≤ N) (hd : d < 18446744073709551616) (hn : nd ≤ 20) (hlt : d < 10 ^ nd) (w : World) (B cap : Nat) (hz : ZeroRow w B N) :
 Calls Tryz.prog 87 #[.slice (some ⟨B, 0, none⟩) nd cap, .int .u64 (d : Int)] w fun e w' => e = .returned (.tuple #[]) ∧ Keeps (fun k => k = B) w w' ∧ ∀ j, j < nd → w'.cell? ⟨B, j, none⟩ = some (.int .u8 ((Lib.dg d (nd - 1 - j)).toNat : Int)) := by
 obtain ⟨T, hrow⟩ := hz
 have hsz : (Array.replicate nd (0 : UInt8)).size = nd := Array.size_replicate
 have hH : Go.Sort.Holds encU8 w B 0 (Array.replicate nd 0) := by
  intro j hj
  rw [hsz] at hj
  constructor
  · rw [cell_row hrow]
    simp [encU8, hj, show j < N by omega]
  · exact frozen_row hrow
 have h := Any.internal_strconv_formatBase10 Tryz.lays285 B 0 cap d (Array.replicate nd 0) w hH (by rw [hsz]; exact hlt) hd (by rw [hsz]; omega)
 rw [hsz] at h
 refine h.mono ?_
 rintro e w' ⟨he, n, v', dk, hw, hf⟩
 subst hw
 refine ⟨he, putRow_keeps w B n dk, fun j hj => ?_⟩
 have hc := Go.Sort.cell?_putRow encU8 w B 0 (Array.replicate nd 0) dk hH (by rw [hsz]; exact hf.size) j (by rw [hf.size]; exact hj)
 rw [Nat.zero_add] at hc
 have hc2 : ((Go.Sort.putRow encU8 w B 0 dk).drewN n).cell? ⟨B, j, none⟩ = (Go.Sort.putRow encU8 w B 0 dk).cell? ⟨B, j, none⟩ := rfl
 rw [show (fun b : UInt8 => Value.int .u8 (b.toNat : Int)) = encU8 from rfl, hc2, hc, hf.done j (by omega) hj]
 rfl
theorem Keeps.grown {w w' : World} (h : Keeps (fun _ => False) w w') (os : Array Obj) : Keeps (fun _ => False) w (Go.Sort.grow w' os) :=
 ⟨h.os, h.tape, h.output, Nat.le_trans h.size (by simp [Go.Sort.grow]), fun k hk hn => by
  rw [← h.block k hk hn]
  have : k < w'.heap.size := Nat.lt_of_lt_of_le hk h.size
  simp [Go.Sort.grow, Array.getElem?_append_left this]⟩
theorem formatInt_any (n : Int) (h0 : -9223372036854775808 ≤ n) (h1 : n ≤ 9223372036854775807) (w : World) (hT : Ten w) :
 Calls Tryz.prog 31 #[.int .i64 n, .int .i64 10] w fun e w' => e = .returned (.string (mk (Lib.itoa n))) ∧ Keeps (fun _ => False) w w' := by
 refine (Any.strconv_FormatInt_10 Tryz.laysM173 n h0 h1 w hT).mono ?_
 rintro e w' ⟨rfl, k, os, rfl⟩
 exact ⟨rfl, ((Keeps.refl _ w).drewN k).grown os⟩
theorem digs_str {w3 : World} {K u nd : Nat} {D : List UInt8} (hd : D = (List.range nd).map fun t => Lib.dg u (nd - 1 - t)) (hnd : nd ≤ 20) (h3 : ∀ j, j < nd → w3.cell? ⟨K, j, none⟩ = some (.int .u8 ((Lib.dg u (nd - 1 - j)).toNat : Int))) :
 (convert 72 9 (.slice (some ⟨K, 0, none⟩) nd 24)).run Tryz.prog w3 = .ok (.string (mk D)) w3 := by
 have hl : D.length = nd := by rw [hd]; simp
 refine run_to_str ⟨some ⟨K, 0, none⟩, 24, by rw [hl], by omega, by unfold maxLen; omega, .inr ⟨K, 0, rfl, fun j hj => ?_⟩⟩
 have h := h3 j (by omega)
 rw [Nat.zero_add, h]
 have e : D[j] = Lib.dg u (nd - 1 - j) := by
  have e1 : D[j]? = some (Lib.dg u (nd - 1 - j)) := by rw [hd]; simp [show j < nd by omega]
  rw [List.getElem?_eq_getElem hj] at e1
  exact Option.some.inj e1
 rw [e]
set_option maxRecDepth 1000000 in
set_option maxHeartbeats 4000000 in
theorem formatUint_in (u : Nat) (hu : u < 18446744073709551616) (w : World) (hT : Ten w) :
 Calls Tryz.prog 69 #[.int .u64 (u : Int), .int .i64 10] w fun e w' => e = .returned (.string (mk (Lib.decDigits u))) ∧ Keeps (fun _ => False) w w' := by
 by_cases h100 : u < 100
 · have HS := Lib.hid (Any.internal_strconv_small Tryz.lays283 u h100)
   have h100' : (u : Int) < 100 := by omega
   obtain ⟨s, hs⟩ : ∃ s, mk (Lib.decDigits u) = s := ⟨_, rfl⟩
   have hs2 : (⟨(Lib.decDigits u).toArray⟩ : ByteArray) = s := hs
   rw [hs2] at HS
   rw [hs]
   clear hT hs hs2
   go_enter Tryz.func69, Tryz.ntmps69
   go_wp2_with (go_at_call 85; refine (HS.out _).mono ?_; rintro e w' ⟨rfl, hww⟩; obtain rfl := hww.symm)
   go_ret
   exact ⟨rfl, Keeps.refl _ _⟩
 · have hnum : ∀ w, Ten w → Calls Tryz.prog 86 #[.int .u64 (u : Int)] w fun e w' => e = .returned (.int .i64 (Lib.nDigits u : Int)) ∧ w' = w := fun w hT => Any.internal_strconv_numDigits Tryz.laysM284 u (by omega) hu w hT
   have hde := Lib.decDigits_eq u
   have hnd := Lib.nDigits_le20 u hu
   have hnd2 := Lib.lt_pow_nDigits u
   obtain ⟨nd, hndl⟩ : ∃ nd, Lib.nDigits u = nd := ⟨_, rfl⟩
   rw [hndl] at hnum hnd hnd2 hde
   obtain ⟨D, hD⟩ : ∃ D, Lib.decDigits u = D := ⟨_, rfl⟩
   rw [hD] at hde ⊢
   have HDE := Lib.hid hde
   have HNUM := Lib.hid hnum
   have HFM := Lib.hid (fun (w : World) (B : Nat) (hz : ZeroRow w B 24) => fmt10P_any 24 u nd (by omega) hu hnd hnd2 w B 24 hz)
   have HT := Lib.hid hT
   have h100' : ¬ (u : Int) < 100 := by omega
   have hle : (nd : Int) ≤ 24 := by omega
   clear hnum hT hnd2 hndl hD hde
   go_enter Tryz.func69, Tryz.ntmps69
   go_upto_region 5 with (fail)
   obtain ⟨W1, hW1⟩ : ∃ W, w.alloc (.cells #[.int .u8 0, .int .u8 0, .int .u8 0, .int .u8 0, .int .u8 0, .int .u8 0, .int .u8 0, .int .u8 0, .int .u8 0, .int .u8 0, .int .u8 0, .int .u8 0, .int .u8 0, .int .u8 0, .int .u8 0, .int .u8 0, .int .u8 0, .int .u8 0, .int .u8 0, .int .u8 0, .int .u8 0, .int .u8 0, .int .u8 0, .int .u8 0] 149) = W := ⟨_, rfl⟩
   have hk1 : Keeps (fun _ => False) w W1 := by rw [← hW1]; exact (Keeps.refl _ w).alloc _
   have hz1 : ZeroRow W1 w.heap.size 24 := by rw [← hW1]; exact ⟨_, heap_alloc_new w _⟩
   rw [hW1]
   obtain ⟨K, hK⟩ : ∃ K, w.heap.size = K := ⟨_, rfl⟩
   have hKw : w.heap.size ≤ K := Nat.le_of_eq hK
   rw [hK] at hz1 ⊢
   have HKW := Lib.hid hKw
   have HK1 := Lib.hid hk1
   have HZ1 := Lib.hid hz1
   clear hW1 hk1 hz1 hK hKw
   go_wp2_with (first
    | (go_at_call 86; refine (HNUM.out _ (HT.out.keeps HK1.out id)).mono ?_; rintro e w' ⟨rfl, hww⟩; obtain rfl := hww.symm)
    | (go_at_call 87; refine (HFM.out _ _ HZ1.out).mono ?_; rintro e w3 ⟨rfl, k3, d3⟩; have K3 : Hid (Keeps (fun _ => False) w w3) := HK1.out.trans k3 (fun i hi e => by have := HKW.out; omega); have hrs := digs_str HDE.out hnd d3; clear k3 d3))
   go_ret
   exact ⟨rfl, K3.out⟩
set_option maxRecDepth 1000000 in
set_option maxHeartbeats 4000000 in
theorem formatUint_any (u : Nat) (hu : u < 18446744073709551616) (w : World) (hT : Ten w) :
 Calls Tryz.prog 34 #[.int .u64 (u : Int), .int .i64 10] w fun e w' => e = .returned (.string (mk (Lib.decDigits u))) ∧ Keeps (fun _ => False) w w' := by
 have HH := Lib.hid (formatUint_in u hu w hT)
 clear hT
 go_enter Tryz.func34, Tryz.ntmps34
 go_wp2_with (go_at_call 69; refine HH.out.mono ?_; rintro e w2 ⟨rfl, k2⟩; have K2 := Lib.hid k2; clear k2)
 go_ret
 exact ⟨rfl, K2.out⟩
theorem make24 (w : World) : ∃ W, (Instr.makeSlice 72 (.int .i64 0) (.int .i64 (max 3 24))).run Tryz.prog w = .ok (.slice (some ⟨w.heap.size, 0, none⟩) 0 24) W ∧ Own W (.slice (some ⟨w.heap.size, 0, none⟩) 0 24) [] ∧ Keeps (fun _ => False) w W := by
 have h := info5
 cases hi : Tryz.prog.info? 5 with
 | none => rw [hi] at h; simp at h
 | some i =>
  rw [hi] at h
  simp only [Option.map_some, Option.some.injEq, Prod.mk.injEq] at h
  have hr := run_make (P := Tryz.prog) w 72 5 i (.int .u8 0) Tryz.underlying72 hi h.1 .i64 .i64 0 24 (by omega) (by omega) (by rw [h.2.2]; omega) (by omega)
  refine ⟨_, hr, .inr ⟨w.heap.size, 24, _, rfl, heap_alloc_new w _, by simp, by unfold maxLen; omega, ?_, rfl⟩, (Keeps.refl _ w).alloc _⟩
  rw [size_madeCells, h.2.1]
  rfl
set_option maxRecDepth 1000000 in
set_option maxHeartbeats 4000000 in
theorem formatFloat64_in (PT : Nat → Nat × Nat) (b : Nat) (T : List UInt8) (hT : T.length ≤ 1000) (h : ∀ (w : World) (v : Value) (l : List UInt8), FT2 PT w → Own w v l → l.length ≤ 140737488350000 →
 Calls Tryz.prog 90 #[v, .float .f64 b, .int .u8 103, .int .i64 (-1)] w (OutRes w v (l ++ T))) (w : World) (hF : FT2 PT w) :
 Calls Tryz.prog 71 #[.float .f64 b, .int .u8 103, .int .i64 (-1), .int .i64 64] w fun e w' => e = .returned (.string (mk T)) ∧ Keeps (fun _ => False) w w' := by
 have HH := Lib.hid h
 have HF := Lib.hid hF
 clear h hF
 go_enter Tryz.func71, Tryz.ntmps71
 obtain ⟨W, hmk, ho, hk⟩ := make24 w
 have HO := Lib.hid ho
 have HK := Lib.hid hk
 clear ho hk
 go_wp2_with (go_at_call 90; refine (HH.out _ _ _ (HF.out.keeps HK.out) HO.out (by simp)).mono ?_; rintro e w2 ⟨v2, rfl, o2⟩; have K2 : Hid (Keeps (fun _ => False) w w2) := HK.out.trans o2.keeps (fun i hi h => by have e := (show (Value.slice (some ⟨w.heap.size, 0, none⟩) 0 24).ownBlock = some i from h); simp [Value.ownBlock] at e; omega); have hrs := run_to_str o2.own.bytes; clear o2; simp only [List.nil_append] at hrs)
 go_ret
 exact ⟨rfl, K2.out⟩
set_option maxRecDepth 1000000 in
set_option maxHeartbeats 4000000 in
theorem formatFloat32_in (PT : Nat → Nat × Nat) (b r : Nat) (T : List UInt8) (hT : T.length ≤ 1000) (hcv : ∀ w', (convert 83 85 (.float .f64 b)).run Tryz.prog w' = .ok (.float .f32 r) w') (h : ∀ (w : World) (v : Value) (l : List UInt8), FT2 PT w → Own w v l → l.length ≤ 140737488350000 →
 Calls Tryz.prog 89 #[v, .float .f32 r, .int .u8 103, .int .i64 (-1)] w (OutRes w v (l ++ T))) (w : World) (hF : FT2 PT w) :
 Calls Tryz.prog 71 #[.float .f64 b, .int .u8 103, .int .i64 (-1), .int .i64 32] w fun e w' => e = .returned (.string (mk T)) ∧ Keeps (fun _ => False) w w' := by
 have HH := Lib.hid h
 have HF := Lib.hid hF
 clear h hF
 go_enter Tryz.func71, Tryz.ntmps71
 obtain ⟨W, hmk, ho, hk⟩ := make24 w
 have HO := Lib.hid ho
 have HK := Lib.hid hk
 clear ho hk
 go_wp2_with (go_at_call 89; refine (HH.out _ _ _ (HF.out.keeps HK.out) HO.out (by simp)).mono ?_; rintro e w2 ⟨v2, rfl, o2⟩; have K2 : Hid (Keeps (fun _ => False) w w2) := HK.out.trans o2.keeps (fun i hi h => by have e := (show (Value.slice (some ⟨w.heap.size, 0, none⟩) 0 24).ownBlock = some i from h); simp [Value.ownBlock] at e; omega); have hrs := run_to_str o2.own.bytes; clear o2; simp only [List.nil_append] at hrs)
 go_ret
 exact ⟨rfl, K2.out⟩
set_option maxRecDepth 1000000 in
set_option maxHeartbeats 4000000 in
theorem formatFloat64_ex (PT : Nat → Nat × Nat) (hok : PTOk PT) (b : Nat) (hb : b < 18446744073709551616) (hfin : b % 9223372036854775808 < 9218868437227405312) :
 ∃ T : List UInt8, T.length ≤ 1000 ∧ (∃ n q, Fl.NumText (decide (9223372036854775808 ≤ b)) T n q ∧ NearT 52 1074 (b % 9223372036854775808) (Fl.decN 1074 n q) (Fl.decD q)) ∧
 ∀ w, FT2 PT w → Calls Tryz.prog 39 #[.float .f64 b, .int .u8 103, .int .i64 (-1), .int .i64 64] w fun e w' => e = .returned (.string (mk T)) ∧ Keeps (fun _ => False) w w' := by
 obtain ⟨T, hT, hv, h⟩ := ftoa64_ex PT (fun i hi => (hok i hi).2) b hb
 refine ⟨T, hT, hv hok hfin, fun w hF => ?_⟩
 have HH := Lib.hid (formatFloat64_in PT b T hT h w hF)
 clear h hF hv
 go_enter Tryz.func39, Tryz.ntmps39
 go_wp2_with (go_at_call 71; refine HH.out.mono ?_; rintro e w2 ⟨rfl, k2⟩; have K2 := Lib.hid k2; clear k2)
 go_ret
 exact ⟨rfl, K2.out⟩
set_option maxRecDepth 1000000 in
set_option maxHeartbeats 4000000 in
theorem formatFloat32_ex (PT : Nat → Nat × Nat) (hok : PTOk PT) (b : Nat) (r : Nat) (hcv : ∀ w', (convert 83 85 (.float .f64 b)).run Tryz.prog w' = .ok (.float .f32 r) w') (hb : r < 4294967296) (hfin : r % 2147483648 < 2139095040) :
 ∃ T : List UInt8, T.length ≤ 1000 ∧ (∃ n q, Fl.NumText (decide (2147483648 ≤ r)) T n q ∧ NearT 23 149 (r % 2147483648) (Fl.decN 149 n q) (Fl.decD q)) ∧
 ∀ w, FT2 PT w → Calls Tryz.prog 39 #[.float .f64 b, .int .u8 103, .int .i64 (-1), .int .i64 32] w fun e w' => e = .returned (.string (mk T)) ∧ Keeps (fun _ => False) w w' := by
 obtain ⟨T, hT, hv, h⟩ := ftoa32_ex PT (fun i hi => (hok i hi).2) r hb
 refine ⟨T, hT, hv hok hfin, fun w hF => ?_⟩
 have HH := Lib.hid (formatFloat32_in PT b r T hT hcv h w hF)
 clear h hF hv
 go_enter Tryz.func39, Tryz.ntmps39
 go_wp2_with (go_at_call 71; refine HH.out.mono ?_; rintro e w2 ⟨rfl, k2⟩; have K2 := Lib.hid k2; clear k2)
 go_ret
 exact ⟨rfl, K2.out⟩
end Go.Proofs.YtonegoemmologaaGreatDoor
namespace Go.Proofs.YtonegoemmologaaGreatDoor
open Go.RowKit
theorem decDigits_small {u : Nat} (h : u < 10) : Lib.decDigits u = [UInt8.ofNat (48 + u)] := by rw [Lib.decDigits, dif_pos h]
theorem decDigits_big {u : Nat} (h : ¬ u < 10) : Lib.decDigits u = Lib.decDigits (u / 10) ++ [UInt8.ofNat (48 + u % 10)] := by rw [Lib.decDigits, dif_neg h]
theorem dec_ind {P : Nat → Prop} (h1 : ∀ u, u < 10 → P u) (h2 : ∀ u, ¬ u < 10 → P (u / 10) → P u) : ∀ u, P u := fun u => by
 induction u using Nat.strongRecOn with
 | _ u ih =>
  by_cases h : u < 10
  · exact h1 u h
  · exact h2 u h (ih _ (by omega))
theorem dgN (d : Nat) (h : d < 10) : (UInt8.ofNat (48 + d)).toNat = 48 + d := by simp; omega
theorem decDigits_dig : ∀ u : Nat, ∀ c ∈ Lib.decDigits u, Fl.isDig c := dec_ind
 (fun u h c hc => by rw [decDigits_small h, List.mem_singleton] at hc; subst hc; have := dgN u h; unfold Fl.isDig; omega)
 (fun u h ih c hc => by
  rw [decDigits_big h, List.mem_append, List.mem_singleton] at hc
  rcases hc with hc | hc
  · exact ih c hc
  · subst hc; have := dgN (u % 10) (by omega); unfold Fl.isDig; omega)
theorem decDigits_nval : ∀ u : Nat, Fl.nval (Lib.decDigits u) = u := dec_ind
 (fun u h => by rw [decDigits_small h, Fl.nval_one, dgN u h]; omega)
 (fun u h ih => by rw [decDigits_big h, Fl.nval_snoc, ih, dgN (u % 10) (by omega)]; omega)
theorem decDigits_ne (u : Nat) : Lib.decDigits u ≠ [] := by
 by_cases h : u < 10
 · rw [decDigits_small h]; simp
 · rw [decDigits_big h]; simp
theorem decDigits_head : ∀ u : Nat, u ≠ 0 → ∀ c, (Lib.decDigits u).head? = some c → c.toNat ≠ 48 := dec_ind
 (fun u h h0 c hc => by rw [decDigits_small h] at hc; simp only [List.head?_cons, Option.some.injEq] at hc; subst hc; rw [dgN u h]; omega)
 (fun u h ih h0 c hc => by
  rw [decDigits_big h, List.head?_append] at hc
  refine ih (by omega) c ?_
  cases hh : (Lib.decDigits (u / 10)).head? with
  | none => exact absurd (List.head?_eq_none_iff.mp hh) (decDigits_ne _)
  | some d => rw [hh] at hc; simpa using hc)
theorem decDigits_len : ∀ u k : Nat, u < 10 ^ (k + 1) → (Lib.decDigits u).length ≤ k + 1 := dec_ind
 (fun u h k _ => by rw [decDigits_small h]; simp)
 (fun u h ih k hk => by
  rw [decDigits_big h, List.length_append]
  cases k with
  | zero => omega
  | succ k => have := ih k (by rw [Nat.pow_succ] at hk; omega); simp; omega)
theorem decDigits_len20 (u : Nat) (h : u < 18446744073709551616) : (Lib.decDigits u).length ≤ 100 := Nat.le_trans (decDigits_len u 19 (by omega)) (by decide)
theorem decDigits_zero : Lib.decDigits 0 = [48] := by rw [decDigits_small (by decide)]; rfl
theorem puint_dec_0_32 (u : Nat) (h : u < 4294967296) (w : World) : Calls Tryz.prog 78 #[.string (mk (Lib.decDigits u)), .int .i64 0, .int .i64 32] w fun e w' => e = .returned (.tuple #[.int .u64 (u : Int), .nilIface]) ∧ Keeps (fun _ => False) w w' := by
 by_cases h0 : u = 0
 · subst h0; rw [decDigits_zero]; exact puint_zero_32 w
 · have := puint_in_0_32 (Lib.decDigits u) (decDigits_dig u) (decDigits_ne u) (decDigits_head u h0) (by rw [decDigits_nval]; exact h) (decDigits_len20 u (by omega)) w
   rw [decDigits_nval] at this; exact this
theorem puint_dec_0_64 (u : Nat) (h : u < 18446744073709551616) (w : World) : Calls Tryz.prog 78 #[.string (mk (Lib.decDigits u)), .int .i64 0, .int .i64 64] w fun e w' => e = .returned (.tuple #[.int .u64 (u : Int), .nilIface]) ∧ Keeps (fun _ => False) w w' := by
 by_cases h0 : u = 0
 · subst h0; rw [decDigits_zero]; exact puint_zero_64 w
 · have := puint_in_0_64 (Lib.decDigits u) (decDigits_dig u) (decDigits_ne u) (decDigits_head u h0) (by rw [decDigits_nval]; exact h) (decDigits_len20 u (by omega)) w
   rw [decDigits_nval] at this; exact this
theorem puint_dec_10_32 (u : Nat) (h : u < 4294967296) (w : World) : Calls Tryz.prog 78 #[.string (mk (Lib.decDigits u)), .int .i64 10, .int .i64 32] w fun e w' => e = .returned (.tuple #[.int .u64 (u : Int), .nilIface]) ∧ Keeps (fun _ => False) w w' := by
 have := puint_in_10_32 (Lib.decDigits u) (decDigits_dig u) (decDigits_ne u) (by rw [decDigits_nval]; exact h) (decDigits_len20 u (by omega)) w
 rw [decDigits_nval] at this; exact this
theorem parseUint_32 (u : Nat) (h : u < 4294967296) (w : World) : Calls Tryz.prog 55 #[.string (mk (Lib.decDigits u)), .int .i64 0, .int .i64 32] w fun e w' => e = .returned (.tuple #[.int .u64 (u : Int), .nilIface]) ∧ Keeps (fun _ => False) w w' :=
 strconv_ParseUint _ _ _ _ w (puint_dec_0_32 u h w)
theorem parseUint_64 (u : Nat) (h : u < 18446744073709551616) (w : World) : Calls Tryz.prog 55 #[.string (mk (Lib.decDigits u)), .int .i64 0, .int .i64 64] w fun e w' => e = .returned (.tuple #[.int .u64 (u : Int), .nilIface]) ∧ Keeps (fun _ => False) w w' :=
 strconv_ParseUint _ _ _ _ w (puint_dec_0_64 u h w)
theorem itoa_cases (i : Int) : (∃ u : Nat, i = u ∧ Lib.itoa i = Lib.decDigits u) ∨ (∃ u : Nat, i = -(u : Int) ∧ Lib.itoa i = 45 :: Lib.decDigits u) := by
 unfold Lib.itoa
 by_cases h : i < 0
 · rw [if_pos h]; exact .inr ⟨i.natAbs, by omega, rfl⟩
 · rw [if_neg h]; exact .inl ⟨i.toNat, by omega, rfl⟩
theorem parseInt_0_32 (i : Int) (h1 : -2147483648 ≤ i) (h2 : i ≤ 2147483647) (w : World) : Calls Tryz.prog 54 #[.string (mk (Lib.itoa i)), .int .i64 0, .int .i64 32] w fun e w' => e = .returned (.tuple #[.int .i64 i, .nilIface]) ∧ Keeps (fun _ => False) w w' := by
 refine strconv_ParseInt _ _ _ _ w ?_
 rcases itoa_cases i with ⟨u, rfl, h⟩ | ⟨u, rfl, h⟩ <;> rw [h]
 · exact pint_32_false 0 _ u (decDigits_ne u) (decDigits_dig u) (by omega) (puint_dec_0_32 u (by omega)) w
 · exact pint_32_true 0 _ u (decDigits_ne u) (decDigits_dig u) (by omega) (puint_dec_0_32 u (by omega)) w
theorem parseInt_10_32 (i : Int) (h1 : -2147483648 ≤ i) (h2 : i ≤ 2147483647) (w : World) : Calls Tryz.prog 54 #[.string (mk (Lib.itoa i)), .int .i64 10, .int .i64 32] w fun e w' => e = .returned (.tuple #[.int .i64 i, .nilIface]) ∧ Keeps (fun _ => False) w w' := by
 refine strconv_ParseInt _ _ _ _ w ?_
 rcases itoa_cases i with ⟨u, rfl, h⟩ | ⟨u, rfl, h⟩ <;> rw [h]
 · exact pint_32_false 10 _ u (decDigits_ne u) (decDigits_dig u) (by omega) (puint_dec_10_32 u (by omega)) w
 · exact pint_32_true 10 _ u (decDigits_ne u) (decDigits_dig u) (by omega) (puint_dec_10_32 u (by omega)) w
theorem parseInt_0_64 (i : Int) (h1 : -9223372036854775808 ≤ i) (h2 : i ≤ 9223372036854775807) (w : World) : Calls Tryz.prog 54 #[.string (mk (Lib.itoa i)), .int .i64 0, .int .i64 64] w fun e w' => e = .returned (.tuple #[.int .i64 i, .nilIface]) ∧ Keeps (fun _ => False) w w' := by
 refine strconv_ParseInt _ _ _ _ w ?_
 rcases itoa_cases i with ⟨u, rfl, h⟩ | ⟨u, rfl, h⟩ <;> rw [h]
 · exact pint_64_false 0 _ u (decDigits_ne u) (decDigits_dig u) (by omega) (puint_dec_0_64 u (by omega)) w
 · exact pint_64_true 0 _ u (decDigits_ne u) (decDigits_dig u) (by omega) (puint_dec_0_64 u (by omega)) w
end Go.Proofs.YtonegoemmologaaGreatDoor
