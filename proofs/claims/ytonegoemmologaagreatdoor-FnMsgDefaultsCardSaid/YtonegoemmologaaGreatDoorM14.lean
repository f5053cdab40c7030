/-
  ParseUint and ParseInt at decimal digits, base 0 and base 10.
  ParseUint in base 8, at 8 bits.
-/
import Derived.Test.YtonegoemmologaaGreatDoorM01
import Derived.Test.YtonegoemmologaaGreatDoorM10
import Derived.Test.YtonegoemmologaaGreatDoorM02
import Derived.Test.YtonegoemmologaaGreatDoorM06
import Derived.Test.YtonegoemmologaaGreatDoorM11
set_option linter.unusedVariables false
set_option linter.unusedSimpArgs false
namespace Go.Proofs.YtonegoemmologaaGreatDoor
open Go.RowKit
def intOfV : Value → Int
 | .int _ n => n
 | _ => 0
def DecRel (ds : List UInt8) (n i : Value) : Prop := ∃ k : Nat, k ≤ ds.length ∧ n = .int .u64 (Fl.nval (ds.take k) : Nat) ∧ i = .int .i64 (k : Int)
theorem nval_take (ds : List UInt8) (k : Nat) (h : k < ds.length) : Fl.nval (ds.take (k + 1)) = Fl.nval (ds.take k) * 10 + (ds[k].toNat - 48) := by
 rw [List.take_succ_eq_append_getElem h, Fl.nval_snoc]
theorem nval_take_le (ds : List UInt8) (k : Nat) : Fl.nval (ds.take k) ≤ Fl.nval ds := by
 have := Fl.nval_prefix (ds.take k) (ds.drop k)
 rwa [List.take_append_drop] at this
set_option maxRecDepth 1000000 in
set_option maxHeartbeats 4000000 in
theorem puint_in_0_32 (ds : List UInt8) (hd : ∀ c ∈ ds, Fl.isDig c) (h0 : ds ≠ []) (hh : ∀ c, ds.head? = some c → c.toNat ≠ 48) (hv : Fl.nval ds < 4294967296) (hl : ds.length ≤ 100) (w : World) :
 Calls Tryz.prog 78 #[.string (mk ds), .int .i64 0, .int .i64 32] w fun e w' => e = .returned (.tuple #[.int .u64 (Fl.nval ds : Nat), .nilIface]) ∧ Keeps (fun _ => False) w w' := by
 have hpos : 0 < ds.length := List.length_pos_iff.2 h0
 have hs0 : (mk ds).toList.isEmpty = false := by
  rw [mk_toList, List.isEmpty_eq_false_iff]
  exact h0
 have hsz : Hid ((mk ds).size = ds.length) := mk_size _
 obtain ⟨c0, hc0⟩ : ∃ c0, (ds[0]'hpos).toNat = c0 := ⟨_, rfl⟩
 have hx0 : ∀ w', (Instr.index 9 (.string (mk ds)) (.int .i64 0)).run Tryz.prog w' = .ok (.int .u8 (c0 : Int)) w' := fun w' => by
  have h := run_at ds 0 hpos w'
  rw [hc0] at h
  exact h
 have hq0 : ((c0 : Int) == 48) = false := by
  have := hh (ds[0]'hpos) (List.head?_eq_getElem? .. ▸ List.getElem?_eq_getElem hpos)
  simp; omega
 obtain ⟨s, hs⟩ : ∃ s, mk ds = s := ⟨_, rfl⟩
 have HS := Lib.hid hs
 rw [hs] at hs0 hsz hx0 ⊢
 clear hc0
 clear hs
 have hszo := hsz.out
 go_enter Tryz.func78, Tryz.ntmps78
 obtain ⟨cap, w1, hrun, hb, hk⟩ := run_to_bytes ds (by unfold maxLen; omega) w
 rw [HS.out] at hrun
 have HB := Lib.hid hb
 have HK := Lib.hid hk
 clear hb hk
 have HV := Lib.hid hv
 have HD := Lib.hid hd
 clear hv hd
 go_wp2
 go_loopw [12, 13, 101] (fun u n i wr => u = .bool false ∧ wr = w1 ∧ DecRel ds n i) (fun _ _ i _ => ds.length - (intOfV i).toNat)
 case atStart => exact ⟨rfl, rfl, 0, Nat.zero_le _, rfl, rfl⟩
 case round =>
  obtain ⟨rfl, rfl, k, hk, rfl, rfl⟩ := hrel
  by_cases hlt : k < ds.length
  · have hlt2 : (k : Int) < (ds.length : Int) := by omega
    have hds := HD.out ds[k] (List.getElem_mem _)
    have hnext := nval_take ds k hlt
    have hle := nval_take_le ds (k + 1)
    have hcell : wr.cell? ⟨w.heap.size, k, none⟩ = some (.int .u8 (ds[k].toNat : Int)) := by have h := HB.out.cell.2 k hlt; rwa [Nat.zero_add] at h
    obtain ⟨c, hc⟩ : ∃ c, ds[k].toNat = c := ⟨_, rfl⟩
    obtain ⟨n, hn⟩ : ∃ n, Fl.nval (ds.take k) = n := ⟨_, rfl⟩
    unfold Fl.isDig at hds
    rw [hc] at hcell hds hnext
    obtain ⟨hd1, hd2⟩ := hds
    rw [hn] at hnext ⊢
    have hvo := HV.out
    obtain ⟨d, hdc⟩ : ∃ d, c - 48 = d := ⟨_, rfl⟩
    rw [hdc] at hnext
    have hn2 : n * 10 + d < 4294967296 := by omega
    have HN := Lib.hid hnext
    clear hle hvo hc hn hnext
    have g1 : ¬ (1844674407370955162 : Int) ≤ (n : Int) := by omega
    have g2 : ¬ ((n : Int) * 10 + (d : Int) < (n : Int) * 10) := by omega
    have g3 : ¬ ((4294967295 : Int) < (n : Int) * 10 + (d : Int)) := by omega
    have g4 : IntKind.u64.wrap ((n : Int) * 10) = (n : Int) * 10 := by rw [IntKind.wrap_u64]; omega
    have g5 : IntKind.u64.wrap ((n : Int) * 10 + (d : Int)) = (n : Int) * 10 + (d : Int) := by rw [IntKind.wrap_u64]; omega
    have g6 : ¬ (10 : Int) ≤ (d : Int) := by omega
    have g7 : ((c : Int) == 95) = false := by simp; omega
    have e1 : (48 : Int) ≤ (c : Int) := by omega
    have e2 : (c : Int) ≤ 57 := by omega
    have e3 : (c : Int) - 48 = (d : Int) := by omega
    have e4 : IntKind.u8.wrap (d : Int) = (d : Int) := by rw [IntKind.wrap_u8]; omega
    have e5 : IntKind.u64.wrap (d : Int) = (d : Int) := by rw [IntKind.wrap_u64]; omega
    clear hdc hd1 hd2 hn2
    go_wp2
    go_roundw
    case rel => exact ⟨by simp, by simp, k + 1, hlt, by rw [HN.out]; rfl, rfl⟩
    case measure => simp [intOfV]; omega
  · have hk2 : ¬ (k : Int) < (ds.length : Int) := by omega
    have hkl : k = ds.length := by omega
    subst hkl
    rw [List.take_length]
    go_wp2
    go_ret2
    exact ⟨rfl, HK.out⟩
set_option maxRecDepth 1000000 in
set_option maxHeartbeats 4000000 in
theorem puint_in_0_64 (ds : List UInt8) (hd : ∀ c ∈ ds, Fl.isDig c) (h0 : ds ≠ []) (hh : ∀ c, ds.head? = some c → c.toNat ≠ 48) (hv : Fl.nval ds < 18446744073709551616) (hl : ds.length ≤ 100) (w : World) :
 Calls Tryz.prog 78 #[.string (mk ds), .int .i64 0, .int .i64 64] w fun e w' => e = .returned (.tuple #[.int .u64 (Fl.nval ds : Nat), .nilIface]) ∧ Keeps (fun _ => False) w w' := by
 have hpos : 0 < ds.length := List.length_pos_iff.2 h0
 have hs0 : (mk ds).toList.isEmpty = false := by
  rw [mk_toList, List.isEmpty_eq_false_iff]
  exact h0
 have hsz : Hid ((mk ds).size = ds.length) := mk_size _
 obtain ⟨c0, hc0⟩ : ∃ c0, (ds[0]'hpos).toNat = c0 := ⟨_, rfl⟩
 have hx0 : ∀ w', (Instr.index 9 (.string (mk ds)) (.int .i64 0)).run Tryz.prog w' = .ok (.int .u8 (c0 : Int)) w' := fun w' => by
  have h := run_at ds 0 hpos w'
  rw [hc0] at h
  exact h
 have hq0 : ((c0 : Int) == 48) = false := by
  have := hh (ds[0]'hpos) (List.head?_eq_getElem? .. ▸ List.getElem?_eq_getElem hpos)
  simp; omega
 obtain ⟨s, hs⟩ : ∃ s, mk ds = s := ⟨_, rfl⟩
 have HS := Lib.hid hs
 rw [hs] at hs0 hsz hx0 ⊢
 clear hc0
 clear hs
 have hszo := hsz.out
 go_enter Tryz.func78, Tryz.ntmps78
 obtain ⟨cap, w1, hrun, hb, hk⟩ := run_to_bytes ds (by unfold maxLen; omega) w
 rw [HS.out] at hrun
 have HB := Lib.hid hb
 have HK := Lib.hid hk
 clear hb hk
 have HV := Lib.hid hv
 have HD := Lib.hid hd
 clear hv hd
 go_wp2
 go_loopw [12, 13, 101] (fun u n i wr => u = .bool false ∧ wr = w1 ∧ DecRel ds n i) (fun _ _ i _ => ds.length - (intOfV i).toNat)
 case atStart => exact ⟨rfl, rfl, 0, Nat.zero_le _, rfl, rfl⟩
 case round =>
  obtain ⟨rfl, rfl, k, hk, rfl, rfl⟩ := hrel
  by_cases hlt : k < ds.length
  · have hlt2 : (k : Int) < (ds.length : Int) := by omega
    have hds := HD.out ds[k] (List.getElem_mem _)
    have hnext := nval_take ds k hlt
    have hle := nval_take_le ds (k + 1)
    have hcell : wr.cell? ⟨w.heap.size, k, none⟩ = some (.int .u8 (ds[k].toNat : Int)) := by have h := HB.out.cell.2 k hlt; rwa [Nat.zero_add] at h
    obtain ⟨c, hc⟩ : ∃ c, ds[k].toNat = c := ⟨_, rfl⟩
    obtain ⟨n, hn⟩ : ∃ n, Fl.nval (ds.take k) = n := ⟨_, rfl⟩
    unfold Fl.isDig at hds
    rw [hc] at hcell hds hnext
    obtain ⟨hd1, hd2⟩ := hds
    rw [hn] at hnext ⊢
    have hvo := HV.out
    obtain ⟨d, hdc⟩ : ∃ d, c - 48 = d := ⟨_, rfl⟩
    rw [hdc] at hnext
    have hn2 : n * 10 + d < 18446744073709551616 := by omega
    have HN := Lib.hid hnext
    clear hle hvo hc hn hnext
    have g1 : ¬ (1844674407370955162 : Int) ≤ (n : Int) := by omega
    have g2 : ¬ ((n : Int) * 10 + (d : Int) < (n : Int) * 10) := by omega
    have g3 : ¬ ((18446744073709551615 : Int) < (n : Int) * 10 + (d : Int)) := by omega
    have g4 : IntKind.u64.wrap ((n : Int) * 10) = (n : Int) * 10 := by rw [IntKind.wrap_u64]; omega
    have g5 : IntKind.u64.wrap ((n : Int) * 10 + (d : Int)) = (n : Int) * 10 + (d : Int) := by rw [IntKind.wrap_u64]; omega
    have g6 : ¬ (10 : Int) ≤ (d : Int) := by omega
    have g7 : ((c : Int) == 95) = false := by simp; omega
    have e1 : (48 : Int) ≤ (c : Int) := by omega
    have e2 : (c : Int) ≤ 57 := by omega
    have e3 : (c : Int) - 48 = (d : Int) := by omega
    have e4 : IntKind.u8.wrap (d : Int) = (d : Int) := by rw [IntKind.wrap_u8]; omega
    have e5 : IntKind.u64.wrap (d : Int) = (d : Int) := by rw [IntKind.wrap_u64]; omega
    clear hdc hd1 hd2 hn2
    go_wp2
    go_roundw
    case rel => exact ⟨by simp, by simp, k + 1, hlt, by rw [HN.out]; rfl, rfl⟩
    case measure => simp [intOfV]; omega
  · have hk2 : ¬ (k : Int) < (ds.length : Int) := by omega
    have hkl : k = ds.length := by omega
    subst hkl
    rw [List.take_length]
    go_wp2
    go_ret2
    exact ⟨rfl, HK.out⟩
set_option maxRecDepth 1000000 in
set_option maxHeartbeats 4000000 in
theorem puint_in_10_32 (ds : List UInt8) (hd : ∀ c ∈ ds, Fl.isDig c) (h0 : ds ≠ []) (hv : Fl.nval ds < 4294967296) (hl : ds.length ≤ 100) (w : World) :
 Calls Tryz.prog 78 #[.string (mk ds), .int .i64 10, .int .i64 32] w fun e w' => e = .returned (.tuple #[.int .u64 (Fl.nval ds : Nat), .nilIface]) ∧ Keeps (fun _ => False) w w' := by
 have hpos : 0 < ds.length := List.length_pos_iff.2 h0
 have hs0 : (mk ds).toList.isEmpty = false := by
  rw [mk_toList, List.isEmpty_eq_false_iff]
  exact h0
 have hsz : Hid ((mk ds).size = ds.length) := mk_size _
 obtain ⟨s, hs⟩ : ∃ s, mk ds = s := ⟨_, rfl⟩
 have HS := Lib.hid hs
 rw [hs] at hs0 hsz ⊢
 skip
 clear hs
 have hszo := hsz.out
 go_enter Tryz.func78, Tryz.ntmps78
 obtain ⟨cap, w1, hrun, hb, hk⟩ := run_to_bytes ds (by unfold maxLen; omega) w
 rw [HS.out] at hrun
 have HB := Lib.hid hb
 have HK := Lib.hid hk
 clear hb hk
 have HV := Lib.hid hv
 have HD := Lib.hid hd
 clear hv hd
 go_wp2
 go_loopw [12, 13, 101] (fun u n i wr => u = .bool false ∧ wr = w1 ∧ DecRel ds n i) (fun _ _ i _ => ds.length - (intOfV i).toNat)
 case atStart => exact ⟨rfl, rfl, 0, Nat.zero_le _, rfl, rfl⟩
 case round =>
  obtain ⟨rfl, rfl, k, hk, rfl, rfl⟩ := hrel
  by_cases hlt : k < ds.length
  · have hlt2 : (k : Int) < (ds.length : Int) := by omega
    have hds := HD.out ds[k] (List.getElem_mem _)
    have hnext := nval_take ds k hlt
    have hle := nval_take_le ds (k + 1)
    have hcell : wr.cell? ⟨w.heap.size, k, none⟩ = some (.int .u8 (ds[k].toNat : Int)) := by have h := HB.out.cell.2 k hlt; rwa [Nat.zero_add] at h
    obtain ⟨c, hc⟩ : ∃ c, ds[k].toNat = c := ⟨_, rfl⟩
    obtain ⟨n, hn⟩ : ∃ n, Fl.nval (ds.take k) = n := ⟨_, rfl⟩
    unfold Fl.isDig at hds
    rw [hc] at hcell hds hnext
    obtain ⟨hd1, hd2⟩ := hds
    rw [hn] at hnext ⊢
    have hvo := HV.out
    obtain ⟨d, hdc⟩ : ∃ d, c - 48 = d := ⟨_, rfl⟩
    rw [hdc] at hnext
    have hn2 : n * 10 + d < 4294967296 := by omega
    have HN := Lib.hid hnext
    clear hle hvo hc hn hnext
    have g1 : ¬ (1844674407370955162 : Int) ≤ (n : Int) := by omega
    have g2 : ¬ ((n : Int) * 10 + (d : Int) < (n : Int) * 10) := by omega
    have g3 : ¬ ((4294967295 : Int) < (n : Int) * 10 + (d : Int)) := by omega
    have g4 : IntKind.u64.wrap ((n : Int) * 10) = (n : Int) * 10 := by rw [IntKind.wrap_u64]; omega
    have g5 : IntKind.u64.wrap ((n : Int) * 10 + (d : Int)) = (n : Int) * 10 + (d : Int) := by rw [IntKind.wrap_u64]; omega
    have g6 : ¬ (10 : Int) ≤ (d : Int) := by omega
    have g7 : ((c : Int) == 95) = false := by simp; omega
    have e1 : (48 : Int) ≤ (c : Int) := by omega
    have e2 : (c : Int) ≤ 57 := by omega
    have e3 : (c : Int) - 48 = (d : Int) := by omega
    have e4 : IntKind.u8.wrap (d : Int) = (d : Int) := by rw [IntKind.wrap_u8]; omega
    have e5 : IntKind.u64.wrap (d : Int) = (d : Int) := by rw [IntKind.wrap_u64]; omega
    clear hdc hd1 hd2 hn2
    go_wp2
    go_roundw
    case rel => exact ⟨by simp, by simp, k + 1, hlt, by rw [HN.out]; rfl, rfl⟩
    case measure => simp [intOfV]; omega
  · have hk2 : ¬ (k : Int) < (ds.length : Int) := by omega
    have hkl : k = ds.length := by omega
    subst hkl
    rw [List.take_length]
    go_wp2
    go_ret2
    exact ⟨rfl, HK.out⟩
set_option maxRecDepth 1000000 in
set_option maxHeartbeats 4000000 in
theorem puint_zero_32 (w : World) : Calls Tryz.prog 78 #[.string (mk [48]), .int .i64 0, .int .i64 32] w fun e w' => e = .returned (.tuple #[.int .u64 0, .nilIface]) ∧ Keeps (fun _ => False) w w' := by
 have hx0 : ∀ w', (Instr.index 9 (.string (mk [48])) (.int .i64 0)).run Tryz.prog w' = .ok (.int .u8 48) w' := fun w' => run_at [48] 0 (by decide) w'
 have hsl : ∀ w', (Instr.slice 9 (.string (mk [48])) (some (.int .i64 1)) none none).run Tryz.prog w' = .ok (.string (mk [])) w' := fun w' => run_from [48] 1 (by decide) w'
 have hs0 : (mk [48]).toList.isEmpty = false := by rw [mk_toList]; rfl
 obtain ⟨s, hs⟩ : ∃ s, mk [48] = s := ⟨_, rfl⟩
 have hsz : s.size = 1 := by rw [← hs]; rfl
 have hszi : (s.size : Int) = 1 := by omega
 rw [hs] at hx0 hs0 hsl ⊢
 clear hs
 go_enter Tryz.func78, Tryz.ntmps78
 obtain ⟨cap, w1, hrun, hb, hk⟩ := run_to_bytes [] (by unfold maxLen; simp) w
 obtain ⟨s2, hs2⟩ : ∃ s, mk [] = s := ⟨_, rfl⟩
 rw [hs2] at hrun hsl
 have HK := Lib.hid hk
 clear hb hk hs2 hsz
 go_wp2
 go_loopw [12, 13, 101] (fun u n i wr => u = .bool false ∧ wr = w1 ∧ n = .int .u64 0 ∧ i = .int .i64 0) (fun _ _ _ _ => 0)
 case atStart => exact ⟨rfl, rfl, rfl, rfl⟩
 case round =>
  obtain ⟨rfl, rfl, rfl, rfl⟩ := hrel
  go_wp2
  go_ret2
  exact ⟨rfl, HK.out⟩
set_option maxRecDepth 1000000 in
set_option maxHeartbeats 4000000 in
theorem pint_32_false (base : Int) (ds : List UInt8) (v : Nat) (h0 : ds ≠ []) (hd : ∀ c ∈ ds, Fl.isDig c) (hv : v < 2147483648) (hp : ∀ w, Calls Tryz.prog 78 #[.string (mk ds), .int .i64 base, .int .i64 32] w fun e w' => e = .returned (.tuple #[.int .u64 (v : Int), .nilIface]) ∧ Keeps (fun _ => False) w w') (w : World) :
 Calls Tryz.prog 76 #[.string (mk (ds)), .int .i64 base, .int .i64 32] w fun e w' => e = .returned (.tuple #[.int .i64 (v : Int), .nilIface]) ∧ Keeps (fun _ => False) w w' := by
 have hpos : 0 < ds.length := List.length_pos_iff.2 h0
 have HP := Lib.hid hp
 have hs0 : (mk (ds)).toList.isEmpty = false := by
  rw [mk_toList, List.isEmpty_eq_false_iff]
  exact h0
 obtain ⟨c0, hc0⟩ : ∃ c0, (ds[0]'hpos).toNat = c0 := ⟨_, rfl⟩
 have hx0 : ∀ w', (Instr.index 9 (.string (mk ds)) (.int .i64 0)).run Tryz.prog w' = .ok (.int .u8 (c0 : Int)) w' := fun w' => by
  have h := run_at ds 0 hpos w'
  rw [hc0] at h
  exact h
 have hc := hd (ds[0]'hpos) (List.getElem_mem _)
 unfold Fl.isDig at hc
 rw [hc0] at hc
 have q43 : ((c0 : Int) == 43) = false := by simp; omega
 have q45 : ((c0 : Int) == 45) = false := by simp; omega
 obtain ⟨s, hs⟩ : ∃ s, mk ds = s := ⟨_, rfl⟩
 rw [hs] at hs0 hx0 HP ⊢
 have T3 : Hid (wrap64 (v : Int) = (v : Int)) := by show _ = _; unfold wrap64; omega
 have t1 : decide ((2147483648 : Int) ≤ (v : Int)) = false := by rw [decide_eq_false_iff_not]; omega
 clear hs hp hd h0 hc hc0 hv
 go_enter Tryz.func76, Tryz.ntmps76
 go_wp2_with (go_at_call 78; refine (HP.out _).mono ?_; rintro en w2 ⟨rfl, k2⟩; have K2 := Lib.hid k2; clear k2)
 go_ret2
 simp only [T3.out]
 exact ⟨rfl, K2.out⟩
set_option maxRecDepth 1000000 in
set_option maxHeartbeats 4000000 in
theorem pint_32_true (base : Int) (ds : List UInt8) (v : Nat) (h0 : ds ≠ []) (hd : ∀ c ∈ ds, Fl.isDig c) (hv : v ≤ 2147483648) (hp : ∀ w, Calls Tryz.prog 78 #[.string (mk ds), .int .i64 base, .int .i64 32] w fun e w' => e = .returned (.tuple #[.int .u64 (v : Int), .nilIface]) ∧ Keeps (fun _ => False) w w') (w : World) :
 Calls Tryz.prog 76 #[.string (mk (45 :: ds)), .int .i64 base, .int .i64 32] w fun e w' => e = .returned (.tuple #[.int .i64 (-(v : Int)), .nilIface]) ∧ Keeps (fun _ => False) w w' := by
 have hpos : 0 < ds.length := List.length_pos_iff.2 h0
 have HP := Lib.hid hp
 have hs0 : (mk (45 :: ds)).toList.isEmpty = false := by
  rw [mk_toList, List.isEmpty_eq_false_iff]
  simp
 have hx0 : ∀ w', (Instr.index 9 (.string (mk (45 :: ds))) (.int .i64 0)).run Tryz.prog w' = .ok (.int .u8 45) w' := fun w' => run_at (45 :: ds) 0 (by simp) w'
 have hsl : ∀ w', (Instr.slice 9 (.string (mk (45 :: ds))) (some (.int .i64 1)) none none).run Tryz.prog w' = .ok (.string (mk ds)) w' := fun w' => run_from (45 :: ds) 1 (by simp) w'
 obtain ⟨s, hs⟩ : ∃ s, mk (45 :: ds) = s := ⟨_, rfl⟩
 obtain ⟨s2, hs2⟩ : ∃ s, mk ds = s := ⟨_, rfl⟩
 rw [hs] at hs0 hx0 hsl ⊢
 rw [hs2] at HP hsl
 have t1 : ¬ (2147483648 : Int) < (v : Int) := by omega
 have t2 : IntKind.i64.wrap (v : Int) = (v : Int) := by rw [IntWalk.i64_in _ (by omega)]
 have T3 : Hid (wrap64 (-wrap64 (v : Int)) = -(v : Int)) := by show _ = _; unfold wrap64; omega
 clear hs hs2 hp hd h0 hv
 go_enter Tryz.func76, Tryz.ntmps76
 go_wp2_with (go_at_call 78; refine (HP.out _).mono ?_; rintro en w2 ⟨rfl, k2⟩; have K2 := Lib.hid k2; clear k2)
 go_ret2
 skip
 exact ⟨rfl, K2.out⟩
set_option maxRecDepth 1000000 in
set_option maxHeartbeats 4000000 in
theorem puint_zero_64 (w : World) : Calls Tryz.prog 78 #[.string (mk [48]), .int .i64 0, .int .i64 64] w fun e w' => e = .returned (.tuple #[.int .u64 0, .nilIface]) ∧ Keeps (fun _ => False) w w' := by
 have hx0 : ∀ w', (Instr.index 9 (.string (mk [48])) (.int .i64 0)).run Tryz.prog w' = .ok (.int .u8 48) w' := fun w' => run_at [48] 0 (by decide) w'
 have hsl : ∀ w', (Instr.slice 9 (.string (mk [48])) (some (.int .i64 1)) none none).run Tryz.prog w' = .ok (.string (mk [])) w' := fun w' => run_from [48] 1 (by decide) w'
 have hs0 : (mk [48]).toList.isEmpty = false := by rw [mk_toList]; rfl
 obtain ⟨s, hs⟩ : ∃ s, mk [48] = s := ⟨_, rfl⟩
 have hsz : s.size = 1 := by rw [← hs]; rfl
 have hszi : (s.size : Int) = 1 := by omega
 rw [hs] at hx0 hs0 hsl ⊢
 clear hs
 go_enter Tryz.func78, Tryz.ntmps78
 obtain ⟨cap, w1, hrun, hb, hk⟩ := run_to_bytes [] (by unfold maxLen; simp) w
 obtain ⟨s2, hs2⟩ : ∃ s, mk [] = s := ⟨_, rfl⟩
 rw [hs2] at hrun hsl
 have HK := Lib.hid hk
 clear hb hk hs2 hsz
 go_wp2
 go_loopw [12, 13, 101] (fun u n i wr => u = .bool false ∧ wr = w1 ∧ n = .int .u64 0 ∧ i = .int .i64 0) (fun _ _ _ _ => 0)
 case atStart => exact ⟨rfl, rfl, rfl, rfl⟩
 case round =>
  obtain ⟨rfl, rfl, rfl, rfl⟩ := hrel
  go_wp2
  go_ret2
  exact ⟨rfl, HK.out⟩
set_option maxRecDepth 1000000 in
set_option maxHeartbeats 4000000 in
theorem pint_64_false (base : Int) (ds : List UInt8) (v : Nat) (h0 : ds ≠ []) (hd : ∀ c ∈ ds, Fl.isDig c) (hv : v < 9223372036854775808) (hp : ∀ w, Calls Tryz.prog 78 #[.string (mk ds), .int .i64 base, .int .i64 64] w fun e w' => e = .returned (.tuple #[.int .u64 (v : Int), .nilIface]) ∧ Keeps (fun _ => False) w w') (w : World) :
 Calls Tryz.prog 76 #[.string (mk (ds)), .int .i64 base, .int .i64 64] w fun e w' => e = .returned (.tuple #[.int .i64 (v : Int), .nilIface]) ∧ Keeps (fun _ => False) w w' := by
 have hpos : 0 < ds.length := List.length_pos_iff.2 h0
 have HP := Lib.hid hp
 have hs0 : (mk (ds)).toList.isEmpty = false := by
  rw [mk_toList, List.isEmpty_eq_false_iff]
  exact h0
 obtain ⟨c0, hc0⟩ : ∃ c0, (ds[0]'hpos).toNat = c0 := ⟨_, rfl⟩
 have hx0 : ∀ w', (Instr.index 9 (.string (mk ds)) (.int .i64 0)).run Tryz.prog w' = .ok (.int .u8 (c0 : Int)) w' := fun w' => by
  have h := run_at ds 0 hpos w'
  rw [hc0] at h
  exact h
 have hc := hd (ds[0]'hpos) (List.getElem_mem _)
 unfold Fl.isDig at hc
 rw [hc0] at hc
 have q43 : ((c0 : Int) == 43) = false := by simp; omega
 have q45 : ((c0 : Int) == 45) = false := by simp; omega
 obtain ⟨s, hs⟩ : ∃ s, mk ds = s := ⟨_, rfl⟩
 rw [hs] at hs0 hx0 HP ⊢
 have T3 : Hid (wrap64 (v : Int) = (v : Int)) := by show _ = _; unfold wrap64; omega
 have t1 : decide ((9223372036854775808 : Int) ≤ (v : Int)) = false := by rw [decide_eq_false_iff_not]; omega
 clear hs hp hd h0 hc hc0 hv
 go_enter Tryz.func76, Tryz.ntmps76
 go_wp2_with (go_at_call 78; refine (HP.out _).mono ?_; rintro en w2 ⟨rfl, k2⟩; have K2 := Lib.hid k2; clear k2)
 go_ret2
 simp only [T3.out]
 exact ⟨rfl, K2.out⟩
set_option maxRecDepth 1000000 in
set_option maxHeartbeats 4000000 in
theorem pint_64_true (base : Int) (ds : List UInt8) (v : Nat) (h0 : ds ≠ []) (hd : ∀ c ∈ ds, Fl.isDig c) (hv : v ≤ 9223372036854775808) (hp : ∀ w, Calls Tryz.prog 78 #[.string (mk ds), .int .i64 base, .int .i64 64] w fun e w' => e = .returned (.tuple #[.int .u64 (v : Int), .nilIface]) ∧ Keeps (fun _ => False) w w') (w : World) :
 Calls Tryz.prog 76 #[.string (mk (45 :: ds)), .int .i64 base, .int .i64 64] w fun e w' => e = .returned (.tuple #[.int .i64 (-(v : Int)), .nilIface]) ∧ Keeps (fun _ => False) w w' := by
 have hpos : 0 < ds.length := List.length_pos_iff.2 h0
 have HP := Lib.hid hp
 have hs0 : (mk (45 :: ds)).toList.isEmpty = false := by
  rw [mk_toList, List.isEmpty_eq_false_iff]
  simp
 have hx0 : ∀ w', (Instr.index 9 (.string (mk (45 :: ds))) (.int .i64 0)).run Tryz.prog w' = .ok (.int .u8 45) w' := fun w' => run_at (45 :: ds) 0 (by simp) w'
 have hsl : ∀ w', (Instr.slice 9 (.string (mk (45 :: ds))) (some (.int .i64 1)) none none).run Tryz.prog w' = .ok (.string (mk ds)) w' := fun w' => run_from (45 :: ds) 1 (by simp) w'
 obtain ⟨s, hs⟩ : ∃ s, mk (45 :: ds) = s := ⟨_, rfl⟩
 obtain ⟨s2, hs2⟩ : ∃ s, mk ds = s := ⟨_, rfl⟩
 rw [hs] at hs0 hx0 hsl ⊢
 rw [hs2] at HP hsl
 have t1 : ¬ (9223372036854775808 : Int) < (v : Int) := by omega
 have t2 : IntKind.i64.wrap (v : Int) = IntKind.i64.wrap (v : Int) := rfl
 have T3 : Hid (wrap64 (-wrap64 (v : Int)) = -(v : Int)) := by show _ = _; unfold wrap64; omega
 clear hs hs2 hp hd h0 hv t2
 go_enter Tryz.func76, Tryz.ntmps76
 go_wp2_with (go_at_call 78; refine (HP.out _).mono ?_; rintro en w2 ⟨rfl, k2⟩; have K2 := Lib.hid k2; clear k2)
 go_ret2
 simp only [T3.out]
 exact ⟨rfl, K2.out⟩
set_option maxRecDepth 1000000 in
set_option maxHeartbeats 4000000 in
theorem strconv_ParseInt (s : ByteArray) (base B v : Int) (w : World) (hp : Calls Tryz.prog 76 #[.string s, .int .i64 base, .int .i64 B] w fun e w' => e = .returned (.tuple #[.int .i64 v, .nilIface]) ∧ Keeps (fun _ => False) w w') :
 Calls Tryz.prog 54 #[.string s, .int .i64 base, .int .i64 B] w fun e w' => e = .returned (.tuple #[.int .i64 v, .nilIface]) ∧ Keeps (fun _ => False) w w' := by
 have HP := Lib.hid hp
 clear hp
 go_enter Tryz.func54, Tryz.ntmps54
 go_wp2_with (go_at_call 76; refine (HP.out).mono ?_; rintro en w2 ⟨rfl, k2⟩; have K2 := Lib.hid k2; clear k2)
 go_ret2
 exact ⟨rfl, K2.out⟩
set_option maxRecDepth 1000000 in
set_option maxHeartbeats 4000000 in
theorem strconv_ParseUint (s : ByteArray) (base B v : Int) (w : World) (hp : Calls Tryz.prog 78 #[.string s, .int .i64 base, .int .i64 B] w fun e w' => e = .returned (.tuple #[.int .u64 v, .nilIface]) ∧ Keeps (fun _ => False) w w') :
 Calls Tryz.prog 55 #[.string s, .int .i64 base, .int .i64 B] w fun e w' => e = .returned (.tuple #[.int .u64 v, .nilIface]) ∧ Keeps (fun _ => False) w w' := by
 have HP := Lib.hid hp
 clear hp
 go_enter Tryz.func55, Tryz.ntmps55
 go_wp2_with (go_at_call 78; refine (HP.out).mono ?_; rintro en w2 ⟨rfl, k2⟩; have K2 := Lib.hid k2; clear k2)
 go_ret2
 exact ⟨rfl, K2.out⟩
end Go.Proofs.YtonegoemmologaaGreatDoor
namespace Go.Proofs.YtonegoemmologaaGreatDoor
open Go.RowKit
def octV (l : List UInt8) : Nat := l.foldl (fun a c => a * 8 + (c.toNat - 48)) 0
theorem octV_take (ds : List UInt8) (k : Nat) (h : k < ds.length) : octV (ds.take (k + 1)) = octV (ds.take k) * 8 + (ds[k].toNat - 48) := by
 unfold octV; rw [List.take_succ_eq_append_getElem h, List.foldl_append]; rfl
def OctRel (ds : List UInt8) (n i : Value) : Prop := ∃ k : Nat, k ≤ ds.length ∧ n = .int .u64 (octV (ds.take k) : Nat) ∧ i = .int .i64 (k : Int)
set_option maxRecDepth 1000000 in
set_option maxHeartbeats 4000000 in
theorem parse_oct_in (ds : List UInt8) (hd : ∀ c ∈ ds, 48 ≤ c.toNat ∧ c.toNat ≤ 55) (h0 : ds ≠ []) (hv : ∀ k, octV (ds.take k) < 256) (hl : ds.length ≤ 3) (w : World) :
 Calls Tryz.prog 78 #[.string (mk ds), .int .i64 8, .int .i64 8] w fun e w' => e = .returned (.tuple #[.int .u64 (octV ds : Nat), .nilIface]) ∧ Keeps (fun _ => False) w w' := by
 have hpos : 0 < ds.length := List.length_pos_iff.2 h0
 have hs0 : (mk ds).toList.isEmpty = false := by
  rw [mk_toList, List.isEmpty_eq_false_iff]
  exact h0
 have hsz : Hid ((mk ds).size = ds.length) := mk_size _
 obtain ⟨s, hs⟩ : ∃ s, mk ds = s := ⟨_, rfl⟩
 have HS := Lib.hid hs
 rw [hs] at hs0 hsz ⊢
 skip
 clear hs
 have hszo := hsz.out
 go_enter Tryz.func78, Tryz.ntmps78
 obtain ⟨cap, w1, hrun, hb, hk⟩ := run_to_bytes ds (by unfold maxLen; omega) w
 rw [HS.out] at hrun
 have HB := Lib.hid hb
 have HK := Lib.hid hk
 clear hb hk
 have HV := Lib.hid hv
 have HD := Lib.hid hd
 clear hv hd
 go_wp2
 go_loopw [12, 13, 101] (fun u n i wr => u = .bool false ∧ wr = w1 ∧ OctRel ds n i) (fun _ _ i _ => ds.length - (intOfV i).toNat)
 case atStart => exact ⟨rfl, rfl, 0, Nat.zero_le _, rfl, rfl⟩
 case round =>
  obtain ⟨rfl, rfl, k, hk, rfl, rfl⟩ := hrel
  by_cases hlt : k < ds.length
  · have hlt2 : (k : Int) < (ds.length : Int) := by omega
    have hds := HD.out ds[k] (List.getElem_mem _)
    have hnext := octV_take ds k hlt
    have hle := HV.out (k + 1)
    have hcell : wr.cell? ⟨w.heap.size, k, none⟩ = some (.int .u8 (ds[k].toNat : Int)) := by have h := HB.out.cell.2 k hlt; rwa [Nat.zero_add] at h
    obtain ⟨c, hc⟩ : ∃ c, ds[k].toNat = c := ⟨_, rfl⟩
    obtain ⟨n, hn⟩ : ∃ n, octV (ds.take k) = n := ⟨_, rfl⟩
    rw [hc] at hcell hds hnext
    obtain ⟨hd1, hd2⟩ := hds
    rw [hn] at hnext ⊢
    obtain ⟨d, hdc⟩ : ∃ d, c - 48 = d := ⟨_, rfl⟩
    rw [hdc] at hnext
    have hn2 : n * 8 + d < 256 := by omega
    have HN := Lib.hid hnext
    clear hle hc hn hnext
    have g1 : ¬ (2305843009213693952 : Int) ≤ (n : Int) := by omega
    have g2 : ¬ ((n : Int) * 8 + (d : Int) < (n : Int) * 8) := by omega
    have g3 : ¬ ((255 : Int) < (n : Int) * 8 + (d : Int)) := by omega
    have g4 : IntKind.u64.wrap ((n : Int) * 8) = (n : Int) * 8 := by rw [IntKind.wrap_u64]; omega
    have g5 : IntKind.u64.wrap ((n : Int) * 8 + (d : Int)) = (n : Int) * 8 + (d : Int) := by rw [IntKind.wrap_u64]; omega
    have g6 : ¬ (8 : Int) ≤ (d : Int) := by omega
    have g7 : ((c : Int) == 95) = false := by simp; omega
    have e1 : (48 : Int) ≤ (c : Int) := by omega
    have e2 : (c : Int) ≤ 57 := by omega
    have e3 : (c : Int) - 48 = (d : Int) := by omega
    have e4 : IntKind.u8.wrap (d : Int) = (d : Int) := by rw [IntKind.wrap_u8]; omega
    have e5 : IntKind.u64.wrap (d : Int) = (d : Int) := by rw [IntKind.wrap_u64]; omega
    clear hdc hd1 hd2 hn2
    go_wp2
    go_roundw
    case rel => exact ⟨by simp, by simp, k + 1, hlt, by rw [HN.out]; rfl, rfl⟩
    case measure => simp [intOfV]; omega
  · have hk2 : ¬ (k : Int) < (ds.length : Int) := by omega
    have hkl : k = ds.length := by omega
    subst hkl
    rw [List.take_length]
    go_wp2
    go_ret2
    exact ⟨rfl, HK.out⟩
theorem octD_val (k : Nat) (hk : k < 256) : (∀ c ∈ octD k, 48 ≤ c.toNat ∧ c.toNat ≤ 55) ∧ octV (octD k) = k ∧ ∀ j, octV ((octD k).take j) < 256 := by
 have h : ∀ n : Fin 256, (∀ c ∈ octD n.val, 48 ≤ c.toNat ∧ c.toNat ≤ 55) ∧ octV (octD n.val) = n.val ∧ octV ((octD n.val).take 0) < 256 ∧ octV ((octD n.val).take 1) < 256 ∧ octV ((octD n.val).take 2) < 256 := by decide +kernel
 obtain ⟨h1, h2, h3, h4, h5⟩ := h ⟨k, hk⟩
 refine ⟨h1, h2, fun j => ?_⟩
 have hj : j = 0 ∨ j = 1 ∨ j = 2 ∨ 3 ≤ j := by omega
 rcases hj with rfl | rfl | rfl | hj
 · exact h3
 · exact h4
 · exact h5
 · rw [List.take_of_length_le (by simp [octD, hexB]; omega), h2]; exact hk
theorem parse_oct (k : Nat) (hk : k < 256) (w : World) :
 Calls Tryz.prog 55 #[.string (mk (octD k)), .int .i64 8, .int .i64 8] w fun e w' => e = .returned (.tuple #[.int .u64 (k : Nat), .nilIface]) ∧ Keeps (fun _ => False) w w' := by
 obtain ⟨h1, h2, h3⟩ := octD_val k hk
 have h := parse_oct_in (octD k) h1 (by simp [octD, hexB]) h3 (by simp [octD, hexB]) w
 rw [h2] at h
 exact strconv_ParseUint _ _ _ _ w h
end Go.Proofs.YtonegoemmologaaGreatDoor
