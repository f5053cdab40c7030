/-
  strconv.AppendUint in base 16, onto a slice that is owned.
-/
import Derived.Test.YtmijjppjodpagaaGreatDoorM01
import Derived.Test.YtmijjppjodpagaaGreatDoorM15
import Derived.Deep.RegionLaw
set_option linter.unusedVariables false
set_option linter.unusedSimpArgs false
namespace Go.Proofs.YtmijjppjodpagaaGreatDoor
open Go.RowKit

theorem ctz16 : Lib.ctz 64 16 = 4 := by decide

theorem digit_at (m : Nat) (h : m < 16) (w : World) : (Instr.index 9 (.string ⟨#[48, 49, 50, 51, 52, 53, 54, 55, 56, 57, 97, 98, 99, 100, 101, 102, 103, 104, 105, 106, 107, 108, 109, 110, 111, 112, 113, 114, 115, 116, 117, 118, 119, 120, 121, 122]⟩) (.int .u64 (m : Int))).run Tryz.prog w = .ok (.int .u8 ((hexc m).toNat : Int)) w := by
  rw [run_index_string w 9 _ .u64 m Tryz.underlying9]
  have : m = 0 ∨ m = 1 ∨ m = 2 ∨ m = 3 ∨ m = 4 ∨ m = 5 ∨ m = 6 ∨ m = 7 ∨ m = 8 ∨ m = 9 ∨ m = 10 ∨ m = 11 ∨ m = 12 ∨ m = 13 ∨ m = 14 ∨ m = 15 := by omega
  rcases this with rfl | rfl | rfl | rfl | rfl | rfl | rfl | rfl | rfl | rfl | rfl | rfl | rfl | rfl | rfl | rfl <;> rfl

theorem run_arr65 (b j : Nat) (hj : j < 65) (w : World) : (Instr.sliceAt 198 (.pointer (some ⟨b, 0, none⟩)) (some (.int .i64 (j : Int))) none none).run Tryz.prog w = .ok (.slice (some ⟨b, j, none⟩) (65 - j) (65 - j)) w := by
  obtain ⟨i0, hi, hz0, hz1, hz2⟩ := info_parts info5
  have h1 := run_sliceBound (P := Tryz.prog) w .i64 (j : Int) 65 .sliceB (by omega) (by omega)
  have hne : ¬ 65 = j := by omega
  simp [Instr.sliceAt, Instr.sureAddr, Instr.sliceBounds, run_underlying Tryz.underlying198, h1, sizeOf, typeInfo, hi, hz1, hne, Addr.add_lit]

/-- What holds at the head of each round: the digits ds are laid from k on; m is left. -/
def HexRel (B : World) (v0 v : Value) (l : List UInt8) (n D : Nat) (u i : Value) (wr : World) : Prop :=
  ∃ (m k : Nat) (cur : Array Value) (ds : List UInt8), u = .int .u64 (m : Int) ∧ i = .int .i64 (k : Int) ∧ 49 < k ∧ k ≤ 65 ∧ m < 16 ^ (k - 49) ∧ hexD n = hexF (k - 49) m ++ ds ∧
    wr.heap[D]? = some (.cells cur 198 (0, 0)) ∧ cur.size = 65 ∧ cur.toList.drop k = bv ds ∧ Out B v0 wr v l

theorem tz16 (w : World) (hT : Tabs w) : Calls Tryz.prog 136 #[.int .u64 16] w fun e w' => e = .returned (.int .i64 4) ∧ w = w' := by
  have h := Any7.bits_TrailingZeros Tryz.laysx27 16 (by decide) w (fun _ => hT.bruijn)
  rw [ctz16] at h
  exact h.mono fun e w' ⟨he, hb⟩ => ⟨he, hb.symm⟩

set_option maxRecDepth 100000 in
set_option maxHeartbeats 400000 in
theorem formatBits16 (B : World) (v0 v : Value) (l : List UInt8) (n : Nat) (hn : n < 18446744073709551616) (w : World) (hv : Out B v0 w v l) (hl : l.length ≤ 140737488355000) (hT : Tabs w) :
    Calls Tryz.prog 112 #[v, .int .u64 n, .int .i64 16, .bool false, .bool true] w fun e w' =>
      ∃ v', e = .returned (.tuple #[v', .string ⟨#[]⟩]) ∧ Out B v0 w' v' (l ++ hexD n) := by
  go_enter Tryz.func112, Tryz.ntmps112
  go_wp2_with (first | (go_at_call 135; go_in) | (go_at_call 136; refine (tz16 _ (hT.keeps ((Keeps.refl (fun _ => False) w).alloc _) (fun _ _ => id))).mono ?_; rintro e w' ⟨rfl, rfl⟩))
  have hD0 : Hid (B.heap.size ≤ w.heap.size) := hv.keeps.size
  have hDv : Hid (∀ k, v.ownBlock = some k → k < w.heap.size) := hv.own.lt
  have hz0 : Tryz.zeroCells198.size = 65 := by kernel_rfl
  have hz := Lib.hid hz0
  clear hz0
  go_loopw [1, 13] (fun u i wr => HexRel B v0 v l n w.heap.size u i wr) (fun _ i _ => (intOf i).toNat)
  case atStart =>
    exact ⟨n, 65, Tryz.zeroCells198, [], rfl, rfl, by decide, Nat.le_refl _, by simpa using hn, by rw [List.append_nil]; rfl, heap_alloc_new w _, hz.out, by rw [List.drop_eq_nil_of_le (by rw [Array.length_toList, hz.out]; exact Nat.le_refl _)]; rfl, hv.alloc _⟩
  case round =>
    obtain ⟨m, k, cur, ds, rfl, rfl, hk, hk65, hm, hd, hrow, hsz, hdr, hout⟩ := hrel
    obtain ⟨j, rfl⟩ : ∃ j, k = j + 1 := ⟨k - 1, by omega⟩
    have hjl : j < cur.size := by omega
    obtain ⟨old, hold⟩ : ∃ old, cur[j]? = some old := ⟨cur[j], Array.getElem?_eq_getElem hjl⟩
    have hcell : wr.cell? ⟨w.heap.size, j, none⟩ = some old := (cell_row hrow).trans hold
    have hfr : wr.frozen? ⟨w.heap.size, j, none⟩ = false := frozen_row hrow
    have hm64 : m < 18446744073709551616 := Nat.lt_of_lt_of_le hm (by
      rw [show (18446744073709551616 : Nat) = 16 ^ 16 from by decide]
      exact Nat.pow_le_pow_right (by decide) (by omega))
    by_cases h16 : m < 16
    · -- the last digit
      have hlt : ¬ (16 : Int) ≤ (m : Int) := by omega
      have hdig := fun w' => digit_at m h16 w'
      have HD := Lib.hid hd
      have HX := Lib.hid hdr
      have HO := Lib.hid hout
      have HR := Lib.hid hrow
      have HM : Hid (hexF (j + 1 - 49) m = [hexc m]) := by
        show hexF (j + 1 - 49) m = [hexc m]
        rw [show j + 1 - 49 = (j - 49) + 1 by omega, hexF, if_pos h16]
      clear hd hdr hout hrow hm
      obtain ⟨c, hc⟩ : ∃ c, hexc m = c := ⟨_, rfl⟩
      have HC := Lib.hid hc
      rw [hc] at hdig HM
      clear hc
      have HN := HO.out.set ⟨w.heap.size, j, none⟩ hD0.out (fun h => by have := hDv.out _ h; simp at this) (.int .u8 (c.toNat : Int))
      have HN' := Lib.hid HN
      clear HN
      have HB : BytesAt (wr.setCell ⟨w.heap.size, j, none⟩ (.int .u8 (c.toNat : Int))) (.slice (some ⟨w.heap.size, j, none⟩) (65 - j) (65 - j)) (c :: ds) := by
        have hr2 := setCell_row HR.out (j := j) (.int .u8 (c.toNat : Int))
        have hln : ds.length = 64 - j := by
          have := congrArg List.length HX.out
          rw [List.length_drop, Array.length_toList, hsz, bv_length] at this
          omega
        refine ⟨_, _, by rw [List.length_cons, hln, show 64 - j + 1 = 65 - j by omega], by simp; omega, by unfold maxLen; omega, .inr ⟨_, j, rfl, fun i hi => ?_⟩⟩
        rw [cell_row hr2]
        cases i with
        | zero => simp [hjl]
        | succ i =>
          rw [Array.getElem?_setIfInBounds_ne (by omega)]
          have h3 := congrArg (fun l => l[i]?) HX.out
          simp only [List.getElem?_drop, Array.getElem?_toList] at h3
          rw [show j + (i + 1) = j + 1 + i by omega, h3]
          simp only [List.getElem_cons_succ]
          exact bv_get (by simpa using hi)
      have hlen : l.length + (c :: ds).length ≤ 140737488355328 := by
        have := congrArg List.length HX.out
        rw [List.length_drop, Array.length_toList, hsz, bv_length] at this
        rw [List.length_cons]
        omega
      have HB' := Lib.hid HB
      clear HB
      have hsl := fun w' => run_arr65 w.heap.size j (by omega) w'
      go_wp2_with (at_builtin; refine at_out_app HN'.out (.tmp 95) (.tmp 97) HB'.out hlen rfl rfl rfl rfl ?_; intro v' w' ho)
      go_ret2
      exact ⟨_, rfl, by rw [HD.out, HM.out]; simpa using ho⟩
    · have hge : (16 : Int) ≤ (m : Int) := by omega
      obtain ⟨d, hd16⟩ : ∃ d, m % 16 = d := ⟨_, rfl⟩
      have hd16' : d < 16 := by omega
      have hbits : bits BinOp.and IntKind.u64 (m : Int) 15 = (d : Int) := by
        have := bits_mask .u64 64 (by decide) (fun x h0 h1 => by rw [IntKind.wrap_u64]; omega) 4 (by decide) (m : Int) (by omega) (by omega)
        rw [show ((2 : Int) ^ 4 - 1) = 15 from by decide] at this
        rw [this]; omega
      have hdig := fun w' => digit_at d hd16' w'
      have HD := Lib.hid hd
      have HX := Lib.hid hdr
      have HO := Lib.hid hout
      have HR := Lib.hid hrow
      have H16 := Lib.hid hd16
      have HM := Lib.hid hm
      clear hd hdr hout hrow hd16 hm
      obtain ⟨c, hc⟩ : ∃ c, hexc d = c := ⟨_, rfl⟩
      have HC := Lib.hid hc
      rw [hc] at hdig
      clear hc
      go_wp2
      go_roundw
      case rel =>
        refine ⟨m / 16, j, cur.setIfInBounds j (.int .u8 (c.toNat : Int)), c :: ds, by go_num, rfl, ?_, by omega, ?_, ?_, setCell_row HR.out _, by simpa using hsz, ?_, HO.out.set ⟨w.heap.size, j, none⟩ hD0.out (fun h => by have := hDv.out _ h; simp at this) _⟩
        · have h3 := HM.out
          rcases Nat.lt_or_ge 49 j with h4 | h4
          · exact h4
          · rw [show j + 1 - 49 = 1 by omega] at h3
            omega
        · have h3 := HM.out
          have h5 := H16.out
          rcases Nat.lt_or_ge 49 j with h4 | h4
          · rw [show j + 1 - 49 = (j - 49) + 1 by omega, Nat.pow_succ] at h3
            exact Nat.div_lt_of_lt_mul (by rw [Nat.mul_comm]; exact h3)
          · rw [show j + 1 - 49 = 1 by omega] at h3
            omega
        · rw [HD.out]
          rcases Nat.lt_or_ge 49 j with h4 | h4
          · rw [show j + 1 - 49 = (j - 49) + 1 by omega, hexF, if_neg h16, H16.out, HC.out]
            simp
          · have h3 := HM.out
            rw [show j + 1 - 49 = 1 by omega] at h3
            omega
        · rw [Array.toList_setIfInBounds, List.drop_eq_getElem_cons (by simpa using hjl), List.getElem_set_self, List.drop_set_of_lt (by omega), HX.out]
          rfl
      case measure => simp [intOf]

set_option maxHeartbeats 400000 in
theorem appendHex (B : World) (v0 v : Value) (l : List UInt8) (n : Nat) (hn : n < 18446744073709551616) (w : World) (hv : Out B v0 w v l) (hl : l.length ≤ 140737488355000) (hT : Tabs w) :
    Calls Tryz.prog 60 #[v, .int .u64 n, .int .i64 16] w (OutRes B v0 (l ++ hexD n)) := by
  go_enter Tryz.func60, Tryz.ntmps60
  go_wp2_with (first | (go_at_call 82; go_in) | (go_at_call 112; refine (formatBits16 B v0 v l n hn w hv hl hT).mono ?_; rintro e w' ⟨v', rfl, ho⟩; clear hv))
  go_ret
  exact ⟨_, rfl, ho⟩
end Go.Proofs.YtmijjppjodpagaaGreatDoor
