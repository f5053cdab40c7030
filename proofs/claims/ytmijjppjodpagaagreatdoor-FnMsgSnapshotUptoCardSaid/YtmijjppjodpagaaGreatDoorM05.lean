/-
  numDigits, formatBase10 and setDigits: total, and functions of their numbers.
  Strings from bytes and back; slices that are either a piece of something older without room, or owned.
  fmtEFG: the first n cells of a buffer, and slices of it.
-/
import Derived.Test.YtmijjppjodpagaaGreatDoorM02
import Derived.Test.YtmijjppjodpagaaGreatDoorM04
import Derived.Deep.DeepCutAuto
import Derived.Lib.ItoaLen
import Derived.BigQuiet
import Derived.Test.YtmijjppjodpagaaGreatDoorM01
import Derived.Lib.ConvBytes
import Derived.Lib.SlBytesRow
import Derived.Shelf.Bytes.SlSmallAll
set_option linter.unusedVariables false
set_option linter.unusedSimpArgs false
namespace Go.Proofs.YtmijjppjodpagaaGreatDoor
open Go.RowKit

/-- The table of the powers of ten that fit 64 bits. -/
def Ten (w : World) : Prop := Lib.TabIs Tryz.prog w "internal/strconv.uint64pow10" .u64 Lib.pow10Tab
theorem gTen : Tryz.prog.globalNamed "internal/strconv.uint64pow10" = some 5 := by kernel_rfl
theorem Ten.keeps {S : Nat → Prop} {w w' : World} (h : Ten w) (hk : Keeps S w w') (hs : ¬ S 5) : Ten w' := by
  unfold Ten Lib.TabIs World.var? at h ⊢
  rw [gTen] at h ⊢
  simp only [Option.bind_some] at h ⊢
  have hlt : 5 < w.heap.size := by
    rcases Nat.lt_or_ge 5 w.heap.size with h' | h'
    · exact h'
    · rw [Array.getElem?_eq_none h'] at h; cases h
  rw [hk.block _ hlt hs]
  exact h
theorem tenLen : Lib.pow10Tab.length = 20 := by decide
theorem Ten.cell {w : World} (h : Ten w) (i : Nat) (hi : i < 20) : w.cell? ⟨5, i, none⟩ = some (.int .u64 (Lib.pow10Tab.getD i 0)) :=
  Lib.TabIs.cell h gTen i (by rw [tenLen]; exact hi)

set_option maxRecDepth 1000000 in
theorem bool2i_any (b : Bool) (w : World) : Calls Tryz.prog 134 #[.bool b] w fun e w' => e = .returned (.int .i64 (if b then 1 else 0)) ∧ w' = w := by
  go_enter Tryz.func134, Tryz.ntmps134
  cases b
  all_goals go_wp2_with (fail)
  all_goals go_ret
  all_goals exact ⟨rfl, rfl⟩
set_option maxRecDepth 1000000 in
set_option maxHeartbeats 4000000 in
/-- numDigits: how many digits hold d. -/
theorem numDigits_ex (d : Nat) (hd : d < 18446744073709551616) : ∃ nd : Nat, nd ≤ 20 ∧ d < 10 ^ nd ∧ ∀ w, Ten w → Calls Tryz.prog 110 #[.int .u64 (d : Int)] w fun e w' => e = .returned (.int .i64 (nd : Int)) ∧ w' = w := by
  by_cases h0 : d = 0
  · subst h0
    refine ⟨0, by omega, by decide, fun w hT => ?_⟩
    have L := Lib.hid (len64_any 0 (by omega))
    have G := Lib.hid (log10_any 0 (by omega) (by omega))
    have t0 := hT.cell 0 (by omega)
    have hb : Lib.bitLen 0 = 0 := by decide
    have hp : Lib.pow10Tab.getD 0 0 = 1 := by decide
    rw [hp] at t0
    go_enter Tryz.func110, Tryz.ntmps110
    go_wp2_with (first
      | (go_at_call 133; refine (L.out _).mono ?_; rintro en w' ⟨rfl, rfl⟩; rw [hb])
      | (go_at_call 132; refine (G.out _).mono ?_; rintro en w' ⟨rfl, rfl⟩)
      | (go_at_call 134; refine (bool2i_any _ _).mono ?_; rintro en w' ⟨rfl, rfl⟩))
    go_ret
    exact ⟨rfl, rfl⟩
  · exact ⟨Lib.nDigits d, Lib.nDigits_le20 d hd, Lib.lt_pow_nDigits d, fun w hT => Any.internal_strconv_numDigits Tryz.laysM284 d (by omega) hd w hT⟩

/-- The first of n cells behind which all hold '0'. -/
def strip : Nat → (Nat → UInt8) → Nat
  | 0, _ => 0
  | n + 1, f => if f n = 48 then strip n f else n + 1
theorem strip_succ (n : Nat) (f : Nat → UInt8) : strip (n + 1) f = if f n = 48 then strip n f else n + 1 := rfl
theorem strip_le : ∀ n f, strip n f ≤ n
  | 0, _ => Nat.le_refl _
  | n + 1, f => by
    unfold strip
    split
    · exact Nat.le_succ_of_le (strip_le n f)
    · exact Nat.le_refl _
def encU8 : UInt8 → Value := fun b => .int .u8 (b.toNat : Int)
theorem putRow_keeps (w : World) (B n : Nat) (d : Array UInt8) : Keeps (fun k => k = B) w ((Go.Sort.putRow encU8 w B 0 d).drewN n) := by
  refine ⟨rfl, rfl, rfl, ?_, fun k hk hn => ?_⟩
  · simp [Go.Sort.putRow, Go.Sort.mapBlock, World.drewN]
  · have h2 : ¬ B = k := fun e => hn e.symm
    simp [Go.Sort.putRow, Go.Sort.mapBlock, World.drewN, Array.getElem?_modify, h2]
/-- A buffer of n cells that all hold 0. -/
def ZeroRow (w : World) (B n : Nat) : Prop := ∃ T, w.heap[B]? = some (.cells (Array.replicate n (.int .u8 0)) T (0, 0))
theorem fmt10_any (d nd : Nat) (hd : d < 18446744073709551616) (hn : nd ≤ 20) (hlt : d < 10 ^ nd) (w : World) (B cap : Nat) (hz : ZeroRow w B 32) :
    Calls Tryz.prog 111 #[.slice (some ⟨B, 0, none⟩) nd cap, .int .u64 (d : Int)] w fun e w' => e = .returned (.tuple #[]) ∧ Keeps (fun k => k = B) w w' ∧ ∀ j, j < nd → w'.cell? ⟨B, j, none⟩ = some (.int .u8 ((Lib.dg d (nd - 1 - j)).toNat : Int)) := by
  obtain ⟨T, hrow⟩ := hz
  have hsz : (Array.replicate nd (0 : UInt8)).size = nd := Array.size_replicate
  have hH : Go.Sort.Holds encU8 w B 0 (Array.replicate nd 0) := by
    intro j hj
    rw [hsz] at hj
    constructor
    · rw [cell_row hrow]
      simp [encU8, hj, show j < 32 by omega]
    · exact frozen_row hrow
  have h := Any.internal_strconv_formatBase10 Tryz.lays285 B 0 cap d (Array.replicate nd 0) w hH (by rw [hsz]; exact hlt) hd (by rw [hsz]; omega)
  rw [hsz] at h
  refine h.mono ?_
  rintro e w' ⟨he, n, v', dk, hw, hf⟩
  subst hw
  refine ⟨he, putRow_keeps w B n dk, fun j hj => ?_⟩
  have hc := Go.Sort.cell?_putRow encU8 w B 0 (Array.replicate nd 0) dk hH (by rw [hsz]; exact hf.size) j (by rw [hf.size]; exact hj)
  rw [Nat.zero_add] at hc
  have hc2 : ((Go.Sort.putRow encU8 w B 0 dk).drewN n).cell? ⟨B, j, none⟩ = (Go.Sort.putRow encU8 w B 0 dk).cell? ⟨B, j, none⟩ := rfl
  rw [show (fun b : UInt8 => Value.int .u8 (b.toNat : Int)) = encU8 from rfl, hc2, hc, hf.done j (by omega) hj]
  rfl

set_option maxRecDepth 1000000 in
set_option maxHeartbeats 8000000 in
theorem setDigits_any (d nd : Nat) (p : Int) (hd : d < 18446744073709551616) (hn : nd ≤ 20) (hlt : d < 10 ^ nd) (hp : -500 ≤ p) (hp2 : p ≤ 500) (w : World) (B : Nat) (hz : ZeroRow w B 32) :
    Calls Tryz.prog 162 #[.slice (some ⟨B, 0, none⟩) 32 32, .int .u64 (d : Int), .int .i64 p, .int .i64 (nd : Int)] w fun e w' => e = .returned (.tuple #[.int .i64 ((nd : Int) + p), .int .i64 (strip nd (fun j => Lib.dg d (nd - 1 - j)) : Nat)]) ∧ Keeps (fun k => k = B) w w' ∧ ∀ j, j < nd → w'.cell? ⟨B, j, none⟩ = some (.int .u8 ((Lib.dg d (nd - 1 - j)).toNat : Int)) := by
  have F := Lib.hid (fmt10_any d nd hd hn hlt w B 32 hz)
  have S1 := run_sto (some ⟨B, 0, none⟩) 32 32 nd (by omega)
  have hle : (nd : Int) ≤ 32 := by omega
  obtain ⟨f, hf⟩ : ∃ f : Nat → UInt8, (fun j => Lib.dg d (nd - 1 - j)) = f := ⟨_, rfl⟩
  have hff : ∀ j, Lib.dg d (nd - 1 - j) = f j := fun j => congrFun hf j
  rw [hf]
  clear hf hz
  go_enter Tryz.func162, Tryz.ntmps162
  go_wp2_with (go_at_call 111; refine F.out.mono ?_; rintro en w1 ⟨rfl, k1, c1⟩; have K1 := Lib.hid k1; have C1 := Lib.hid c1; clear k1 c1 S1)
  go_loopw [3] (fun s wr => ∃ k : Nat, s = .int .i64 (k : Int) ∧ k ≤ nd ∧ strip k f = strip nd f ∧ Keeps (fun _ => False) w1 wr) (fun s _ => natOfV s)
  case atStart => exact ⟨nd, rfl, Nat.le_refl _, rfl, Keeps.refl _ _⟩
  case round =>
    obtain ⟨k, rfl, hk, hs, hkk⟩ := hrel
    have HS := Lib.hid hs
    have HK := Lib.hid hkk
    clear hs hkk
    cases k with
    | zero =>
      go_wp2_with (fail)
      go_ret2
      rw [← HS.out]
      exact ⟨rfl, K1.out.trans HK.out (fun _ _ h => h.elim), fun j hj => by rw [hff]; exact HK.out.cell (by rw [← hff]; exact C1.out j hj) id⟩
    | succ k =>
      have c0 := HK.out.cell (C1.out k (by omega)) id
      rw [hff] at c0
      have hk0 : (0 : Int) < ((k + 1 : Nat) : Int) := by omega
      have hk1 : ((k + 1 : Nat) : Int) - 1 = (k : Int) := by omega
      have hk2 : (k : Int) < 32 := by omega
      have HFF := Lib.hid hff
      clear hff
      by_cases h48 : f k = 48
      · rw [h48] at c0
        go_wp2_with (fail)
        go_roundw
        case rel => exact ⟨k, rfl, by omega, by rw [← HS.out]; rw [strip_succ, if_pos h48], HK.out⟩
        case measure => simp [natOfV]
      · have h49 : (((f k).toNat : Int) == 48) = false := by
          simp
          intro h
          apply h48
          apply UInt8.toNat_inj.1
          rw [show (48 : UInt8).toNat = 48 from rfl]
          omega
        go_wp2_with (fail)
        go_ret2
        rw [← HS.out]
        rw [strip_succ, if_neg h48]
        exact ⟨rfl, K1.out.trans HK.out (fun _ _ h => h.elim), fun j hj => by rw [HFF.out]; exact HK.out.cell (by rw [← HFF.out]; exact C1.out j hj) id⟩
end Go.Proofs.YtmijjppjodpagaaGreatDoor

namespace Go.Proofs.YtmijjppjodpagaaGreatDoor
open Go.RowKit

theorem mk_nil : mk [] = ⟨#[]⟩ := rfl

/-- '[]byte(s)'. -/
theorem run_to_bytes (l : List UInt8) (hl : l.length ≤ maxLen) (w : World) : ∃ c w', (convert 9 31 (.string (mk l))).run Tryz.prog w = .ok (.slice (some ⟨w.heap.size, 0, none⟩) l.length c) w' ∧
    BytesAt w' (.slice (some ⟨w.heap.size, 0, none⟩) l.length c) l ∧ Keeps (fun _ => False) w w' := by
  refine ⟨_, _, Lib.run_convert_string_bytes w 9 31 5 (mk l) Tryz.underlying9 Tryz.underlying31 Tryz.underlying5, ⟨_, _, rfl, grownCap_ge w l.length 0 5, grownCap_le_maxLen w l.length 0 5 hl, .inr ⟨_, 0, rfl, fun j hj => ?_⟩⟩, ⟨rfl, rfl, rfl, ?_, fun k hk _ => Lib.bytesWorld_at_old w _ _ k hk⟩⟩
  · rw [Nat.zero_add, Lib.bytesWorld_cell w _ _ j (by rw [mk_size]; exact hj), mk_data, List.getD, List.getElem?_eq_getElem hj]
    rfl
  · rw [Lib.bytesWorld_size]; omega

/-- 'string(b)'. -/
theorem run_to_str {w : World} {v : Value} {l : List UInt8} (h : BytesAt w v l) : (convert 31 9 v).run Tryz.prog w = .ok (.string (mk l)) w := by
  obtain ⟨a, c, rfl, hc, hm, h⟩ := h
  by_cases hl : l = []
  · subst hl
    exact run_convert_bytes_zero w 31 5 Tryz.underlying31 Tryz.underlying5 a c 9 Tryz.underlying9
  · obtain ⟨b, off, rfl, hx⟩ := h.resolve_left hl
    exact Lib.run_convert_whole w 31 5 9 Tryz.underlying31 Tryz.underlying5 Tryz.underlying9 b off (mk l) (fun i hi => hx i hi) c

theorem BytesAt.cell {w : World} {b off n c : Nat} {l : List UInt8} (h : BytesAt w (.slice (some ⟨b, off, none⟩) n c) l) : n = l.length ∧ ∀ j (hj : j < l.length), w.cell? ⟨b, off + j, none⟩ = some (.int .u8 (l[j].toNat : Int)) := by
  obtain ⟨a, c', hv, _, _, h⟩ := h
  simp only [Value.slice.injEq] at hv
  obtain ⟨rfl, rfl, rfl⟩ := hv
  refine ⟨rfl, fun j hj => ?_⟩
  rcases h with rfl | ⟨b', off', ha, h⟩
  · simp at hj
  · cases ha
    exact h j hj

theorem keeps_freeze (w : World) (p : Addr) (n : Nat) : Keeps (fun j => j = p.block) w (w.freeze p n) := by
  unfold World.freeze
  split
  · exact Keeps.refl _ _
  · refine ⟨rfl, rfl, rfl, by simp, fun k hk hne => ?_⟩
    simp only [Array.getElem?_modify]
    rw [if_neg (fun e => hne e.symm)]
theorem row_freeze {w : World} {g : Nat} {cs : Array Value} {T : TypeId} {fr : Nat × Nat} (h : w.heap[g]? = some (.cells cs T fr)) (o n : Nat) : ∃ fr', (w.freeze ⟨g, o, none⟩ n).heap[g]? = some (.cells cs T fr') := by
  unfold World.freeze
  split
  · exact ⟨fr, h⟩
  · obtain ⟨lo, hi⟩ := fr
    simp only [Array.getElem?_modify, if_true, h, Option.map_some]
    exact ⟨_, rfl⟩
/-- A conversion from bytes to bytes: the row may be marked as a string's. -/
theorem conv_mark (g n c : Nat) (cs : Array Value) (T : TypeId) (w : World) (hrow : w.heap[g]? = some (.cells cs T (0, 0))) :
    ∃ w' fr, (convert 31 31 (.slice (some ⟨g, 0, none⟩) n c)).run Tryz.prog w = .ok (.slice (some ⟨g, 0, none⟩) n c) w' ∧ w'.heap[g]? = some (.cells cs T fr) ∧ Keeps (fun j => j = g) w w' := by
  unfold convert
  simp [run_underlying Tryz.underlying31, run_underlying Tryz.underlying5, markStringish, Sem.run_bind]
  split
  · obtain ⟨⟨lo, hi⟩, h⟩ := row_freeze hrow _ 1
    exact ⟨_, rfl, ⟨_, _, h⟩, keeps_freeze w ⟨g, _, none⟩ 1⟩
  · exact ⟨_, rfl, ⟨_, _, hrow⟩, Keeps.refl _ _⟩

end Go.Proofs.YtmijjppjodpagaaGreatDoor

namespace Go.Proofs.YtmijjppjodpagaaGreatDoor
open Go.RowKit
/-- The first n cells of block B hold f. -/
def Digs (w : World) (B n : Nat) (f : Nat → UInt8) : Prop := ∀ j, j < n → w.cell? ⟨B, j, none⟩ = some (.int .u8 ((f j).toNat : Int))
theorem run_sl1 (B nd : Nat) (hn : 1 ≤ nd) (hn2 : nd ≤ 20) (w : World) : (Instr.slice 31 (.slice (some ⟨B, 0, none⟩) 32 32) (some (.int .i64 1)) (some (.int .i64 (nd : Int))) none).run Tryz.prog w = .ok (.slice (some ⟨B, 1, none⟩) (nd - 1) 31) w := by
  obtain ⟨i0, hi, hz0, hz1, hz2⟩ := info_parts info5
  have h1 := run_sliceBound (P := Tryz.prog) w .i64 (nd : Int) 32 .sliceAcap (by omega) (by omega)
  have h2 := run_sliceBound (P := Tryz.prog) w .i64 1 nd .sliceB (by omega) (by omega)
  simp [Instr.slice, Instr.sliceBounds, run_underlying Tryz.underlying31, h1, h2, sizeOf, typeInfo, hi, hz1, Addr.add]
theorem u8_of (k : Nat) (h : k < 256) : ∃ c : UInt8, (c.toNat : Int) = (k : Int) := ⟨UInt8.ofNat k, by rw [UInt8.toNat_ofNat_of_lt' (by simpa using h)]⟩
end Go.Proofs.YtmijjppjodpagaaGreatDoor
