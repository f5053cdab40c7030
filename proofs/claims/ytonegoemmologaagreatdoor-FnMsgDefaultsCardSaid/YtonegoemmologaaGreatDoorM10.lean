/-
  How the text form writes a string and reads it back: plain functions on lists of bytes; no program is named here.
  Contracts of Go's library at the numbers of this seat: written by the shelf's tool in plain words.
  The contracts of Go's library that the texts use, in these texts' own words.
  indexNeedEscapeInString and indexNeedEscapeInBytes of the text form: how many plain bytes are at the head.
  strconv.ParseUint in base 16, of digits that the text form writes.
-/
import Derived.Lib.DecodeN
import Derived.Lib.SpaceUEq
import Derived.Lib.QuoteLoop
import Derived.Lib.TrimU
import Derived.Shelf.Small.Bits
import Derived.Shelf.Unicode.DecodeAny
import Derived.Shelf.Spec.DecodeRune
import Derived.Shelf.Spec.TrailingZeros
import Derived.Test.YtonegoemmologaaGreatDoorProg
import Derived.Test.YtonegoemmologaaGreatDoorM01
import Derived.Test.YtonegoemmologaaGreatDoorM02
set_option linter.unusedVariables false
set_option linter.unusedSimpArgs false
namespace Go.Proofs.YtonegoemmologaaGreatDoor
def plainC (c : UInt8) : Bool := !(decide (c.toNat < 32) || c.toNat == 34 || c.toNat == 39 || c.toNat == 92 || decide (127 ≤ c.toNat))
def pre (l : List UInt8) : Nat := (l.takeWhile plainC).length
def gd (l : List UInt8) (i : Nat) : Nat := (l.getD i 0).toNat
def dec (l : List UInt8) : Nat × Nat := if l.length = 0 then (65533, 0) else Lib.decodeN l.length (gd l 0) (gd l 1) (gd l 2) (gd l 3)
def hexc (n : Nat) : UInt8 := if n < 10 then UInt8.ofNat (48 + n) else UInt8.ofNat (87 + n)
def hexF : Nat → Nat → List UInt8
 | 0, _ => []
 | k + 1, n => if n < 16 then [hexc n] else hexF k (n / 16) ++ [hexc (n % 16)]
def hexD (n : Nat) : List UInt8 := hexF 16 n
def hexP (k n : Nat) : List UInt8 := List.replicate (k - (hexD n).length) 48 ++ hexD n
def encStep (ascii : Bool) (l : List UInt8) : List UInt8 × Nat :=
 let r := (dec l).1
 let n := (dec l).2
 if r = 65533 ∧ n = 1 then (92 :: 120 :: hexP 2 (gd l 0), 1)
 else if r = 34 ∨ r = 92 then ([92, UInt8.ofNat r], n)
 else if r = 10 then ([92, 110], n)
 else if r = 13 then ([92, 114], n)
 else if r = 9 then ([92, 116], n)
 else if r < 32 ∨ r = 127 then (92 :: 120 :: hexP 2 r, n)
 else if 128 ≤ r ∧ (ascii = true ∨ r ≤ 159) then
  (if r ≤ 65535 then 92 :: 117 :: hexP 4 r else 92 :: 85 :: hexP 8 r, n)
 else (l.take (n + pre (l.drop n)), n + pre (l.drop n))
def encF (ascii : Bool) : Nat → List UInt8 → List UInt8
 | 0, _ => []
 | k + 1, l => if l.length = 0 then [] else (encStep ascii l).1 ++ encF ascii k (l.drop (encStep ascii l).2)
def enc (ascii : Bool) (l : List UInt8) : List UInt8 := l.take (pre l) ++ encF ascii l.length (l.drop (pre l))
theorem dec_ascii (l : List UInt8) (h : l.length ≠ 0) : ((dec l).1 < 128 ↔ gd l 0 < 128) ∧ (gd l 0 < 128 → dec l = (gd l 0, 1)) := by
 unfold dec
 rw [if_neg h]
 unfold Lib.decodeN
 by_cases h0 : gd l 0 < 128
 · rw [if_pos h0]; exact ⟨by simp, fun _ => rfl⟩
 · rw [if_neg h0]
   refine ⟨⟨fun h1 => ?_, fun h1 => absurd h1 h0⟩, fun h1 => absurd h1 h0⟩
   exfalso
   revert h1
   repeat' split
   all_goals (simp only; omega)
def encL (ascii : Bool) (l : List UInt8) : List UInt8 := encF ascii l.length l
end Go.Proofs.YtonegoemmologaaGreatDoor
namespace Go.Proofs
open Go.Shelf
def Tryz.laysx32_ren : Go.Shelf.Ren := ⟨fun | 32 => 125 | 49 => 168 | n => n, fun | 30 => 72 | 21 => 21 | 3 => 3 | 0 => 0 | 5 => 5 | 4 => 4 | 33 => 199 | 66 => 270 | 25 => 137 | 69 => 273 | 68 => 272 | n => n, fun | 2 => 15 | 3 => 16 | n => n⟩
theorem Tryz.laysx32 : Go.Proofs.Lays7.n32 Tryz.prog Tryz.laysx32_ren := {
 mixed := by kernel_rfl
 f32 := Tryz.func125.trans (congrArg some (by kernel_rfl))
 f49 := Tryz.func168.trans (congrArg some (by kernel_rfl))
 t0 := Tryz.underlying0
 a0 := Tryz.isAgg0
 z0 := Tryz.sizeOf0
 v0 := Tryz.zeroValue0
 i0 := by kernel_rfl
 t3 := Tryz.underlying3
 a3 := Tryz.isAgg3
 z3 := Tryz.sizeOf3
 v3 := Tryz.zeroValue3
 i3 := by kernel_rfl
 t4 := Tryz.underlying4
 a4 := Tryz.isAgg4
 z4 := Tryz.sizeOf4
 v4 := Tryz.zeroValue4
 i4 := by kernel_rfl
 t5 := Tryz.underlying5
 a5 := Tryz.isAgg5
 z5 := Tryz.sizeOf5
 v5 := Tryz.zeroValue5
 i5 := by kernel_rfl
 t21 := Tryz.underlying21
 a21 := Tryz.isAgg21
 z21 := Tryz.sizeOf21
 v21 := Tryz.zeroValue21
 i21 := by kernel_rfl
 t25 := Tryz.underlying137
 a25 := Tryz.isAgg137
 z25 := Tryz.sizeOf137
 v25 := Tryz.zeroValue137
 i25 := by kernel_rfl
 t30 := Tryz.underlying72
 a30 := Tryz.isAgg72
 z30 := Tryz.sizeOf72
 v30 := Tryz.zeroValue72
 i30 := by kernel_rfl
 t33 := Tryz.underlying199
 a33 := Tryz.isAgg199
 z33 := Tryz.sizeOf199
 v33 := Tryz.zeroValue199
 i33 := by kernel_rfl
 t66 := Tryz.underlying270
 a66 := Tryz.isAgg270
 z66 := Tryz.sizeOf270
 t68 := Tryz.underlying272
 a68 := Tryz.isAgg272
 z68 := Tryz.sizeOf272
 v68 := Tryz.zeroValue272
 i68 := by kernel_rfl
 t69 := Tryz.underlying273
 a69 := Tryz.isAgg273
 z69 := Tryz.sizeOf273
 v69 := Tryz.zeroValue273
 i69 := by kernel_rfl
 g2 := by kernel_rfl
 g3 := by kernel_rfl }
end Go.Proofs
namespace Go.Proofs.YtonegoemmologaaGreatDoor
open Go.RowKit
structure Tabs (w : World) : Prop where
 utf8 : Lib.Utf8Tabs 15 16 w
 bruijn : TabAt 9 Lib.deBruijn64tab w
 size : 17 ≤ w.heap.size
theorem Tabs.keeps {S : Nat → Prop} {w w' : World} (h : Tabs w) (hk : Keeps S w w') (hS : ∀ k, k < 17 → ¬ S k) : Tabs w' :=
 ⟨⟨fun c hc => hk.cell (h.utf8.1 c hc) (hS 15 (by decide)), fun i hi => ⟨hk.cell (h.utf8.2 i hi).1 (hS 16 (by decide)), hk.cell (h.utf8.2 i hi).2 (hS 16 (by decide))⟩⟩,
  fun j hj => hk.cell (h.bruijn j hj) (hS 9 (by decide)), Nat.le_trans h.size hk.size⟩
theorem decodeGo_mk (l : List UInt8) : Lib.decodeGo (mk l) = dec l := by
 unfold Lib.decodeGo dec
 rw [mk_size]
 split
 · rfl
 · have hg : ∀ i, (mk l).get! i = l.getD i 0 := by
    intro i
    by_cases hi : i < l.length
    · rw [Utf8W.get!_of_lt (mk l) i (by rw [mk_size]; exact hi), mk_get, List.getD, List.getElem?_eq_getElem hi]
      rfl
    · rw [List.getD, List.getElem?_eq_none (by omega)]
      unfold ByteArray.get! mk
      simp only
      rw [getElem!_neg _ _ (by simpa using hi)]
      rfl
   rw [Lib.decode_at, mk_size, hg, hg, hg, hg]
   rfl
theorem dec_bytes (v : Value) (l : List UInt8) (w : World) (hT : Tabs w) (hv : BytesAt w v l) (hn : l ≠ []) :
 Calls Tryz.prog 125 #[v] w fun e w' => e = .returned (.tuple #[.int .i32 ((dec l).1 : Nat), .int .i64 ((dec l).2 : Nat)]) ∧ Keeps (fun _ => False) w w' := by
 obtain ⟨a, c, rfl, hc, hm, hx'⟩ := hv
 obtain ⟨b, off, rfl, hx⟩ := hx'.resolve_left hn
 have h := Any7.utf8_DecodeRune Tryz.laysx32 (mk l) b off c w hT.utf8 (fun j hj => by
  rw [Utf8W.get!_of_lt (mk l) j hj, mk_get]
  exact hx j hj)
 rw [decodeGo_mk] at h
 exact h.mono fun e w' ⟨he, hb⟩ => ⟨he, Keeps.of_below hb⟩
end Go.Proofs.YtonegoemmologaaGreatDoor
namespace Go.Proofs.YtonegoemmologaaGreatDoor
open Go.RowKit
theorem pre_le (l : List UInt8) : pre l ≤ l.length := by
 unfold pre
 exact (List.takeWhile_sublist _).length_le
theorem pre_drop_cons {c : UInt8} {l : List UInt8} : pre (c :: l) = if plainC c then pre l + 1 else 0 := by
 unfold pre
 rw [List.takeWhile_cons]
 split <;> simp
theorem pre_step (l : List UInt8) (k : Nat) (hk : k < l.length) (hall : k ≤ pre l) : (plainC l[k] = true → k + 1 ≤ pre l) ∧ (plainC l[k] = false → pre l = k) := by
 induction l generalizing k with
 | nil => simp at hk
 | cons c l ih =>
  rw [pre_drop_cons] at hall ⊢
  cases k with
  | zero =>
   simp only [List.getElem_cons_zero]
   cases hc : plainC c <;> simp
  | succ k =>
   cases hc : plainC c
   · simp [hc] at hall
   · simp only [hc, if_true] at hall ⊢
     have := ih k (by simpa using hk) (by omega)
     simp only [List.getElem_cons_succ]
     exact ⟨fun h => by have := this.1 h; omega, fun h => by have := this.2 h; omega⟩
set_option maxHeartbeats 400000 in
theorem indexNeed_any (l : List UInt8) (hl : l.length ≤ 9223372036854775807) (w : World) :
 Calls Tryz.prog 166 #[.string (mk l)] w fun e w' => e = .returned (.int .i64 (pre l : Nat)) ∧ w = w' := by
 have hsz := mk_size l
 go_enter Tryz.func166, Tryz.ntmps166
 go_wp2
 go_loop [3] (fun i => ∃ k : Nat, k ≤ pre l ∧ i = .int .i64 (k : Int)) (fun i => l.length - (intOf i).toNat)
 case atStart => exact ⟨0, Nat.zero_le _, rfl⟩
 case round =>
  obtain ⟨k, hk, rfl⟩ := hrel
  have hpl := pre_le l
  by_cases hlt : k < l.length
  · have hst := pre_step l k hlt hk
    have hix := fun w' => run_at l k hlt w'
    obtain ⟨c, hc⟩ : ∃ c, l[k] = c := ⟨_, rfl⟩
    simp only [hc] at hix hst
    have HC := Lib.hid hc
    clear hc
    cases hp : plainC c with
    | true =>
     have hk1 := hst.1 hp
     have hb : ¬ c.toNat < 32 ∧ ¬ c.toNat = 34 ∧ ¬ c.toNat = 39 ∧ ¬ c.toNat = 92 ∧ ¬ 127 ≤ c.toNat := by simpa [plainC, and_assoc] using hp
     obtain ⟨b1, b2, b3, b4, b5⟩ := hb
     have t1 : ¬ (c.toNat : Int) < 32 := by omega
     have t2 : ((c.toNat : Int) == 34) = false := by simp; omega
     have t3 : ((c.toNat : Int) == 39) = false := by simp; omega
     have t4 : ((c.toNat : Int) == 92) = false := by simp; omega
     have t5 : ¬ (127 : Int) ≤ (c.toNat : Int) := by omega
     clear hst hp b1 b2 b3 b4 b5
     go_wp2
     go_round
     case rel => exact ⟨k + 1, hk1, by go_num⟩
     case measure => simp [intOf]; omega
    | false =>
     have hk1 := hst.2 hp
     have HK := Lib.hid hk1
     have hb : c.toNat < 32 ∨ c.toNat = 34 ∨ c.toNat = 39 ∨ c.toNat = 92 ∨ 127 ≤ c.toNat := by
      by_cases h1 : c.toNat < 32
      · exact .inl h1
      · by_cases h2 : c.toNat = 34
        · exact .inr (.inl h2)
        · by_cases h3 : c.toNat = 39
          · exact .inr (.inr (.inl h3))
          · by_cases h4 : c.toNat = 92
            · exact .inr (.inr (.inr (.inl h4)))
            · refine .inr (.inr (.inr (.inr ?_)))
              simpa [plainC, h1, h2, h3, h4] using hp
     clear hst hp hk1
     have fin : ∀ e W, (e = Ending.returned (.int .i64 (k : Nat)) ∧ w = W) → (e = Ending.returned (.int .i64 (pre l : Nat)) ∧ w = W) := fun e W h => by rw [HK.out]; exact h
     rcases hb with hb | hb | hb | hb | hb
     · have t1 : (c.toNat : Int) < 32 := by omega
       go_wp2
       go_ret
       exact ⟨by rw [HK.out]; rfl, rfl⟩
     · have t1 : (c.toNat : Int) = 34 := by omega
       clear hb
       go_wp2
       go_ret
       exact ⟨by rw [HK.out]; rfl, rfl⟩
     · have t1 : (c.toNat : Int) = 39 := by omega
       clear hb
       go_wp2
       go_ret
       exact ⟨by rw [HK.out]; rfl, rfl⟩
     · have t1 : (c.toNat : Int) = 92 := by omega
       clear hb
       go_wp2
       go_ret
       exact ⟨by rw [HK.out]; rfl, rfl⟩
     · have t1 : ¬ (c.toNat : Int) < 32 := by omega
       have t2 : ((c.toNat : Int) == 34) = false := by simp; omega
       have t3 : ((c.toNat : Int) == 39) = false := by simp; omega
       have t4 : ((c.toNat : Int) == 92) = false := by simp; omega
       have t5 : (127 : Int) ≤ (c.toNat : Int) := by omega
       clear hb
       go_wp2
       go_ret
       exact ⟨by rw [HK.out]; rfl, rfl⟩
  · have hge : l.length ≤ k := by omega
    have hkl : k = l.length := by omega
    subst hkl
    have HP : Hid (pre l = l.length) := Nat.le_antisymm (pre_le l) hk
    go_wp2
    go_ret
    exact ⟨by rw [HP.out]; rfl, rfl⟩
end Go.Proofs.YtonegoemmologaaGreatDoor
namespace Go.Proofs.YtonegoemmologaaGreatDoor
open Go.RowKit
def hexB (ds : List Nat) : List UInt8 := ds.map hexc
theorem hexc_nat (d : Nat) (h : d < 16) : (d < 10 ∧ (hexc d).toNat = 48 + d) ∨ (10 ≤ d ∧ (hexc d).toNat = 87 + d) := by
 have : d = 0 ∨ d = 1 ∨ d = 2 ∨ d = 3 ∨ d = 4 ∨ d = 5 ∨ d = 6 ∨ d = 7 ∨ d = 8 ∨ d = 9 ∨ d = 10 ∨ d = 11 ∨ d = 12 ∨ d = 13 ∨ d = 14 ∨ d = 15 := by omega
 rcases this with rfl | rfl | rfl | rfl | rfl | rfl | rfl | rfl | rfl | rfl | rfl | rfl | rfl | rfl | rfl | rfl <;> decide
end Go.Proofs.YtonegoemmologaaGreatDoor
