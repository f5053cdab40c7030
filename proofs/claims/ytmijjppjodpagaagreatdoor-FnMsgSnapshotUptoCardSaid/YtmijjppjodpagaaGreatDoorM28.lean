/-
  parseIdent of the text form, at a name and a colon.
  strconv.ParseUint in base 16, of digits that the text form writes.
-/
import Derived.Test.YtmijjppjodpagaaGreatDoorM27
import Derived.Test.YtmijjppjodpagaaGreatDoorM01
import Derived.Test.YtmijjppjodpagaaGreatDoorM15
import Derived.Test.YtmijjppjodpagaaGreatDoorM05
set_option linter.unusedVariables false
set_option linter.unusedSimpArgs false
namespace Go.Proofs.YtmijjppjodpagaaGreatDoor
open Go.RowKit

/-- A byte of a name. -/
def Letter (c : UInt8) : Prop := c.toNat = 95 ∨ (97 ≤ c.toNat ∧ c.toNat ≤ 122) ∨ (65 ≤ c.toNat ∧ c.toNat ≤ 90)

def IdRel (w : World) (nm X : List UInt8) (n s : Value) : Prop := ∃ r k, (∀ c ∈ r, Letter c) ∧ BytesAt w s (r ++ 58 :: X) ∧ k + r.length = nm.length ∧ n = .int .i64 (k : Nat)

set_option maxRecDepth 1000000 in
set_option maxHeartbeats 4000000 in
theorem parseIdent_any (v : Value) (nm X : List UInt8) (w : World) (h0 : nm ≠ []) (hl : ∀ c ∈ nm, Letter c) (hv : BytesAt w v (nm ++ 58 :: X)) (hlen : nm.length ≤ 1000000) :
    Calls Tryz.prog 141 #[v, .bool false] w fun e w' => e = .returned (.int .i64 (nm.length : Nat)) ∧ w = w' := by
  obtain ⟨x, t, rfl⟩ : ∃ x t, nm = x :: t := by cases nm with
    | nil => exact absurd rfl h0
    | cons x t => exact ⟨x, t, rfl⟩
  rw [List.cons_append] at hv
  obtain ⟨V1, hV1, hb1, _⟩ := hv.from 1 (by simp)
  obtain ⟨b, off, c, hvf, hcc, hcm, hx⟩ := hv.cons
  have hlt := hl x (by simp)
  have hl2 : ∀ c ∈ t, Letter c := fun c hc => hl c (by simp [hc])
  have HB := Lib.hid hb1
  have HL2 := Lib.hid hl2
  have HLN := Lib.hid hlen
  obtain ⟨n, hn⟩ : ∃ n, (t ++ 58 :: X).length = n := ⟨_, rfl⟩
  rw [hn] at hcc hvf
  subst hvf
  have hV1' : ∀ w', (Instr.slice 31 (.slice (some ⟨b, off, none⟩) (n + 1) c) (some (.int .i64 1)) none none).run Tryz.prog w' = .ok V1 w' := hV1
  clear hV1 hb1 hl hl2 hlen hv h0 hn
  go_enter Tryz.func141, Tryz.ntmps141
  have hx3 : x.toNat = 95 ∨ (97 ≤ x.toNat ∧ x.toNat ≤ 122) ∨ (65 ≤ x.toNat ∧ x.toNat ≤ 90) := hlt
  obtain ⟨d, hd⟩ : ∃ d, x.toNat = d := ⟨_, rfl⟩
  rw [hd] at hx hx3
  clear hd hlt
  rcases hx3 with rfl | ⟨h97, h122⟩ | ⟨h65, h90⟩
  · go_wp2
    go_loop [5, 6] (fun m s => IdRel w (x :: t) X m s) (fun _ s => lenOf s)
    case atStart => exact ⟨t, 1, HL2.out, HB.out, by simp; omega, rfl⟩
    case round =>
      clear hV1' hx hcc
      obtain ⟨r, k, hl3, hb, hk, rfl⟩ := hrel
      have HK := Lib.hid hk
      have hk1 : k ≤ 1000000 := by have := HLN.out; omega
      clear hk
      cases r with
      | nil =>
        rw [List.nil_append] at hb
        obtain ⟨b2, o2, c2, rfl, hcc2, hcm2, hx2⟩ := hb.cons
        have hx' : w.cell? ⟨b2, o2, none⟩ = some (.int .u8 58) := hx2
        clear hx2 hb hl3
        go_wp2_with (go_at_call 177; go_in)
        go_wp2
        go_ret
        have hke : (k : Int) = (t.length : Int) + 1 := by have h := HK.out; simp at h; omega
        exact ⟨by show Ending.returned (.int .i64 (k : Int)) = _; rw [hke], rfl⟩
      | cons y r =>
        rw [List.cons_append] at hb
        obtain ⟨V2, hV2, hb2, _⟩ := hb.from 1 (by simp)
        obtain ⟨b2, o2, c2, hf2, hcc2, hcm2, hx⟩ := hb.cons
        obtain ⟨m, hm⟩ : ∃ m, (r ++ 58 :: X).length = m := ⟨_, rfl⟩
        have hb2' : BytesAt w V2 (r ++ 58 :: X) := hb2
        obtain ⟨a3, c3, hf3, _, _⟩ := hb2'.form
        rw [hm] at hf2 hf3 hcc2
        subst hf2
        have HF3 := Lib.hid hf3
        have HB2 := Lib.hid hb2'
        have hl4 : Letter y := hl3 y (by simp)
        have HL3 := Lib.hid hl3
        have hV2' : ∀ w', (Instr.slice 31 (.slice (some ⟨b2, o2, none⟩) (m + 1) c2) (some (.int .i64 1)) none none).run Tryz.prog w' = .ok V2 w' := hV2
        clear hb hb2 hb2' hf3 hm hl3 hV2
        have hx3 : y.toNat = 95 ∨ (97 ≤ y.toNat ∧ y.toNat ≤ 122) ∨ (65 ≤ y.toNat ∧ y.toNat ≤ 90) := hl4
        obtain ⟨d, hd⟩ : ∃ d, y.toNat = d := ⟨_, rfl⟩
        rw [hd] at hx hx3
        clear hd hl4
        rcases hx3 with rfl | ⟨h97, h122⟩ | ⟨h65, h90⟩
        · go_wp2
          go_round
          case rel => exact ⟨r, k + 1, fun c hc => HL3.out c (by simp [hc]), HB2.out, by have h := HK.out; simp at h ⊢; omega, by simp⟩
          case measure => rw [HF3.out]; simp [lenOf]
        · have e1 : ((d : Int) == 95) = false := by simp; omega
          have e2 : (97 : Int) ≤ (d : Int) := by omega
          have e3 : (d : Int) ≤ 122 := by omega
          clear h97 h122
          go_wp2
          go_round
          case rel => exact ⟨r, k + 1, fun c hc => HL3.out c (by simp [hc]), HB2.out, by have h := HK.out; simp at h ⊢; omega, by simp⟩
          case measure => rw [HF3.out]; simp [lenOf]
        · have e1 : ((d : Int) == 95) = false := by simp; omega
          have e2 : ¬ (97 : Int) ≤ (d : Int) := by omega
          have e3 : (65 : Int) ≤ (d : Int) := by omega
          have e4 : (d : Int) ≤ 90 := by omega
          clear h65 h90
          go_wp2
          go_round
          case rel => exact ⟨r, k + 1, fun c hc => HL3.out c (by simp [hc]), HB2.out, by have h := HK.out; simp at h ⊢; omega, by simp⟩
          case measure => rw [HF3.out]; simp [lenOf]
  · have e1 : ((d : Int) == 95) = false := by simp; omega
    have e2 : (97 : Int) ≤ (d : Int) := by omega
    have e3 : (d : Int) ≤ 122 := by omega
    clear h97 h122
    go_wp2
    go_loop [5, 6] (fun m s => IdRel w (x :: t) X m s) (fun _ s => lenOf s)
    case atStart => exact ⟨t, 1, HL2.out, HB.out, by simp; omega, rfl⟩
    case round =>
      clear hV1' hx hcc
      obtain ⟨r, k, hl3, hb, hk, rfl⟩ := hrel
      have HK := Lib.hid hk
      have hk1 : k ≤ 1000000 := by have := HLN.out; omega
      clear hk
      cases r with
      | nil =>
        rw [List.nil_append] at hb
        obtain ⟨b2, o2, c2, rfl, hcc2, hcm2, hx2⟩ := hb.cons
        have hx' : w.cell? ⟨b2, o2, none⟩ = some (.int .u8 58) := hx2
        clear hx2 hb hl3
        go_wp2_with (go_at_call 177; go_in)
        go_wp2
        go_ret
        have hke : (k : Int) = (t.length : Int) + 1 := by have h := HK.out; simp at h; omega
        exact ⟨by show Ending.returned (.int .i64 (k : Int)) = _; rw [hke], rfl⟩
      | cons y r =>
        rw [List.cons_append] at hb
        obtain ⟨V2, hV2, hb2, _⟩ := hb.from 1 (by simp)
        obtain ⟨b2, o2, c2, hf2, hcc2, hcm2, hx⟩ := hb.cons
        obtain ⟨m, hm⟩ : ∃ m, (r ++ 58 :: X).length = m := ⟨_, rfl⟩
        have hb2' : BytesAt w V2 (r ++ 58 :: X) := hb2
        obtain ⟨a3, c3, hf3, _, _⟩ := hb2'.form
        rw [hm] at hf2 hf3 hcc2
        subst hf2
        have HF3 := Lib.hid hf3
        have HB2 := Lib.hid hb2'
        have hl4 : Letter y := hl3 y (by simp)
        have HL3 := Lib.hid hl3
        have hV2' : ∀ w', (Instr.slice 31 (.slice (some ⟨b2, o2, none⟩) (m + 1) c2) (some (.int .i64 1)) none none).run Tryz.prog w' = .ok V2 w' := hV2
        clear hb hb2 hb2' hf3 hm hl3 hV2
        have hx3 : y.toNat = 95 ∨ (97 ≤ y.toNat ∧ y.toNat ≤ 122) ∨ (65 ≤ y.toNat ∧ y.toNat ≤ 90) := hl4
        obtain ⟨d, hd⟩ : ∃ d, y.toNat = d := ⟨_, rfl⟩
        rw [hd] at hx hx3
        clear hd hl4
        rcases hx3 with rfl | ⟨h97, h122⟩ | ⟨h65, h90⟩
        · go_wp2
          go_round
          case rel => exact ⟨r, k + 1, fun c hc => HL3.out c (by simp [hc]), HB2.out, by have h := HK.out; simp at h ⊢; omega, by simp⟩
          case measure => rw [HF3.out]; simp [lenOf]
        · have e1 : ((d : Int) == 95) = false := by simp; omega
          have e2 : (97 : Int) ≤ (d : Int) := by omega
          have e3 : (d : Int) ≤ 122 := by omega
          clear h97 h122
          go_wp2
          go_round
          case rel => exact ⟨r, k + 1, fun c hc => HL3.out c (by simp [hc]), HB2.out, by have h := HK.out; simp at h ⊢; omega, by simp⟩
          case measure => rw [HF3.out]; simp [lenOf]
        · have e1 : ((d : Int) == 95) = false := by simp; omega
          have e2 : ¬ (97 : Int) ≤ (d : Int) := by omega
          have e3 : (65 : Int) ≤ (d : Int) := by omega
          have e4 : (d : Int) ≤ 90 := by omega
          clear h65 h90
          go_wp2
          go_round
          case rel => exact ⟨r, k + 1, fun c hc => HL3.out c (by simp [hc]), HB2.out, by have h := HK.out; simp at h ⊢; omega, by simp⟩
          case measure => rw [HF3.out]; simp [lenOf]
  · have e1 : ((d : Int) == 95) = false := by simp; omega
    have e2 : ¬ (97 : Int) ≤ (d : Int) := by omega
    have e3 : (65 : Int) ≤ (d : Int) := by omega
    have e4 : (d : Int) ≤ 90 := by omega
    clear h65 h90
    go_wp2
    go_loop [5, 6] (fun m s => IdRel w (x :: t) X m s) (fun _ s => lenOf s)
    case atStart => exact ⟨t, 1, HL2.out, HB.out, by simp; omega, rfl⟩
    case round =>
      clear hV1' hx hcc
      obtain ⟨r, k, hl3, hb, hk, rfl⟩ := hrel
      have HK := Lib.hid hk
      have hk1 : k ≤ 1000000 := by have := HLN.out; omega
      clear hk
      cases r with
      | nil =>
        rw [List.nil_append] at hb
        obtain ⟨b2, o2, c2, rfl, hcc2, hcm2, hx2⟩ := hb.cons
        have hx' : w.cell? ⟨b2, o2, none⟩ = some (.int .u8 58) := hx2
        clear hx2 hb hl3
        go_wp2_with (go_at_call 177; go_in)
        go_wp2
        go_ret
        have hke : (k : Int) = (t.length : Int) + 1 := by have h := HK.out; simp at h; omega
        exact ⟨by show Ending.returned (.int .i64 (k : Int)) = _; rw [hke], rfl⟩
      | cons y r =>
        rw [List.cons_append] at hb
        obtain ⟨V2, hV2, hb2, _⟩ := hb.from 1 (by simp)
        obtain ⟨b2, o2, c2, hf2, hcc2, hcm2, hx⟩ := hb.cons
        obtain ⟨m, hm⟩ : ∃ m, (r ++ 58 :: X).length = m := ⟨_, rfl⟩
        have hb2' : BytesAt w V2 (r ++ 58 :: X) := hb2
        obtain ⟨a3, c3, hf3, _, _⟩ := hb2'.form
        rw [hm] at hf2 hf3 hcc2
        subst hf2
        have HF3 := Lib.hid hf3
        have HB2 := Lib.hid hb2'
        have hl4 : Letter y := hl3 y (by simp)
        have HL3 := Lib.hid hl3
        have hV2' : ∀ w', (Instr.slice 31 (.slice (some ⟨b2, o2, none⟩) (m + 1) c2) (some (.int .i64 1)) none none).run Tryz.prog w' = .ok V2 w' := hV2
        clear hb hb2 hb2' hf3 hm hl3 hV2
        have hx3 : y.toNat = 95 ∨ (97 ≤ y.toNat ∧ y.toNat ≤ 122) ∨ (65 ≤ y.toNat ∧ y.toNat ≤ 90) := hl4
        obtain ⟨d, hd⟩ : ∃ d, y.toNat = d := ⟨_, rfl⟩
        rw [hd] at hx hx3
        clear hd hl4
        rcases hx3 with rfl | ⟨h97, h122⟩ | ⟨h65, h90⟩
        · go_wp2
          go_round
          case rel => exact ⟨r, k + 1, fun c hc => HL3.out c (by simp [hc]), HB2.out, by have h := HK.out; simp at h ⊢; omega, by simp⟩
          case measure => rw [HF3.out]; simp [lenOf]
        · have e1 : ((d : Int) == 95) = false := by simp; omega
          have e2 : (97 : Int) ≤ (d : Int) := by omega
          have e3 : (d : Int) ≤ 122 := by omega
          clear h97 h122
          go_wp2
          go_round
          case rel => exact ⟨r, k + 1, fun c hc => HL3.out c (by simp [hc]), HB2.out, by have h := HK.out; simp at h ⊢; omega, by simp⟩
          case measure => rw [HF3.out]; simp [lenOf]
        · have e1 : ((d : Int) == 95) = false := by simp; omega
          have e2 : ¬ (97 : Int) ≤ (d : Int) := by omega
          have e3 : (65 : Int) ≤ (d : Int) := by omega
          have e4 : (d : Int) ≤ 90 := by omega
          clear h65 h90
          go_wp2
          go_round
          case rel => exact ⟨r, k + 1, fun c hc => HL3.out c (by simp [hc]), HB2.out, by have h := HK.out; simp at h ⊢; omega, by simp⟩
          case measure => rw [HF3.out]; simp [lenOf]
end Go.Proofs.YtmijjppjodpagaaGreatDoor

namespace Go.Proofs.YtmijjppjodpagaaGreatDoor
open Go.RowKit

/-- The number that hexadecimal digits write. -/
def hexV (ds : List Nat) : Nat := ds.foldl (fun n d => n * 16 + d) 0
theorem hexV_snoc (ds : List Nat) (d : Nat) : hexV (ds ++ [d]) = hexV ds * 16 + d := by simp [hexV]
theorem hexV_take (ds : List Nat) (k : Nat) (h : k < ds.length) : hexV (ds.take (k + 1)) = hexV (ds.take k) * 16 + ds[k] := by
  rw [List.take_succ_eq_append_getElem h, hexV_snoc]
theorem hexV_lt (ds : List Nat) (h : ∀ d ∈ ds, d < 16) : ∀ k, k ≤ ds.length → hexV (ds.take k) < 16 ^ k
  | 0, _ => by simp [hexV]
  | k + 1, hk => by
    have h1 := hexV_lt ds h k (by omega)
    have h2 := h ds[k] (List.getElem_mem _)
    rw [hexV_take ds k (by omega), Nat.pow_succ]
    omega

/-- The bytes of hexadecimal digits. -/
def hexB (ds : List Nat) : List UInt8 := ds.map hexc
theorem hexB_length (ds : List Nat) : (hexB ds).length = ds.length := by simp [hexB]

theorem hexc_nat (d : Nat) (h : d < 16) : (d < 10 ∧ (hexc d).toNat = 48 + d) ∨ (10 ≤ d ∧ (hexc d).toNat = 87 + d) := by
  have : d = 0 ∨ d = 1 ∨ d = 2 ∨ d = 3 ∨ d = 4 ∨ d = 5 ∨ d = 6 ∨ d = 7 ∨ d = 8 ∨ d = 9 ∨ d = 10 ∨ d = 11 ∨ d = 12 ∨ d = 13 ∨ d = 14 ∨ d = 15 := by omega
  rcases this with rfl | rfl | rfl | rfl | rfl | rfl | rfl | rfl | rfl | rfl | rfl | rfl | rfl | rfl | rfl | rfl <;> decide

def ParseRel (ds : List Nat) (n i : Value) : Prop := ∃ k : Nat, k ≤ ds.length ∧ n = .int .u64 (hexV (ds.take k) : Nat) ∧ i = .int .i64 (k : Int)

set_option maxRecDepth 100000 in
set_option maxHeartbeats 400000 in
theorem parse_in_8 (ds : List Nat) (hd : ∀ d ∈ ds, d < 16) (h0 : ds ≠ []) (hl : ds.length ≤ 2) (w : World) :
    Calls Tryz.prog 186 #[.string (mk (hexB ds)), .int .i64 16, .int .i64 8] w fun e w' => e = .returned (.tuple #[.int .u64 (hexV ds : Nat), .nilIface]) ∧ Keeps (fun _ => False) w w' := by
  have hpos : 0 < ds.length := List.length_pos_iff.2 h0
  have hs0 : (mk (hexB ds)).toList.isEmpty = false := by
    rw [mk_toList, List.isEmpty_eq_false_iff]
    intro h
    have := congrArg List.length h
    rw [hexB_length] at this
    exact absurd this (by simp; exact h0)
  have hsz : Hid ((mk (hexB ds)).size = ds.length) := (mk_size _).trans (hexB_length ds)
  obtain ⟨s, hs⟩ : ∃ s, mk (hexB ds) = s := ⟨_, rfl⟩
  have HS := Lib.hid hs
  rw [hs] at hs0 hsz ⊢
  clear hs
  have hszo := hsz.out
  go_enter Tryz.func186, Tryz.ntmps186
  obtain ⟨cap, w1, hrun, hb, hk⟩ := run_to_bytes (hexB ds) (by rw [hexB_length]; unfold maxLen; omega) w
  rw [HS.out, hexB_length] at hrun
  rw [hexB_length] at hb
  have HB := Lib.hid hb
  have HK := Lib.hid hk
  clear hb hk
  go_wp2
  go_loopw [12, 13, 101] (fun u n i wr => u = .bool false ∧ wr = w1 ∧ ParseRel ds n i) (fun _ _ i _ => ds.length - (intOf i).toNat)
  case atStart => exact ⟨rfl, rfl, 0, Nat.zero_le _, rfl, rfl⟩
  case round =>
    obtain ⟨rfl, rfl, k, hk, rfl, rfl⟩ := hrel
    by_cases hlt : k < ds.length
    · have hlt2 : (k : Int) < (ds.length : Int) := by omega
      have hv := hexV_lt ds hd k (by omega)
      have hp : 16 ^ k ≤ 16 ^ 1 := Nat.pow_le_pow_right (by decide) (by omega)
      have hds := hd ds[k] (List.getElem_mem _)
      have hnext := hexV_take ds k hlt
      have hcell : wr.cell? ⟨w.heap.size, k, none⟩ = some (.int .u8 ((hexc ds[k]).toNat : Int)) := by
        have h := HB.out.cell.2 k (by rw [hexB_length]; exact hlt)
        simpa [hexB] using h
      have hcc := hexc_nat ds[k] hds
      obtain ⟨c, hc⟩ : ∃ c, (hexc ds[k]).toNat = c := ⟨_, rfl⟩
      obtain ⟨d, hd'⟩ : ∃ d, ds[k] = d := ⟨_, rfl⟩
      obtain ⟨n, hn⟩ : ∃ n, hexV (ds.take k) = n := ⟨_, rfl⟩
      rw [hc] at hcell hcc
      rw [hd'] at hcc hds hnext
      rw [hn] at hnext hv ⊢
      have hn2 : n < 16 ^ 1 := Nat.lt_of_lt_of_le hv hp
      have hn3 : n < 16 := hn2
      have HN := Lib.hid hnext
      clear hv hp hc hd' hn hn2 hnext
      have g1 : ¬ (1152921504606846976 : Int) ≤ (n : Int) := by omega
      have g2 : ¬ ((n : Int) * 16 + (d : Int) < (n : Int) * 16) := by omega
      have g3 : ¬ ((255 : Int) < (n : Int) * 16 + (d : Int)) := by omega
      have g4 : IntKind.u64.wrap ((n : Int) * 16) = (n : Int) * 16 := by rw [IntKind.wrap_u64]; omega
      have g5 : IntKind.u64.wrap ((n : Int) * 16 + (d : Int)) = (n : Int) * 16 + (d : Int) := by rw [IntKind.wrap_u64]; omega
      have g6 : ¬ (16 : Int) ≤ (d : Int) := by omega
      have g7 : ((c : Int) == 95) = false := by simp; omega
      rcases hcc with ⟨h10, hcd⟩ | ⟨h10, hcd⟩
      · have e1 : (48 : Int) ≤ (c : Int) := by omega
        have e2 : (c : Int) ≤ 57 := by omega
        have e3 : (c : Int) - 48 = (d : Int) := by omega
        have e4 : IntKind.u8.wrap (d : Int) = (d : Int) := by rw [IntKind.wrap_u8]; omega
        have e5 : IntKind.u64.wrap (d : Int) = (d : Int) := by rw [IntKind.wrap_u64]; omega
        clear hcd h10 hds hn3
        go_wp2
        go_roundw
        case rel => exact ⟨by simp, by simp, k + 1, hlt, by rw [HN.out]; rfl, rfl⟩
        case measure => simp [intOf]; omega
      · have e1 : (48 : Int) ≤ (c : Int) := by omega
        have e2 : ¬ (c : Int) ≤ 57 := by omega
        have e3 : bits BinOp.or IntKind.u8 (c : Int) 32 = (c : Int) := by
          have : c = 97 ∨ c = 98 ∨ c = 99 ∨ c = 100 ∨ c = 101 ∨ c = 102 := by omega
          rcases this with rfl | rfl | rfl | rfl | rfl | rfl <;> decide
        have e4 : (97 : Int) ≤ (c : Int) := by omega
        have e5 : (c : Int) ≤ 122 := by omega
        have e6 : (c : Int) - 97 + 10 = (d : Int) := by omega
        have e7 : IntKind.u64.wrap (d : Int) = (d : Int) := by rw [IntKind.wrap_u64]; omega
        clear hcd h10 hds hn3
        go_wp2
        go_roundw
        case rel => exact ⟨by simp, by simp, k + 1, hlt, by rw [HN.out]; rfl, rfl⟩
        case measure => simp [intOf]; omega
    · have hk2 : ¬ (k : Int) < (ds.length : Int) := by omega
      have hkl : k = ds.length := by omega
      subst hkl
      go_wp2
      go_ret2
      exact ⟨rfl, HK.out⟩

set_option maxRecDepth 100000 in
set_option maxHeartbeats 400000 in
theorem parse_in_32 (ds : List Nat) (hd : ∀ d ∈ ds, d < 16) (h0 : ds ≠ []) (hl : ds.length ≤ 8) (w : World) :
    Calls Tryz.prog 186 #[.string (mk (hexB ds)), .int .i64 16, .int .i64 32] w fun e w' => e = .returned (.tuple #[.int .u64 (hexV ds : Nat), .nilIface]) ∧ Keeps (fun _ => False) w w' := by
  have hpos : 0 < ds.length := List.length_pos_iff.2 h0
  have hs0 : (mk (hexB ds)).toList.isEmpty = false := by
    rw [mk_toList, List.isEmpty_eq_false_iff]
    intro h
    have := congrArg List.length h
    rw [hexB_length] at this
    exact absurd this (by simp; exact h0)
  have hsz : Hid ((mk (hexB ds)).size = ds.length) := (mk_size _).trans (hexB_length ds)
  obtain ⟨s, hs⟩ : ∃ s, mk (hexB ds) = s := ⟨_, rfl⟩
  have HS := Lib.hid hs
  rw [hs] at hs0 hsz ⊢
  clear hs
  have hszo := hsz.out
  go_enter Tryz.func186, Tryz.ntmps186
  obtain ⟨cap, w1, hrun, hb, hk⟩ := run_to_bytes (hexB ds) (by rw [hexB_length]; unfold maxLen; omega) w
  rw [HS.out, hexB_length] at hrun
  rw [hexB_length] at hb
  have HB := Lib.hid hb
  have HK := Lib.hid hk
  clear hb hk
  go_wp2
  go_loopw [12, 13, 101] (fun u n i wr => u = .bool false ∧ wr = w1 ∧ ParseRel ds n i) (fun _ _ i _ => ds.length - (intOf i).toNat)
  case atStart => exact ⟨rfl, rfl, 0, Nat.zero_le _, rfl, rfl⟩
  case round =>
    obtain ⟨rfl, rfl, k, hk, rfl, rfl⟩ := hrel
    by_cases hlt : k < ds.length
    · have hlt2 : (k : Int) < (ds.length : Int) := by omega
      have hv := hexV_lt ds hd k (by omega)
      have hp : 16 ^ k ≤ 16 ^ 7 := Nat.pow_le_pow_right (by decide) (by omega)
      have hds := hd ds[k] (List.getElem_mem _)
      have hnext := hexV_take ds k hlt
      have hcell : wr.cell? ⟨w.heap.size, k, none⟩ = some (.int .u8 ((hexc ds[k]).toNat : Int)) := by
        have h := HB.out.cell.2 k (by rw [hexB_length]; exact hlt)
        simpa [hexB] using h
      have hcc := hexc_nat ds[k] hds
      obtain ⟨c, hc⟩ : ∃ c, (hexc ds[k]).toNat = c := ⟨_, rfl⟩
      obtain ⟨d, hd'⟩ : ∃ d, ds[k] = d := ⟨_, rfl⟩
      obtain ⟨n, hn⟩ : ∃ n, hexV (ds.take k) = n := ⟨_, rfl⟩
      rw [hc] at hcell hcc
      rw [hd'] at hcc hds hnext
      rw [hn] at hnext hv ⊢
      have hn2 : n < 16 ^ 7 := Nat.lt_of_lt_of_le hv hp
      have hn3 : n < 268435456 := hn2
      have HN := Lib.hid hnext
      clear hv hp hc hd' hn hn2 hnext
      have g1 : ¬ (1152921504606846976 : Int) ≤ (n : Int) := by omega
      have g2 : ¬ ((n : Int) * 16 + (d : Int) < (n : Int) * 16) := by omega
      have g3 : ¬ ((4294967295 : Int) < (n : Int) * 16 + (d : Int)) := by omega
      have g4 : IntKind.u64.wrap ((n : Int) * 16) = (n : Int) * 16 := by rw [IntKind.wrap_u64]; omega
      have g5 : IntKind.u64.wrap ((n : Int) * 16 + (d : Int)) = (n : Int) * 16 + (d : Int) := by rw [IntKind.wrap_u64]; omega
      have g6 : ¬ (16 : Int) ≤ (d : Int) := by omega
      have g7 : ((c : Int) == 95) = false := by simp; omega
      rcases hcc with ⟨h10, hcd⟩ | ⟨h10, hcd⟩
      · have e1 : (48 : Int) ≤ (c : Int) := by omega
        have e2 : (c : Int) ≤ 57 := by omega
        have e3 : (c : Int) - 48 = (d : Int) := by omega
        have e4 : IntKind.u8.wrap (d : Int) = (d : Int) := by rw [IntKind.wrap_u8]; omega
        have e5 : IntKind.u64.wrap (d : Int) = (d : Int) := by rw [IntKind.wrap_u64]; omega
        clear hcd h10 hds hn3
        go_wp2
        go_roundw
        case rel => exact ⟨by simp, by simp, k + 1, hlt, by rw [HN.out]; rfl, rfl⟩
        case measure => simp [intOf]; omega
      · have e1 : (48 : Int) ≤ (c : Int) := by omega
        have e2 : ¬ (c : Int) ≤ 57 := by omega
        have e3 : bits BinOp.or IntKind.u8 (c : Int) 32 = (c : Int) := by
          have : c = 97 ∨ c = 98 ∨ c = 99 ∨ c = 100 ∨ c = 101 ∨ c = 102 := by omega
          rcases this with rfl | rfl | rfl | rfl | rfl | rfl <;> decide
        have e4 : (97 : Int) ≤ (c : Int) := by omega
        have e5 : (c : Int) ≤ 122 := by omega
        have e6 : (c : Int) - 97 + 10 = (d : Int) := by omega
        have e7 : IntKind.u64.wrap (d : Int) = (d : Int) := by rw [IntKind.wrap_u64]; omega
        clear hcd h10 hds hn3
        go_wp2
        go_roundw
        case rel => exact ⟨by simp, by simp, k + 1, hlt, by rw [HN.out]; rfl, rfl⟩
        case measure => simp [intOf]; omega
    · have hk2 : ¬ (k : Int) < (ds.length : Int) := by omega
      have hkl : k = ds.length := by omega
      subst hkl
      go_wp2
      go_ret2
      exact ⟨rfl, HK.out⟩

theorem parse_8 (ds : List Nat) (hd : ∀ d ∈ ds, d < 16) (h0 : ds ≠ []) (hl : ds.length ≤ 2) (w : World) :
    Calls Tryz.prog 153 #[.string (mk (hexB ds)), .int .i64 16, .int .i64 8] w fun e w' => e = .returned (.tuple #[.int .u64 (hexV ds : Nat), .nilIface]) ∧ Keeps (fun _ => False) w w' := by
  go_enter Tryz.func153, Tryz.ntmps153
  go_wp2_with (go_at_call 186; refine (parse_in_8 ds hd h0 hl w).mono ?_; rintro e w1 ⟨rfl, hk⟩)
  go_ret2
  exact ⟨rfl, hk⟩

theorem parse_32 (ds : List Nat) (hd : ∀ d ∈ ds, d < 16) (h0 : ds ≠ []) (hl : ds.length ≤ 8) (w : World) :
    Calls Tryz.prog 153 #[.string (mk (hexB ds)), .int .i64 16, .int .i64 32] w fun e w' => e = .returned (.tuple #[.int .u64 (hexV ds : Nat), .nilIface]) ∧ Keeps (fun _ => False) w w' := by
  go_enter Tryz.func153, Tryz.ntmps153
  go_wp2_with (go_at_call 186; refine (parse_in_32 ds hd h0 hl w).mono ?_; rintro e w1 ⟨rfl, hk⟩)
  go_ret2
  exact ⟨rfl, hk⟩

end Go.Proofs.YtmijjppjodpagaaGreatDoor
