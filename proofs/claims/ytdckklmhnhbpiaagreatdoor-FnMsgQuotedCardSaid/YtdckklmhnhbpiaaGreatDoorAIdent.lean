/-
  parseIdent of the text form, at a name and a colon.
-/
import Derived.Test.YtdckklmhnhbpiaaGreatDoorAConsume
namespace Go.Proofs.YtdckklmhnhbpiaaGreatDoor
open Go.RowKit

/-- A byte of a name. -/
def Letter (c : UInt8) : Prop := c.toNat = 95 ∨ (97 ≤ c.toNat ∧ c.toNat ≤ 122) ∨ (65 ≤ c.toNat ∧ c.toNat ≤ 90)

def IdRel (w : World) (nm X : List UInt8) (n s : Value) : Prop := ∃ r k, (∀ c ∈ r, Letter c) ∧ BytesAt w s (r ++ 58 :: X) ∧ k + r.length = nm.length ∧ n = .int .i64 (k : Nat)

set_option maxRecDepth 1000000 in
set_option maxHeartbeats 4000000 in
theorem parseIdent_any (v : Value) (nm X : List UInt8) (w : World) (h0 : nm ≠ []) (hl : ∀ c ∈ nm, Letter c) (hv : BytesAt w v (nm ++ 58 :: X)) (hlen : nm.length ≤ 1000000) :
    Calls Tryz.prog 88 #[v, .bool false] w fun e w' => e = .returned (.int .i64 (nm.length : Nat)) ∧ w = w' := by
  obtain ⟨x, t, rfl⟩ : ∃ x t, nm = x :: t := by cases nm with
    | nil => exact absurd rfl h0
    | cons x t => exact ⟨x, t, rfl⟩
  rw [List.cons_append] at hv
  obtain ⟨V1, hV1, hb1, _⟩ := hv.from 1 (by simp)
  obtain ⟨b, off, c, hvf, hcc, hcm, hx⟩ := hv.cons
  have hlt := hl x (by simp)
  have hl2 : ∀ c ∈ t, Letter c := fun c hc => hl c (by simp [hc])
  have HB := Lib.hid hb1
  have HL2 := Lib.hid hl2
  have HLN := Lib.hid hlen
  obtain ⟨n, hn⟩ : ∃ n, (t ++ 58 :: X).length = n := ⟨_, rfl⟩
  rw [hn] at hcc hvf
  subst hvf
  have hV1' : ∀ w', (Instr.slice 24 (.slice (some ⟨b, off, none⟩) (n + 1) c) (some (.int .i64 1)) none none).run Tryz.prog w' = .ok V1 w' := hV1
  clear hV1 hb1 hl hl2 hlen hv h0 hn
  go_enter Tryz.func88, Tryz.ntmps88
  have hx3 : x.toNat = 95 ∨ (97 ≤ x.toNat ∧ x.toNat ≤ 122) ∨ (65 ≤ x.toNat ∧ x.toNat ≤ 90) := hlt
  obtain ⟨d, hd⟩ : ∃ d, x.toNat = d := ⟨_, rfl⟩
  rw [hd] at hx hx3
  clear hd hlt
  rcases hx3 with rfl | ⟨h97, h122⟩ | ⟨h65, h90⟩
  · go_wp2
    go_loop [5, 6] (fun m s => IdRel w (x :: t) X m s) (fun _ s => lenOf s)
    case atStart => exact ⟨t, 1, HL2.out, HB.out, by simp; omega, rfl⟩
    case round =>
      clear hV1' hx hcc
      obtain ⟨r, k, hl3, hb, hk, rfl⟩ := hrel
      have HK := Lib.hid hk
      have hk1 : k ≤ 1000000 := by have := HLN.out; omega
      clear hk
      cases r with
      | nil =>
        rw [List.nil_append] at hb
        obtain ⟨b2, o2, c2, rfl, hcc2, hcm2, hx2⟩ := hb.cons
        have hx' : w.cell? ⟨b2, o2, none⟩ = some (.int .u8 58) := hx2
        clear hx2 hb hl3
        go_wp2_with (go_at_call 130; go_in)
        go_wp2
        go_ret
        have hke : (k : Int) = (t.length : Int) + 1 := by have h := HK.out; simp at h; omega
        exact ⟨by show Ending.returned (.int .i64 (k : Int)) = _; rw [hke], rfl⟩
      | cons y r =>
        rw [List.cons_append] at hb
        obtain ⟨V2, hV2, hb2, _⟩ := hb.from 1 (by simp)
        obtain ⟨b2, o2, c2, hf2, hcc2, hcm2, hx⟩ := hb.cons
        obtain ⟨m, hm⟩ : ∃ m, (r ++ 58 :: X).length = m := ⟨_, rfl⟩
        have hb2' : BytesAt w V2 (r ++ 58 :: X) := hb2
        obtain ⟨a3, c3, hf3, _, _⟩ := hb2'.form
        rw [hm] at hf2 hf3 hcc2
        subst hf2
        have HF3 := Lib.hid hf3
        have HB2 := Lib.hid hb2'
        have hl4 : Letter y := hl3 y (by simp)
        have HL3 := Lib.hid hl3
        have hV2' : ∀ w', (Instr.slice 24 (.slice (some ⟨b2, o2, none⟩) (m + 1) c2) (some (.int .i64 1)) none none).run Tryz.prog w' = .ok V2 w' := hV2
        clear hb hb2 hb2' hf3 hm hl3 hV2
        have hx3 : y.toNat = 95 ∨ (97 ≤ y.toNat ∧ y.toNat ≤ 122) ∨ (65 ≤ y.toNat ∧ y.toNat ≤ 90) := hl4
        obtain ⟨d, hd⟩ : ∃ d, y.toNat = d := ⟨_, rfl⟩
        rw [hd] at hx hx3
        clear hd hl4
        rcases hx3 with rfl | ⟨h97, h122⟩ | ⟨h65, h90⟩
        · go_wp2
          go_round
          case rel => exact ⟨r, k + 1, fun c hc => HL3.out c (by simp [hc]), HB2.out, by have h := HK.out; simp at h ⊢; omega, by simp⟩
          case measure => rw [HF3.out]; simp [lenOf]
        · have e1 : ((d : Int) == 95) = false := by simp; omega
          have e2 : (97 : Int) ≤ (d : Int) := by omega
          have e3 : (d : Int) ≤ 122 := by omega
          clear h97 h122
          go_wp2
          go_round
          case rel => exact ⟨r, k + 1, fun c hc => HL3.out c (by simp [hc]), HB2.out, by have h := HK.out; simp at h ⊢; omega, by simp⟩
          case measure => rw [HF3.out]; simp [lenOf]
        · have e1 : ((d : Int) == 95) = false := by simp; omega
          have e2 : ¬ (97 : Int) ≤ (d : Int) := by omega
          have e3 : (65 : Int) ≤ (d : Int) := by omega
          have e4 : (d : Int) ≤ 90 := by omega
          clear h65 h90
          go_wp2
          go_round
          case rel => exact ⟨r, k + 1, fun c hc => HL3.out c (by simp [hc]), HB2.out, by have h := HK.out; simp at h ⊢; omega, by simp⟩
          case measure => rw [HF3.out]; simp [lenOf]
  · have e1 : ((d : Int) == 95) = false := by simp; omega
    have e2 : (97 : Int) ≤ (d : Int) := by omega
    have e3 : (d : Int) ≤ 122 := by omega
    clear h97 h122
    go_wp2
    go_loop [5, 6] (fun m s => IdRel w (x :: t) X m s) (fun _ s => lenOf s)
    case atStart => exact ⟨t, 1, HL2.out, HB.out, by simp; omega, rfl⟩
    case round =>
      clear hV1' hx hcc
      obtain ⟨r, k, hl3, hb, hk, rfl⟩ := hrel
      have HK := Lib.hid hk
      have hk1 : k ≤ 1000000 := by have := HLN.out; omega
      clear hk
      cases r with
      | nil =>
        rw [List.nil_append] at hb
        obtain ⟨b2, o2, c2, rfl, hcc2, hcm2, hx2⟩ := hb.cons
        have hx' : w.cell? ⟨b2, o2, none⟩ = some (.int .u8 58) := hx2
        clear hx2 hb hl3
        go_wp2_with (go_at_call 130; go_in)
        go_wp2
        go_ret
        have hke : (k : Int) = (t.length : Int) + 1 := by have h := HK.out; simp at h; omega
        exact ⟨by show Ending.returned (.int .i64 (k : Int)) = _; rw [hke], rfl⟩
      | cons y r =>
        rw [List.cons_append] at hb
        obtain ⟨V2, hV2, hb2, _⟩ := hb.from 1 (by simp)
        obtain ⟨b2, o2, c2, hf2, hcc2, hcm2, hx⟩ := hb.cons
        obtain ⟨m, hm⟩ : ∃ m, (r ++ 58 :: X).length = m := ⟨_, rfl⟩
        have hb2' : BytesAt w V2 (r ++ 58 :: X) := hb2
        obtain ⟨a3, c3, hf3, _, _⟩ := hb2'.form
        rw [hm] at hf2 hf3 hcc2
        subst hf2
        have HF3 := Lib.hid hf3
        have HB2 := Lib.hid hb2'
        have hl4 : Letter y := hl3 y (by simp)
        have HL3 := Lib.hid hl3
        have hV2' : ∀ w', (Instr.slice 24 (.slice (some ⟨b2, o2, none⟩) (m + 1) c2) (some (.int .i64 1)) none none).run Tryz.prog w' = .ok V2 w' := hV2
        clear hb hb2 hb2' hf3 hm hl3 hV2
        have hx3 : y.toNat = 95 ∨ (97 ≤ y.toNat ∧ y.toNat ≤ 122) ∨ (65 ≤ y.toNat ∧ y.toNat ≤ 90) := hl4
        obtain ⟨d, hd⟩ : ∃ d, y.toNat = d := ⟨_, rfl⟩
        rw [hd] at hx hx3
        clear hd hl4
        rcases hx3 with rfl | ⟨h97, h122⟩ | ⟨h65, h90⟩
        · go_wp2
          go_round
          case rel => exact ⟨r, k + 1, fun c hc => HL3.out c (by simp [hc]), HB2.out, by have h := HK.out; simp at h ⊢; omega, by simp⟩
          case measure => rw [HF3.out]; simp [lenOf]
        · have e1 : ((d : Int) == 95) = false := by simp; omega
          have e2 : (97 : Int) ≤ (d : Int) := by omega
          have e3 : (d : Int) ≤ 122 := by omega
          clear h97 h122
          go_wp2
          go_round
          case rel => exact ⟨r, k + 1, fun c hc => HL3.out c (by simp [hc]), HB2.out, by have h := HK.out; simp at h ⊢; omega, by simp⟩
          case measure => rw [HF3.out]; simp [lenOf]
        · have e1 : ((d : Int) == 95) = false := by simp; omega
          have e2 : ¬ (97 : Int) ≤ (d : Int) := by omega
          have e3 : (65 : Int) ≤ (d : Int) := by omega
          have e4 : (d : Int) ≤ 90 := by omega
          clear h65 h90
          go_wp2
          go_round
          case rel => exact ⟨r, k + 1, fun c hc => HL3.out c (by simp [hc]), HB2.out, by have h := HK.out; simp at h ⊢; omega, by simp⟩
          case measure => rw [HF3.out]; simp [lenOf]
  · have e1 : ((d : Int) == 95) = false := by simp; omega
    have e2 : ¬ (97 : Int) ≤ (d : Int) := by omega
    have e3 : (65 : Int) ≤ (d : Int) := by omega
    have e4 : (d : Int) ≤ 90 := by omega
    clear h65 h90
    go_wp2
    go_loop [5, 6] (fun m s => IdRel w (x :: t) X m s) (fun _ s => lenOf s)
    case atStart => exact ⟨t, 1, HL2.out, HB.out, by simp; omega, rfl⟩
    case round =>
      clear hV1' hx hcc
      obtain ⟨r, k, hl3, hb, hk, rfl⟩ := hrel
      have HK := Lib.hid hk
      have hk1 : k ≤ 1000000 := by have := HLN.out; omega
      clear hk
      cases r with
      | nil =>
        rw [List.nil_append] at hb
        obtain ⟨b2, o2, c2, rfl, hcc2, hcm2, hx2⟩ := hb.cons
        have hx' : w.cell? ⟨b2, o2, none⟩ = some (.int .u8 58) := hx2
        clear hx2 hb hl3
        go_wp2_with (go_at_call 130; go_in)
        go_wp2
        go_ret
        have hke : (k : Int) = (t.length : Int) + 1 := by have h := HK.out; simp at h; omega
        exact ⟨by show Ending.returned (.int .i64 (k : Int)) = _; rw [hke], rfl⟩
      | cons y r =>
        rw [List.cons_append] at hb
        obtain ⟨V2, hV2, hb2, _⟩ := hb.from 1 (by simp)
        obtain ⟨b2, o2, c2, hf2, hcc2, hcm2, hx⟩ := hb.cons
        obtain ⟨m, hm⟩ : ∃ m, (r ++ 58 :: X).length = m := ⟨_, rfl⟩
        have hb2' : BytesAt w V2 (r ++ 58 :: X) := hb2
        obtain ⟨a3, c3, hf3, _, _⟩ := hb2'.form
        rw [hm] at hf2 hf3 hcc2
        subst hf2
        have HF3 := Lib.hid hf3
        have HB2 := Lib.hid hb2'
        have hl4 : Letter y := hl3 y (by simp)
        have HL3 := Lib.hid hl3
        have hV2' : ∀ w', (Instr.slice 24 (.slice (some ⟨b2, o2, none⟩) (m + 1) c2) (some (.int .i64 1)) none none).run Tryz.prog w' = .ok V2 w' := hV2
        clear hb hb2 hb2' hf3 hm hl3 hV2
        have hx3 : y.toNat = 95 ∨ (97 ≤ y.toNat ∧ y.toNat ≤ 122) ∨ (65 ≤ y.toNat ∧ y.toNat ≤ 90) := hl4
        obtain ⟨d, hd⟩ : ∃ d, y.toNat = d := ⟨_, rfl⟩
        rw [hd] at hx hx3
        clear hd hl4
        rcases hx3 with rfl | ⟨h97, h122⟩ | ⟨h65, h90⟩
        · go_wp2
          go_round
          case rel => exact ⟨r, k + 1, fun c hc => HL3.out c (by simp [hc]), HB2.out, by have h := HK.out; simp at h ⊢; omega, by simp⟩
          case measure => rw [HF3.out]; simp [lenOf]
        · have e1 : ((d : Int) == 95) = false := by simp; omega
          have e2 : (97 : Int) ≤ (d : Int) := by omega
          have e3 : (d : Int) ≤ 122 := by omega
          clear h97 h122
          go_wp2
          go_round
          case rel => exact ⟨r, k + 1, fun c hc => HL3.out c (by simp [hc]), HB2.out, by have h := HK.out; simp at h ⊢; omega, by simp⟩
          case measure => rw [HF3.out]; simp [lenOf]
        · have e1 : ((d : Int) == 95) = false := by simp; omega
          have e2 : ¬ (97 : Int) ≤ (d : Int) := by omega
          have e3 : (65 : Int) ≤ (d : Int) := by omega
          have e4 : (d : Int) ≤ 90 := by omega
          clear h65 h90
          go_wp2
          go_round
          case rel => exact ⟨r, k + 1, fun c hc => HL3.out c (by simp [hc]), HB2.out, by have h := HK.out; simp at h ⊢; omega, by simp⟩
          case measure => rw [HF3.out]; simp [lenOf]
end Go.Proofs.YtdckklmhnhbpiaaGreatDoor
