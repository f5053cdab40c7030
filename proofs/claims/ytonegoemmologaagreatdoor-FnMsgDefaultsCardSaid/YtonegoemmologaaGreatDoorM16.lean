/-
  A default value of bytes, there and back: marshalBytes, UnmarshalString, unmarshalBytes.
-/
import Derived.Test.YtonegoemmologaaGreatDoorM15
import Derived.Deep.DeepCutAuto
import Derived.Laws.BitsAllLaws
set_option linter.unusedVariables false
set_option linter.unusedSimpArgs false
namespace Go.Proofs.YtonegoemmologaaGreatDoor
open Go.RowKit
def dec8 (v : Value) : Array Value := #[.int .u8 0, .int .u8 0, .int .u8 0, .int .u8 0, .int .i64 0, .slice none 0 0, .string ⟨#[]⟩, .nilIface, .slice none 0 0, v, v]
theorem bytes_lt8 {w : World} {v : Value} {l : List UInt8} (h : BytesAt w v l) (hl : l ≠ []) : ∀ j, v.ownBlock = some j → j < w.heap.size := by
 intro j hj
 obtain ⟨b, off, c, rfl, _, _⟩ := h.spot hl
 simp only [Value.ownBlock, Option.some.injEq] at hj
 subst hj
 exact World.block_lt_of_cell? w _ (h.cell.2 0 (List.length_pos_iff.2 hl))
set_option maxRecDepth 1000000 in
set_option maxHeartbeats 8000000 in
theorem newDec8 (a : Option Addr) (n c : Nat) (w : World) :
 Calls Tryz.prog 98 #[.slice a n c] w fun e w' => e = .returned (.pointer (some ⟨w.heap.size, 0, none⟩)) ∧ w' = w.alloc (.cells (dec8 (.slice a n c)) 198) := by
 go_enter Tryz.func98, Tryz.ntmps98
 go_wp2
 go_ret
 exact ⟨rfl, rfl⟩
set_option maxRecDepth 1000000 in
set_option maxHeartbeats 8000000 in
theorem unmarshal8 (l : List UInt8) (w : World) (hT : Tabs w) (hl : l.length ≤ 100000) :
 Calls Tryz.prog 80 #[.string (mk (quoteB l))] w fun e w' => e = .returned (.tuple #[.string (mk l), .nilIface]) ∧ Keeps (fun _ => False) w w' := by
 have hq : (quoteB l).length ≤ 1000000 := by have := encB_len l; simp [quoteB]; omega
 obtain ⟨c, w1, hcv, hb, hk1⟩ := run_to_bytes (quoteB l) (by unfold maxLen; omega) w
 obtain ⟨n, hn⟩ : ∃ n, (quoteB l).length = n := ⟨_, rfl⟩
 rw [hn] at hcv hb
 have HB := Lib.hid hb
 have HN := Lib.hid hn
 have hlt : w.heap.size < w1.heap.size := bytes_lt8 hb (by simp [quoteB]) _ rfl
 have HLT := Lib.hid hlt
 obtain ⟨s, hs⟩ : ∃ s, mk (quoteB l) = s := ⟨_, rfl⟩
 rw [hs] at hcv ⊢
 have HK1 := Lib.hid hk1
 have HT := Lib.hid hT
 have HL := Lib.hid hl
 have HQ := Lib.hid hq
 clear hb hn hs hk1 hT hl hlt hq
 go_enter Tryz.func80, Tryz.ntmps80
 go_wp2_with (first
  | (go_at_call 98; refine (newDec8 _ _ _ _).mono ?_; rintro e w2 ⟨rfl, hw2⟩; have hk2 : Keeps (fun _ => False) w1 w2 := (by rw [hw2]; exact (Keeps.refl _ w1).alloc _); have hrow : w2.heap[w1.heap.size]? = some (.cells (dec8 (.slice (some ⟨w.heap.size, 0, none⟩) n c)) 198 (0, 0)) := (by rw [hw2]; exact heap_alloc_new w1 _); have hps := parseString_any w1.heap.size _ _ l [] w2 hrow rfl (by rw [List.append_nil]; exact HB.out.keeps hk2 (fun _ _ => id)) (by rw [List.append_nil]; have := HQ.out; omega) (by have := HL.out; omega) ((HT.out.keeps HK1.out (fun _ _ => id)).keeps hk2 (fun _ _ => id)) (by intro r h; simp [skip] at h) (fun h => absurd (Option.some.inj h) (Nat.ne_of_lt HLT.out)); have HPS := Lib.hid hps; have HK2 := Lib.hid hk2; clear hps hk2 hrow hw2)
  | (go_at_call 99; refine HPS.out.mono ?_; rintro e w4 ⟨rfl, V, w3, rfl, hk3, hV, hVi⟩))
 go_ret2
 refine ⟨rfl, ?_⟩
 exact Keeps.setCell (((HK1.out.trans HK2.out (fun _ _ => id)).trans hk3 (fun _ _ => id))) ⟨w1.heap.size, 10, none⟩ (fun h => by have : w1.heap.size < w.heap.size := h; have := HLT.out; omega) V
set_option maxRecDepth 1000000 in
set_option maxHeartbeats 8000000 in
theorem unmarshalBytes_any (l : List UInt8) (w : World) (hT : Tabs w) (hl : l.length ≤ 100000) :
 Calls Tryz.prog 59 #[.string (mk (encB l))] w fun e w' => (∃ V, e = .returned (.tuple #[V, .bool true]) ∧ BytesAt w' V l) ∧ Keeps (fun _ => False) w w' := by
 have HU := Lib.hid (unmarshal8 l w hT hl)
 have HC := Lib.hid (fun w => run_to_bytes l (by unfold maxLen; omega) w)
 have hcat : ((⟨#[34]⟩ : ByteArray) ++ mk (encB l)) ++ ⟨#[34]⟩ = mk (quoteB l) := by
  apply ByteArray.ext
  simp [mk, quoteB, ByteArray.data_append]
 obtain ⟨s, hs⟩ : ∃ s, mk (encB l) = s := ⟨_, rfl⟩
 obtain ⟨t, ht⟩ : ∃ t, mk (quoteB l) = t := ⟨_, rfl⟩
 have hsz : s.size ≤ 400000 := by rw [← hs, mk_size]; have := encB_len l; omega
 have n1 : ¬ 9223372036854775807 < 1 + s.size := by omega
 have n2 : ¬ 9223372036854775807 < 1 + s.size + 1 := by omega
 rw [hs, ht] at hcat
 rw [hs]
 rw [ht] at HU
 clear hs ht hT hl hsz
 go_enter Tryz.func59, Tryz.ntmps59
 go_wp2_with (go_at_call 80; (try rw [hcat]); refine HU.out.mono ?_; rintro e w2 ⟨rfl, k2⟩; have K2 := Lib.hid k2; obtain ⟨c3, w3, hcv, hb3, hk3⟩ := HC.out w2; have HB3 := Lib.hid hb3; have K3 := Lib.hid hk3; clear k2 hb3 hk3)
 go_ret2
 exact ⟨⟨_, rfl, HB3.out⟩, K2.out.trans K3.out (fun _ _ => id)⟩
def natOf8 : Value → Nat
 | .int _ n => n.toNat
 | _ => 0
def MRel (v : Value) (B : World) (l : List UInt8) (s i : Value) (wr : World) : Prop := ∃ k : Nat, i = .int .i64 (k : Int) ∧ k ≤ l.length ∧ Out B (.slice none 0 0) wr s (encB (l.take k))
theorem and7 (n : Nat) (h : n < 256) : bits .and .u8 (n : Int) 7 = ((n % 8 : Nat) : Int) := by
 have := u8_and_nat n 7 h (by omega)
 rw [show (7 : Int) = ((7 : Nat) : Int) from rfl, this, nat_mask3]
theorem octD_bytes (k : Nat) (hk : k < 256) : ∃ x1 x2 x3 : UInt8, octD k = [x1, x2, x3] ∧ x1.toNat = 48 + k / 64 ∧ x2.toNat = 48 + k / 8 % 8 ∧ x3.toNat = 48 + k % 8 := by
 have h1 := hexc_nat (k / 64) (by omega)
 have h2 := hexc_nat (k / 8 % 8) (by omega)
 have h3 := hexc_nat (k % 8) (by omega)
 exact ⟨hexc (k / 64), hexc (k / 8 % 8), hexc (k % 8), rfl, by omega, by omega, by omega⟩
set_option maxRecDepth 1000000 in
set_option maxHeartbeats 8000000 in
theorem marshalBytes_any (v : Value) (l : List UInt8) (w : World) (hv : BytesAt w v l) (hl : l.length ≤ 100000) :
 Calls Tryz.prog 41 #[v] w fun e w' => e = .returned (.tuple #[.string (mk (encB l)), .bool true]) ∧ Keeps (fun _ => False) w w' := by
 obtain ⟨n, hn⟩ : ∃ n, l.length = n := ⟨_, rfl⟩
 have HVB := Lib.hid hv
 obtain ⟨a, c, rfl, hc, hm⟩ := hv.form
 rw [hn] at hl ⊢
 have HN := Lib.hid hn
 have HVB2 : Hid (BytesAt w (.slice a n c) l) := by have := HVB.out; rw [hn] at this; exact this
 clear HVB hv hm hc hn
 go_enter Tryz.func41, Tryz.ntmps41
 go_wp2_with (fail)
 go_loopw [4, 10] (fun s i wr => MRel (.slice a n c) w l s i wr) (fun _ i _ => n - natOf8 i)
 case atStart => exact ⟨0, rfl, Nat.zero_le _, by rw [List.take_zero]; exact Out.start (Own.nil w)⟩
 case round =>
  obtain ⟨k, rfl, hk, ho⟩ := hrel
  rw [HN.out] at hk
  have HO := Lib.hid ho
  have HB4 : Hid ((encB (l.take k)).length ≤ 400000) := by
   show _ ≤ _
   have := encB_len (l.take k)
   rw [List.length_take] at this
   omega
  have HK : Hid (Keeps (fun _ => False) w wr) := ho.keeps.mono (fun i hi h => by simp [blk, Value.ownBlock] at h)
  clear ho
  by_cases hlt : k < n
  · have hlt2 : (k : Int) < (n : Int) := by omega
    have hkl : k < l.length := by rw [HN.out]; exact hlt
    obtain ⟨b, off, c', he, _, _⟩ := HVB2.out.spot (by intro h; rw [h] at hkl; simp at hkl)
    cases he
    have hcell := (HVB2.out.keeps HK.out (fun _ _ => id)).cell.2 k hkl
    obtain ⟨x, hx⟩ : ∃ x, l[k] = x := ⟨_, rfl⟩
    rw [hx] at hcell
    have HX := Lib.hid hx
    clear hx hkl
    have hx256 := x.toNat_lt
    by_cases h10 : x = 10
    · subst h10
      have HE : Hid (encC 10 = [92, 110]) := by show encC 10 = [92, 110]; decide
      have hc2 : wr.cell? ⟨b, off + k, none⟩ = some (.int .u8 10) := hcell
      clear hcell hx256
      go_wp2_with (at_builtin; refine at_out_str HO.out (.tmp 41) (.const (.string (mk [92, 110]))) [92, 110] (by have := HB4.out; simp; omega) rfl rfl rfl rfl ?_; intro v9 w9 o9; have G := Lib.hid o9; clear o9)
      go_roundw
      case rel => exact ⟨k + 1, rfl, by omega, by rw [List.take_succ_eq_append_getElem (by have := HN.out; omega), encB_snoc, HX.out, HE.out]; exact G.out⟩
      case measure => simp [natOf8]; omega
    have q10 : ((x.toNat : Int) == 10) = false := by
     have : x.toNat ≠ 10 := fun e => h10 (UInt8.toNat_inj.1 e)
     simp; omega
    by_cases h13 : x = 13
    · subst h13
      have HE : Hid (encC 13 = [92, 114]) := by show encC 13 = [92, 114]; decide
      have hc2 : wr.cell? ⟨b, off + k, none⟩ = some (.int .u8 13) := hcell
      clear hcell hx256 h10
      go_wp2_with (at_builtin; refine at_out_str HO.out (.tmp 45) (.const (.string (mk [92, 114]))) [92, 114] (by have := HB4.out; simp; omega) rfl rfl rfl rfl ?_; intro v9 w9 o9; have G := Lib.hid o9; clear o9)
      go_roundw
      case rel => exact ⟨k + 1, rfl, by omega, by rw [List.take_succ_eq_append_getElem (by have := HN.out; omega), encB_snoc, HX.out, HE.out]; exact G.out⟩
      case measure => simp [natOf8]; omega
    have q13 : ((x.toNat : Int) == 13) = false := by
     have : x.toNat ≠ 13 := fun e => h13 (UInt8.toNat_inj.1 e)
     simp; omega
    by_cases h9 : x = 9
    · subst h9
      have HE : Hid (encC 9 = [92, 116]) := by show encC 9 = [92, 116]; decide
      have hc2 : wr.cell? ⟨b, off + k, none⟩ = some (.int .u8 9) := hcell
      clear hcell hx256 h10 h13
      go_wp2_with (at_builtin; refine at_out_str HO.out (.tmp 49) (.const (.string (mk [92, 116]))) [92, 116] (by have := HB4.out; simp; omega) rfl rfl rfl rfl ?_; intro v9 w9 o9; have G := Lib.hid o9; clear o9)
      go_roundw
      case rel => exact ⟨k + 1, rfl, by omega, by rw [List.take_succ_eq_append_getElem (by have := HN.out; omega), encB_snoc, HX.out, HE.out]; exact G.out⟩
      case measure => simp [natOf8]; omega
    have q9 : ((x.toNat : Int) == 9) = false := by
     have : x.toNat ≠ 9 := fun e => h9 (UInt8.toNat_inj.1 e)
     simp; omega
    by_cases h34 : x = 34
    · subst h34
      have HE : Hid (encC 34 = [92, 34]) := by show encC 34 = [92, 34]; decide
      have hc2 : wr.cell? ⟨b, off + k, none⟩ = some (.int .u8 34) := hcell
      clear hcell hx256 h10 h13 h9
      go_wp2_with (at_builtin; refine at_out_str HO.out (.tmp 53) (.const (.string (mk [92, 34]))) [92, 34] (by have := HB4.out; simp; omega) rfl rfl rfl rfl ?_; intro v9 w9 o9; have G := Lib.hid o9; clear o9)
      go_roundw
      case rel => exact ⟨k + 1, rfl, by omega, by rw [List.take_succ_eq_append_getElem (by have := HN.out; omega), encB_snoc, HX.out, HE.out]; exact G.out⟩
      case measure => simp [natOf8]; omega
    have q34 : ((x.toNat : Int) == 34) = false := by
     have : x.toNat ≠ 34 := fun e => h34 (UInt8.toNat_inj.1 e)
     simp; omega
    by_cases h39 : x = 39
    · subst h39
      have HE : Hid (encC 39 = [92, 39]) := by show encC 39 = [92, 39]; decide
      have hc2 : wr.cell? ⟨b, off + k, none⟩ = some (.int .u8 39) := hcell
      clear hcell hx256 h10 h13 h9 h34
      go_wp2_with (at_builtin; refine at_out_str HO.out (.tmp 57) (.const (.string (mk [92, 39]))) [92, 39] (by have := HB4.out; simp; omega) rfl rfl rfl rfl ?_; intro v9 w9 o9; have G := Lib.hid o9; clear o9)
      go_roundw
      case rel => exact ⟨k + 1, rfl, by omega, by rw [List.take_succ_eq_append_getElem (by have := HN.out; omega), encB_snoc, HX.out, HE.out]; exact G.out⟩
      case measure => simp [natOf8]; omega
    have q39 : ((x.toNat : Int) == 39) = false := by
     have : x.toNat ≠ 39 := fun e => h39 (UInt8.toNat_inj.1 e)
     simp; omega
    by_cases h92 : x = 92
    · subst h92
      have HE : Hid (encC 92 = [92, 92]) := by show encC 92 = [92, 92]; decide
      have hc2 : wr.cell? ⟨b, off + k, none⟩ = some (.int .u8 92) := hcell
      clear hcell hx256 h10 h13 h9 h34 h39
      go_wp2_with (at_builtin; refine at_out_str HO.out (.tmp 61) (.const (.string (mk [92, 92]))) [92, 92] (by have := HB4.out; simp; omega) rfl rfl rfl rfl ?_; intro v9 w9 o9; have G := Lib.hid o9; clear o9)
      go_roundw
      case rel => exact ⟨k + 1, rfl, by omega, by rw [List.take_succ_eq_append_getElem (by have := HN.out; omega), encB_snoc, HX.out, HE.out]; exact G.out⟩
      case measure => simp [natOf8]; omega
    have q92 : ((x.toNat : Int) == 92) = false := by
     have : x.toNat ≠ 92 := fun e => h92 (UInt8.toNat_inj.1 e)
     simp; omega
    by_cases hp : 32 ≤ x.toNat ∧ x.toNat ≤ 126
    · have HE : Hid (encC x = [x]) := by show encC x = [x]; unfold encC; rw [if_neg h10, if_neg h13, if_neg h9, if_neg h34, if_neg h39, if_neg h92, if_pos hp]
      have p1 : (32 : Int) ≤ (x.toNat : Int) := by omega
      have p2 : (x.toNat : Int) ≤ 126 := by omega
      clear h10 h13 h9 h34 h39 h92 hp
      go_wp2_with (at_builtin; refine at_out_lit HO.out (.tmp 22) (.tmp 24) [x] (by have := HB4.out; simp; omega) rfl rfl rfl rfl ?_; intro v9 w9 o9; have G := Lib.hid o9; clear o9)
      go_roundw
      case rel => exact ⟨k + 1, rfl, by omega, by rw [List.take_succ_eq_append_getElem (by have := HN.out; omega), encB_snoc, HX.out, HE.out]; exact G.out⟩
      case measure => simp [natOf8]; omega
    · have hoct := octD_bytes x.toNat hx256
      have HE0 : encC x = 92 :: octD x.toNat := by unfold encC; rw [if_neg h10, if_neg h13, if_neg h9, if_neg h34, if_neg h39, if_neg h92, if_neg hp]
      obtain ⟨x1, x2, x3, e0, e1, e2, e3⟩ := hoct
      have HE : Hid (encC x = [92, x1, x2, x3]) := by show encC x = _; rw [HE0, e0]
      have b1 := and7 (x.toNat / 8) (by omega)
      have b2 := and7 x.toNat hx256
      have b1' : bits .and .u8 ((x.toNat : Int) / 8) 7 = ((x.toNat / 8 % 8 : Nat) : Int) := by rw [← b1]; push_cast; rfl
      have f1 : (48 : Int) + (x.toNat : Int) / 64 = (x1.toNat : Int) := by omega
      have f2 : (48 : Int) + ((x.toNat / 8 % 8 : Nat) : Int) = (x2.toNat : Int) := by omega
      have f3 : (48 : Int) + ((x.toNat % 8 : Nat) : Int) = (x3.toNat : Int) := by omega
      obtain ⟨y1, hy1⟩ : ∃ y, x.toNat / 8 % 8 = y := ⟨_, rfl⟩
      obtain ⟨y2, hy2⟩ : ∃ y, x.toNat % 8 = y := ⟨_, rfl⟩
      rw [hy1] at b1' f2
      rw [hy2] at b2 f3
      have g1 := x1.toNat_lt
      have g2 := x2.toNat_lt
      have g3 := x3.toNat_lt
      have hnp : (!(decide ((32 : Int) ≤ (x.toNat : Int)) && decide ((x.toNat : Int) ≤ 126))) = true := by
       rcases Nat.lt_or_ge x.toNat 32 with g | g
       · simp; omega
       · simp; omega
      rcases Nat.lt_or_ge x.toNat 32 with hp1 | hp1
      · have n1 : ¬ (32 : Int) ≤ (x.toNat : Int) := by omega
        clear h10 h13 h9 h34 h39 h92 hp e0 e1 e2 e3 HE0 b1 hy1 hy2 hnp hp1
        go_wp2_with (at_builtin; refine at_out_lit HO.out (.tmp 26) (.tmp 37) [92, x1, x2, x3] (by have := HB4.out; simp; omega) rfl rfl rfl rfl ?_; intro v9 w9 o9; have G := Lib.hid o9; clear o9)
        go_roundw
        case rel => exact ⟨k + 1, rfl, by omega, by rw [List.take_succ_eq_append_getElem (by have := HN.out; omega), encB_snoc, HX.out, HE.out]; exact G.out⟩
        case measure => simp [natOf8]; omega
      · have n1 : (32 : Int) ≤ (x.toNat : Int) := by omega
        have n2 : ¬ (x.toNat : Int) ≤ 126 := by omega
        clear h10 h13 h9 h34 h39 h92 hp e0 e1 e2 e3 HE0 b1 hy1 hy2 hnp hp1
        go_wp2_with (at_builtin; refine at_out_lit HO.out (.tmp 26) (.tmp 37) [92, x1, x2, x3] (by have := HB4.out; simp; omega) rfl rfl rfl rfl ?_; intro v9 w9 o9; have G := Lib.hid o9; clear o9)
        go_roundw
        case rel => exact ⟨k + 1, rfl, by omega, by rw [List.take_succ_eq_append_getElem (by have := HN.out; omega), encB_snoc, HX.out, HE.out]; exact G.out⟩
        case measure => simp [natOf8]; omega
  · have hlt2 : ¬ (k : Int) < (n : Int) := by omega
    obtain rfl : k = n := by omega
    have hcv := run_to_str HO.out.own.bytes
    rw [show l.take k = l from List.take_of_length_le (by rw [HN.out]; exact Nat.le_refl _)] at hcv
    clear hlt
    go_wp2_with (fail)
    go_ret2
    exact ⟨rfl, HK.out⟩
end Go.Proofs.YtonegoemmologaaGreatDoor
