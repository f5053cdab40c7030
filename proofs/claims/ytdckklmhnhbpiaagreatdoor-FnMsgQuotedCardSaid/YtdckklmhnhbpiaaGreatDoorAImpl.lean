/-
  The thin package's functions of the text form, over texts and messages of texts.
-/
import Derived.Test.YtdckklmhnhbpiaaGreatDoorATRead
import Derived.Test.YtdckklmhnhbpiaaGreatDoorAPStr
namespace Go.Proofs.YtdckklmhnhbpiaaGreatDoor
open Go.RowKit

theorem owns_mono {w : World} {b b' : Nat} {e : TypeId} {size n : Nat} {v : Value} {xs : List Value} (h : w.ownsRow b e size v n xs) (hb : b' ≤ b) : w.ownsRow b' e size v n xs := by
  refine ⟨h.1, ?_⟩
  rcases h.2 with h2 | ⟨g, cap, cur, h1, h2, h3⟩
  · exact .inl h2
  · exact .inr ⟨g, cap, cur, h1, Nat.le_trans hb h2, h3⟩

set_option maxRecDepth 1000000 in
theorem copied_any (v : Value) (l : List UInt8) (w : World) (hv : BytesAt w v l) (hl : l.length ≤ 1000000000) :
    Calls Tryz.prog 15 #[v] w fun e w' => ∃ V, e = .returned V ∧ BytesAt w' V l ∧ (∀ j, V.ownBlock = some j → w.heap.size ≤ j ∧ j < w'.heap.size) ∧ Keeps (fun _ => False) w w' := by
  have hown : Own (w.alloc (.cells #[] 5)) (.slice (some ⟨w.heap.size, 0, none⟩) 0 0) [] := .inr ⟨w.heap.size, 0, #[], rfl, heap_alloc_new w _, by simp, by simp, rfl, rfl⟩
  have hv' := hv.keeps ((Keeps.refl (fun _ => False) w).alloc (.cells #[] 5)) (fun _ _ => id)
  go_enter Tryz.func15, Tryz.ntmps15
  go_wp2_with (at_builtin; refine at_own_app rfl (.tmp 3) (.tmp 4) rfl hown rfl rfl hv' (by simp; omega) ?_; intro V w2 ho hk hm)
  go_ret
  rw [List.nil_append] at ho
  refine ⟨V, rfl, ho.bytes, fun j hj => ⟨?_, ho.lt j hj⟩, ((Keeps.refl (fun _ => False) w).alloc _).trans hk (fun i hi h => ?_)⟩
  · rcases hm j hj with h | h
    · simp [Value.ownBlock] at h; omega
    · simp at h; omega
  · simp [blk, Value.ownBlock] at h; omega

/-- A new Decoder. -/
theorem dec_new (w : World) (a : Option Addr) (n c : Nat) (X : List UInt8) (hv : BytesAt w (.slice a n c) X) (hX : X.length ≤ 1000000000) (hT : Tabs w) (hb : ∀ j, (Value.slice a n c).ownBlock = some j → j < w.heap.size) :
    Dec w.heap.size (w.alloc (.cells (dec0 (.slice a n c)) 68)).heap.size (w.alloc (.cells (dec0 (.slice a n c)) 68)) 0 X := by
  have hk := (Keeps.refl (fun _ => False) w).alloc (.cells (dec0 (.slice a n c)) 68)
  have hb2 := hv.keeps hk (fun _ _ => id)
  have hs : (w.alloc (.cells (dec0 (.slice a n c)) 68)).heap.size = w.heap.size + 1 := by simp
  rw [hs]
  exact ⟨_, _, _, _, _, .slice a n c, .slice a n c, X, heap_alloc_new w _, hb2, hb2, fun e => by have := hb _ e; omega, fun e => by have := hb _ e; omega, fun j hj => by have := hb j hj; omega, fun j hj => by have := hb j hj; omega, hX, hT.keeps hk (fun _ _ => id), hT.size, by omega, by rw [hs]; exact Nat.le_refl _⟩

theorem newDecoder_dec (w : World) (a : Option Addr) (n c : Nat) (X : List UInt8) (hv : BytesAt w (.slice a n c) X) (hX : X.length ≤ 1000000000) (hT : Tabs w) (hb : ∀ j, (Value.slice a n c).ownBlock = some j → j < w.heap.size) :
    Calls Tryz.prog 14 #[.slice a n c] w fun e w' => e = .returned (.pointer (some ⟨w.heap.size, 0, none⟩)) ∧ Keeps (fun _ => False) w w' ∧ w'.heap[w.heap.size]? = some (.cells (dec0 (.slice a n c)) 68 (0, 0)) ∧ Dec w.heap.size w'.heap.size w' 0 X := by
  refine (newDecoder_any a n c w).mono ?_
  rintro e w' ⟨rfl, rfl⟩
  exact ⟨rfl, (Keeps.refl _ w).alloc _, heap_alloc_new w _, dec_new w a n c X hv hX hT hb⟩

set_option maxRecDepth 1000000 in
theorem textTokens_any (v : Value) (X : List UInt8) (ts : List TT) (w : World) (hv : BytesAt w v X) (hX : X.length ≤ 1000000000) (hr : Reads 0 X ts) (hn : ts.length ≤ 1000000) (hT : Tabs w) (h1 : ∀ D N, OneOk D N) :
    Calls Tryz.prog 8 #[v] w fun e w' => ∃ V xs, e = .returned (.tuple #[V, .bool true]) ∧ w'.ownsRow w.heap.size 39 6 V ts.length xs ∧ TCells ts xs ∧ Keeps (fun _ => False) w w' := by
  have hc := copied_any v X w hv hX
  go_enter Tryz.func8, Tryz.ntmps8
  go_wp2_with (first
    | (go_at_call 15; refine hc.mono ?_; rintro e w1 ⟨V, rfl, hV, hVb, hk1⟩; obtain ⟨a, c, hVf, _, _⟩ := hV.form; subst hVf)
    | (go_at_call 14; refine (newDecoder_dec w1 a X.length c X hV hX (hT.keeps hk1 (fun _ _ => id)) (fun j hj => (hVb j hj).2)).mono ?_; rintro e w2 ⟨rfl, hk2, _, hd⟩)
    | (go_at_call 13; refine (textRead_any _ X ts w2 hd hr (h1 _ _) hn).mono ?_; rintro e w3 ⟨V3, xs, rfl, ho, htc, hk3⟩))
  go_ret2
  have hk := hk1.trans hk2 (fun _ _ => id)
  exact ⟨_, xs, rfl, owns_mono ho hk.size, htc, hk.trans hk3 (fun i hi h => by have := hk1.size; omega)⟩

set_option maxRecDepth 1000000 in
theorem unmarshal_any (l : List UInt8) (w : World) (hT : Tabs w) (hl : l.length ≤ 1000000) (hq : (quote false l).length ≤ 1000000000) :
    Calls Tryz.prog 12 #[.string (mk (quote false l))] w fun e w' => e = .returned (.tuple #[.string (mk l), .nilIface]) ∧ Keeps (fun _ => False) w w' := by
  obtain ⟨c, w1, hcv, hb, hk1⟩ := run_to_bytes (quote false l) (by unfold maxLen; omega) w
  obtain ⟨n, hn⟩ : ∃ n, (quote false l).length = n := ⟨_, rfl⟩
  rw [hn] at hcv hb
  have hnb : n ≤ 1000000000 := by omega
  have HB := Lib.hid hb
  have HN := Lib.hid hn
  have hlt : w.heap.size < w1.heap.size := bytes_lt hb (by simp [quote]) _ rfl
  obtain ⟨s, hs⟩ : ∃ s, mk (quote false l) = s := ⟨_, rfl⟩
  rw [hs] at hcv ⊢
  clear hb hn hs
  go_enter Tryz.func12, Tryz.ntmps12
  go_wp2_with (first
    | (go_at_call 14; refine (newDecoder_dec w1 _ n c _ HB.out (by rw [HN.out]; exact hnb) (hT.keeps hk1 (fun _ _ => id)) (fun j hj => by simp [Value.ownBlock] at hj; omega)).mono ?_; rintro e w2 ⟨rfl, hk2, hrow, _⟩; have hps := parseString_any w1.heap.size _ _ l [] w2 hrow rfl (by rw [List.append_nil]; exact HB.out.keeps hk2 (fun _ _ => id)) (by rw [List.append_nil, HN.out]; omega) (by omega) ((hT.keeps hk1 (fun _ _ => id)).keeps hk2 (fun _ _ => id)) (by intro r hr; cases hr) (fun e => absurd (Option.some.inj e) (Nat.ne_of_lt hlt)))
    | (go_at_call 22; refine hps.mono ?_; rintro e w4 ⟨rfl, V, w3, rfl, hk3, hV, hVi⟩))
  go_ret2
  refine ⟨rfl, ?_⟩
  exact Keeps.setCell (((hk1.trans hk2 (fun _ _ => id)).trans hk3 (fun _ _ => id))) ⟨w1.heap.size, 10, none⟩ (fun h => by have : w1.heap.size < w.heap.size := h; omega) V

set_option maxRecDepth 1000000 in
theorem textUnquote_any (l : List UInt8) (w : World) (hT : Tabs w) (hl : l.length ≤ 1000000) (hq : (quote false l).length ≤ 1000000000) :
    Calls Tryz.prog 7 #[.string (mk (quote false l))] w fun e w' => e = .returned (.tuple #[.string (mk l), .bool true]) ∧ Keeps (fun _ => False) w w' := by
  have hc := unmarshal_any l w hT hl hq
  obtain ⟨s, hs⟩ : ∃ s, mk (quote false l) = s := ⟨_, rfl⟩
  rw [hs] at hc ⊢
  clear hs
  go_enter Tryz.func7, Tryz.ntmps7
  go_wp2_with (go_at_call 12; refine hc.mono ?_; rintro e w1 ⟨rfl, hk1⟩)
  go_ret2
  exact ⟨rfl, hk1⟩

end Go.Proofs.YtdckklmhnhbpiaaGreatDoor
