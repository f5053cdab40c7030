/-
  A Decoder of the text form between two calls, and what Read makes of it.
  textRead: all tokens of a message, as plain data.
  The thin package's functions of the text form, over texts and messages of texts.
-/
import Derived.Test.YtmijjppjodpagaaGreatDoorM36
import Derived.Test.YtmijjppjodpagaaGreatDoorM37
import Derived.Test.YtmijjppjodpagaaGreatDoorM42
import Derived.Test.YtmijjppjodpagaaGreatDoorM35
set_option linter.unusedVariables false
set_option linter.unusedSimpArgs false
namespace Go.Proofs.YtmijjppjodpagaaGreatDoor
open Go.RowKit

/-- A Decoder in row D that has read a token of kind k and has the bytes X ahead of it; all that it reads lies in rows below N. -/
def Dec (D N : Nat) (w : World) (k : Nat) (X : List UInt8) : Prop :=
  ∃ ta tna tp tr ts vo vi orig, w.heap[D]? = some (.cells (dRow (.int .u8 k) ta tna tp tr ts vo vi) 129 (0, 0)) ∧ BytesAt w vo orig ∧ BytesAt w vi X ∧ vi.ownBlock ≠ some D ∧ vo.ownBlock ≠ some D ∧
    (∀ j, vi.ownBlock = some j → j < N) ∧ (∀ j, vo.ownBlock = some j → j < N) ∧ X.length ≤ 1000000000 ∧ Tabs w ∧ 14 ≤ D ∧ D < N ∧ N ≤ w.heap.size

theorem Dec.keeps {D N : Nat} {w w' : World} {k : Nat} {X : List UInt8} (h : Dec D N w k X) (hk : Keeps (fun j => N ≤ j) w w') : Dec D N w' k X := by
  obtain ⟨ta, tna, tp, tr, ts, vo, vi, orig, hrow, hvo, hv, h1, h2, h3, h4, h5, h6, h7, h8, h9⟩ := h
  exact ⟨ta, tna, tp, tr, ts, vo, vi, orig, hk.row hrow (by omega), hvo.keeps hk (fun j hj e => by have := h4 j hj; omega), hv.keeps hk (fun j hj e => by have := h3 j hj; omega), h1, h2, h3, h4, h5, h6.keeps hk (fun j hj e => by omega), h7, h8, Nat.le_trans h9 hk.size⟩

/-- What a call of Read leaves. -/
def ReadPost (D N : Nat) (w : World) (k a na : Nat) (s : ByteArray) (rw rest : List UInt8) (e : Ending) (w' : World) : Prop :=
  ∃ raw pos, e = .returned (.tuple #[.agg #[.int .u8 k, .int .u8 a, .int .u8 na, .int .i64 pos, raw, .string s], .nilIface]) ∧ BytesAt w' raw rw ∧ (∀ j, raw.ownBlock = some j → j < N) ∧ raw.ownBlock ≠ some D ∧ Keeps (fun j => j = D) w w' ∧ Dec D N w' k rest

theorem read_dec (D N k0 : Nat) (w : World) (k a na : Nat) (s : ByteArray) (X rw rest : List UInt8) (h : Dec D N w k0 X) (hk8 : ((k : Int) == 8) = false) (hk9 : ((k : Int) == 9) = false) (hrest : rest.length ≤ 1000000000)
    (hnext : ∀ (cur : Array Value) (vo vi : Value) (orig : List UInt8) (w1 : World), w1.heap[D]? = some (.cells cur 129 (0, 0)) → cur[9]? = some vo → cur[10]? = some vi → cur[8]? = some (.slice none 0 0) → cur.size = 11 → BytesAt w1 vo orig → BytesAt w1 vi X →
      vi.ownBlock ≠ some D → vo.ownBlock ≠ some D → (∀ j, vi.ownBlock = some j → j < w1.heap.size) → X.length ≤ 1000000000 → Tabs w1 → 14 ≤ D →
      Calls Tryz.prog 85 #[.pointer (some ⟨D, 0, none⟩), .int .u8 k0] w1 (NextPost D cur vi w1 k a na s rw rest)) :
    Calls Tryz.prog 62 #[.pointer (some ⟨D, 0, none⟩)] w (ReadPost D N w k a na s rw rest) := by
  obtain ⟨ta, tna, tp, tr, ts, vo, vi, orig, hrow, hvo, hv, h1, h2, h3, h4, h5, h6, h7, h8, h9⟩ := h
  refine (read_of D k0 ta tna tp tr ts vo vi k a na s rw rest w hrow hk8 hk9 h1 (fun j hj => Nat.lt_of_lt_of_le (h3 j hj) h9) fun w1 hk => ?_).mono ?_
  · exact hnext _ vo vi orig w1 (hk.row hrow id) rfl rfl rfl rfl (hvo.keeps hk (fun _ _ => id)) (hv.keeps hk (fun _ _ => id)) h1 h2 (fun j hj => Nat.lt_of_lt_of_le (h3 j hj) (Nat.le_trans h9 hk.size)) h5 (h6.keeps hk (fun _ _ => id)) h7
  · rintro e w' ⟨raw, V, pos, rfl, hraw, hri, hV, hVi, hk, hr⟩
    have nd : ∀ U, Within vi U → U.ownBlock ≠ some D := fun U hU e => h1 (hU D e)
    exact ⟨raw, pos, rfl, hraw, fun j hj => h3 j (hri j hj), nd raw hri, hk, _, _, _, _, _, vo, V, orig, hr, hvo.keeps hk (fun j hj e => by subst e; exact h2 hj), hV, nd V hVi, h2, fun j hj => h3 j (hVi j hj), h4, hrest, h6.keeps hk (fun j hj e => by omega), h7, h8, Nat.le_trans h9 hk.size⟩

theorem skip_len (l : List UInt8) : (skip l).length ≤ l.length := (List.dropWhile_sublist _).length_le

theorem read_name (D N k0 : Nat) (w : World) (nm T : List UInt8) (hk : k0 = 0 ∨ k0 = 3) (h : Dec D N w k0 (nm ++ 58 :: T)) (hn0 : nm ≠ []) (hnl : ∀ c ∈ nm, Letter c) (hnm : nm.length ≤ 1000000) (hs : ∀ r, skip T ≠ 35 :: r) :
    Calls Tryz.prog 62 #[.pointer (some ⟨D, 0, none⟩)] w (ReadPost D N w 2 129 0 ⟨#[]⟩ nm (skip T)) := by
  have hl : (skip T).length ≤ 1000000000 := by
    obtain ⟨_, _, _, _, _, _, _, _, _, _, _, _, _, _, _, h5, _⟩ := h
    have := skip_len T
    simp at h5
    omega
  rcases hk with rfl | rfl
  · exact read_dec D N 0 w 2 129 0 _ _ _ _ h rfl rfl hl fun cur vo vi orig w1 h1 h2 h3 h4 h5 h6 h7 h8 h9 _ _ _ _ => next_name0 D cur vo vi orig w1 h1 h2 h3 h4 h5 h6 h8 h9 nm T h7 hn0 hnl hnm hs
  · exact read_dec D N 3 w 2 129 0 _ _ _ _ h rfl rfl hl fun cur vo vi orig w1 h1 h2 h3 h4 h5 h6 h7 h8 h9 _ _ _ _ => next_name3 D cur vo vi orig w1 h1 h2 h3 h4 h5 h6 h8 h9 nm T h7 hn0 hnl hnm hs
theorem read_str (D N : Nat) (w : World) (l T : List UInt8) (h : Dec D N w 2 (quote false l ++ T)) (hll : l.length ≤ 1000000) (hs : ∀ r, skip T ≠ 35 :: r) (hq : ∀ c r, skip T = c :: r → c.toNat ≠ 34 ∧ c.toNat ≠ 39) :
    Calls Tryz.prog 62 #[.pointer (some ⟨D, 0, none⟩)] w (ReadPost D N w 3 2 0 (mk l) ((quote false l ++ T).take ((quote false l ++ T).length - (skip T).length)) (skip T)) := by
  have hl : (skip T).length ≤ 1000000000 := by
    obtain ⟨_, _, _, _, _, _, _, _, _, _, _, _, _, _, _, h5, _⟩ := h
    have := skip_len T
    simp at h5
    omega
  exact read_dec D N 2 w 3 2 0 _ _ _ _ h rfl rfl hl fun cur vo vi orig w1 h1 h2 h3 h4 h5 h6 h7 h8 h9 _ h10 hT hD => next_str D cur vo vi orig w1 h1 h2 h3 h4 h5 h6 h8 h9 l T h7 (by omega) (by omega) hT hD hs hq
theorem read_eof (D N k0 : Nat) (w : World) (hk : k0 = 0 ∨ k0 = 3) (h : Dec D N w k0 []) :
    Calls Tryz.prog 62 #[.pointer (some ⟨D, 0, none⟩)] w (ReadPost D N w 1 0 0 ⟨#[]⟩ [] []) := by
  rcases hk with rfl | rfl
  · exact read_dec D N 0 w 1 0 0 _ _ _ _ h rfl rfl (by simp) fun cur vo vi orig w1 h1 h2 h3 h4 h5 h6 h7 h8 h9 h10 _ _ _ => next_eof0 D cur vo vi orig w1 h1 h2 h3 h4 h5 h6 h8 h9 h7 h10
  · exact read_dec D N 3 w 1 0 0 _ _ _ _ h rfl rfl (by simp) fun cur vo vi orig w1 h1 h2 h3 h4 h5 h6 h7 h8 h9 h10 _ _ _ => next_eof3 D cur vo vi orig w1 h1 h2 h3 h4 h5 h6 h8 h9 h7 h10
end Go.Proofs.YtmijjppjodpagaaGreatDoor

namespace Go.Proofs.YtmijjppjodpagaaGreatDoor
open Go.RowKit

theorem info39 : (Tryz.prog.info? 125).map (fun i => (i.zero, i.size, i.bytes)) = some (some (.agg #[.int .i64 0, .int .i64 0, .int .i64 0, .bool false, .string ⟨#[]⟩, .string ⟨#[]⟩]), 6, 64) := by kernel_rfl

/-- A token's six cells as plain data. -/
def tcells (t : TT) (p : Int) : List Value := [.int .i64 t.kind, .int .i64 t.nk, .int .i64 p, .bool t.sep, .string (mk t.raw), .string (mk t.str)]
def TCells (ts : List TT) (xs : List Value) : Prop := ∃ ps : List Int, ps.length = ts.length ∧ xs = (List.zipWith tcells ts ps).flatten
theorem TCells.nil : TCells [] [] := ⟨[], rfl, rfl⟩
theorem TCells.snoc {ts : List TT} {xs : List Value} (h : TCells ts xs) (t : TT) (p : Int) : TCells (ts ++ [t]) (xs ++ tcells t p) := by
  obtain ⟨ps, h1, rfl⟩ := h
  refine ⟨ps ++ [p], by simp [h1], ?_⟩
  rw [List.zipWith_append (by rw [h1])]
  simp

/-- The walk of Read at one digit, where it is asked. -/
def OneOk (D N : Nat) : Prop := ∀ w, Dec D N w 2 [49] → Calls Tryz.prog 62 #[.pointer (some ⟨D, 0, none⟩)] w (ReadPost D N w 3 1 0 (mk [49]) [49] [])

/-- What textToken makes of a token. -/
def TokIs (t : TT) (a : Nat) : Prop := (t.kind = 2 ∧ a = 129 ∧ t.nk = 1 ∧ t.sep = true ∧ t.str = t.raw ∧ t.raw ≠ []) ∨ (t.kind = 3 ∧ t.nk = 0 ∧ t.sep = false ∧ t.str = [])

theorem read_any (D N k : Nat) (X : List UInt8) (t : TT) (ts : List TT) (w : World) (h1 : OneOk D N) (h : Dec D N w k X) (hr : Reads k X (t :: ts)) :
    ∃ a na s X', TokIs t a ∧ Reads t.kind X' ts ∧ Calls Tryz.prog 62 #[.pointer (some ⟨D, 0, none⟩)] w (ReadPost D N w t.kind a na s t.raw X') := by
  cases hr with
  | name k nm T ts hk h0 hl hn hs hr => exact ⟨129, 0, _, skip T, .inl ⟨rfl, rfl, rfl, rfl, rfl, h0⟩, hr, read_name D N k w nm T hk h h0 hl hn hs⟩
  | str l T ts hl hs hq hr => exact ⟨2, 0, _, skip T, .inr ⟨rfl, rfl, rfl, rfl⟩, hr, read_str D N w l T h hl hs hq⟩
  | one => exact ⟨1, 0, _, [], .inr ⟨rfl, rfl, rfl, rfl⟩, .eof 3 (.inr rfl), h1 w h⟩

theorem textToken_any (t : TT) (a na : Nat) (pos : Int) (ar : Option Addr) (n c : Nat) (s : ByteArray) (w : World) (h : TokIs t a) (hraw : BytesAt w (.slice ar n c) t.raw) :
    Calls Tryz.prog 64 #[.agg #[.int .u8 t.kind, .int .u8 a, .int .u8 na, .int .i64 pos, .slice ar n c, .string s]] w fun e w' => e = .returned (.agg #[.int .i64 t.kind, .int .i64 t.nk, .int .i64 pos, .bool t.sep, .string (mk t.raw), .string (mk t.str)]) ∧ Keeps (fun _ => False) w w' := by
  obtain ⟨kd, nk, sep, raw, str⟩ := t
  rcases h with ⟨h2, ha, h3, h4, h5, h0⟩ | ⟨h2, h3, h4, h5⟩ <;> dsimp only at h2 h3 h4 h5 <;> subst h2 h3 h4 h5
  · subst ha
    exact textToken_name na pos ar n c s _ w h0 hraw
  · exact textToken_other 3 a na pos ar n c s _ w rfl (by omega) hraw

/-- What holds at the head of each round of textRead: B is the world ahead of it. -/
def TRel (D : Nat) (B : World) (all : List TT) (out : Value) (wr : World) : Prop :=
  ∃ done rest k X xs, done ++ rest = all ∧ Dec D B.heap.size wr k X ∧ Reads k X rest ∧ wr.ownsRow B.heap.size 125 6 out done.length xs ∧ TCells done xs ∧ Keeps (fun j => j = D) B wr

theorem Keeps.grown {w w' : World} {D : Nat} (h : Keeps (fun j => j = D) w w') : w.grownBy w' (some D) :=
  ⟨h.os, h.tape, h.output, h.size, fun k hk hn => h.block k hk (fun e => hn (by rw [e]))⟩
theorem Keeps.of_grown {w w' : World} {r : Option Nat} (h : w.grownBy w' r) : Keeps (fun j => r = some j) w w' :=
  ⟨h.os, h.tape, h.output, h.size, fun k hk hn => h.block k hk (fun e => hn e.symm)⟩
theorem owns_form {w : World} {base : Nat} {e : TypeId} {size n : Nat} {v : Value} {xs : List Value} (h : w.ownsRow base e size v n xs) : ∃ ao c, v = .slice ao n c ∧ (∀ j, v.ownBlock = some j → base ≤ j) := by
  rcases h.2 with ⟨rfl, rfl⟩ | ⟨g, cap, cur, rfl, hb, _⟩
  · exact ⟨none, 0, rfl, fun j hj => by simp [Value.ownBlock] at hj⟩
  · exact ⟨_, _, rfl, fun j hj => by simp [Value.ownBlock] at hj; omega⟩

theorem textToken_tk (t : TT) (tk a na : Nat) (pos : Int) (ar : Option Addr) (n c : Nat) (s : ByteArray) (w : World) (htk : t.kind = tk) (h : TokIs t a) (hraw : BytesAt w (.slice ar n c) t.raw) :
    Calls Tryz.prog 64 #[.agg #[.int .u8 tk, .int .u8 a, .int .u8 na, .int .i64 pos, .slice ar n c, .string s]] w fun e w' => e = .returned (.agg #[.int .i64 t.kind, .int .i64 t.nk, .int .i64 pos, .bool t.sep, .string (mk t.raw), .string (mk t.str)]) ∧ Keeps (fun _ => False) w w' := by
  subst htk
  exact textToken_any t a na pos ar n c s w h hraw
theorem tc_one (t : TT) (p : Int) : ∀ u ∈ tcells t p, u.oneCell' = true := by
  intro u hu
  simp only [tcells, List.mem_cons, List.not_mem_nil, or_false] at hu
  rcases hu with rfl | rfl | rfl | rfl | rfl | rfl <;> rfl
theorem tc_news (t : TT) (p : Int) (w : World) : ∀ j u, (tcells t p)[j]? = some u → (w.alloc (.cells #[.int .i64 t.kind, .int .i64 t.nk, .int .i64 p, .bool t.sep, .string (mk t.raw), .string (mk t.str)] 125)).cell? ((⟨w.heap.size, 0, none⟩ : Addr).add j) = some u := by
  intro j u hu
  rw [show (⟨w.heap.size, 0, none⟩ : Addr).add j = ⟨w.heap.size, j, none⟩ by unfold Addr.add; split <;> simp_all]
  rw [cell_row (heap_alloc_new w _)]
  simpa [tcells] using hu
theorem own_up {base n : Nat} {e : TypeId} {size D : Nat} {v : Value} {xs : List Value} {wr w1 w3 : World} {o1 o2 o3 : Obj} (h : wr.ownsRow base e size v n xs) (hk1 : Keeps (fun j => j = D) wr w1) (hk3 : Keeps (fun _ => False) ((w1.alloc o1).alloc o2) w3) (hob : ∀ j, v.ownBlock = some j → base ≤ j) (hd : D < base) :
    (w3.alloc o3).ownsRow base e size v n xs := by
  have h1 := h.kept hk1.grown (.inr fun e => by have := hob D e; omega)
  have h2 := ((h1.alloc o1).alloc o2).kept (hk3.mono (S1 := fun j => j = D) (fun _ _ => False.elim)).grown (.inr fun e => by have := hob D e; omega)
  exact h2.alloc o3

set_option maxRecDepth 1000000 in
set_option maxHeartbeats 20000000 in
theorem textRead_any (D : Nat) (X : List UInt8) (ts : List TT) (w : World) (hd : Dec D w.heap.size w 0 X) (hr : Reads 0 X ts) (h1 : OneOk D w.heap.size) (hn : ts.length ≤ 1000000) :
    Calls Tryz.prog 43 #[.pointer (some ⟨D, 0, none⟩), .slice none 0 0] w fun e w' => ∃ v xs, e = .returned (.tuple #[v, .bool true]) ∧ w'.ownsRow w.heap.size 125 6 v ts.length xs ∧ TCells ts xs ∧ Keeps (fun j => j = D) w w' := by
  have hdl : D < w.heap.size := by obtain ⟨_, _, _, _, _, _, _, _, h, _⟩ := hd; exact row_lt h
  go_enter Tryz.func43, Tryz.ntmps43
  go_wp2
  go_loopw [6] (fun out wr => TRel D w ts out wr) (fun out _ => 2000000 - lenOf out)
  case atStart => exact ⟨[], ts, 0, X, [], rfl, hd, hr, World.ownsRow_nil _ _ _ _, .nil, Keeps.refl _ _⟩
  case round =>
    obtain ⟨done, rest, k, X', xs, hdr, hdd, hrr, hown, htc, hk⟩ := hrel
    obtain ⟨ao, co, rfl, hob⟩ := owns_form hown
    obtain ⟨n, hne⟩ : ∃ n, done.length = n := ⟨_, rfl⟩
    have hnl : n ≤ 1000000 := by have := congrArg List.length hdr; rw [List.length_append] at this; omega
    rw [hne] at hown hob ⊢
    have hn0 : ¬ ((n : Int) < 0) := by omega
    have HK := Lib.hid hk
    have HO := Lib.hid hown
    have HT := Lib.hid htc
    have HD := Lib.hid hdr
    have HN := Lib.hid hne
    clear hk hown htc hdr hne
    cases rest with
    | nil =>
      obtain ⟨hkk, rfl⟩ : (k = 0 ∨ k = 3) ∧ X' = [] := by cases hrr; exact ⟨by assumption, rfl⟩
      have hc := read_eof D w.heap.size k wr hkk hdd
      go_wp2_with (first
        | (go_at_call 62; refine hc.mono ?_; rintro e w1 ⟨raw, pos, rfl, hraw, hrb, hrD, hk1, hd1⟩; obtain ⟨ar, cr, hrf, _, _⟩ := hraw.form; subst hrf)
        | (go_at_call 63; refine (tok_kind _ _ _ _ _ _ _ _ _).mono ?_; rintro e w2 ⟨rfl, rfl⟩))
      go_ret2
      refine ⟨_, xs, rfl, ?_, ?_, ?_⟩
      · have h1 : done = ts := by have h := HD.out; rw [List.append_nil] at h; exact h
        rw [← h1, HN.out]
        have h2 := HO.out.kept hk1.grown (.inr fun e => by have h3 := hob D e; omega)
        exact (h2.alloc _).alloc _
      · have h1 : done = ts := by have h := HD.out; rw [List.append_nil] at h; exact h
        rw [← h1]; exact HT.out
      · exact ((HK.out.trans hk1 (fun _ _ h => h)).alloc _).alloc _
    | cons t rest =>
      obtain ⟨a, na, s, X2, hti, hr2, hc⟩ := read_any D w.heap.size k X' t rest wr h1 hdd hrr
      have ht1 : ((t.kind : Int) == 1) = false := by rcases hti with h | h <;> rw [h.1] <;> rfl
      have hn2 : n + 1 ≤ 1000000 := by have := congrArg List.length HD.out; rw [List.length_append, List.length_cons, HN.out] at this; omega
      obtain ⟨i0, hi0, hz0, hz1, hz2⟩ := info_parts info39
      obtain ⟨tk, htk⟩ : ∃ tk, t.kind = tk := ⟨_, rfl⟩
      have HTI := Lib.hid hti
      rw [htk] at hc ht1
      have HTK := Lib.hid htk
      have HR2 := Lib.hid hr2
      clear hti hr2 htk
      go_wp2_with (first
        | (go_at_call 62; refine hc.mono ?_; rintro e w1 ⟨raw, pos, rfl, hraw, hrb, hrD, hk1, hd1⟩; obtain ⟨ar, cr, hrf, _, _⟩ := hraw.form; subst hrf; have HRW := Lib.hid hraw; have HD1 := Lib.hid hd1; clear hraw hd1)
        | (go_at_call 63; refine (tok_kind _ _ _ _ _ _ _ _ _).mono ?_; rintro e w2 ⟨rfl, rfl⟩)
        | (go_at_call 64; refine (textToken_tk t tk a na pos ar _ cr s _ HTK.out HTI.out (HRW.out.keeps (((Keeps.refl (fun _ => False) w1).alloc _).alloc _) (fun _ _ => id))).mono ?_; rintro e w3 ⟨rfl, hk3⟩)
        | (at_builtin; refine wpList_append_own _ rfl (.tmp 36) (.tmp 39) 69 rfl w.heap.size 125 i0 _ 6 64 Tryz.underlying69 hi0 hz0 hz1 hz2 rfl (by omega) _ n xs rfl (own_up HO.out hk1 hk3 hob hdl) ⟨w3.heap.size, 0, none⟩ 1 1 (tcells t pos) rfl rfl (tc_news t pos w3) (tc_one t pos) (by unfold maxLen; omega) (by omega) (by have h1 := hk1.size; have h2 := hk3.size; have h3 := HK.out.size; simp at h2 ⊢; omega) ?_; intro v' w4 ho4 hg4 hi4))
      have hgk := Keeps.of_grown hg4
      have hnb : ∀ j, j < w.heap.size → ¬ (Value.slice ao n co).ownBlock = some j := fun j hj e => by have := hob j e; omega
      have hs1 := hk1.size
      have hs3 := hk3.size
      have hsw := HK.out.size
      have hw1 : w.heap.size ≤ w1.heap.size := by omega
      have hw3 : w.heap.size ≤ w3.heap.size := by simp at hs3; omega
      have kq : Keeps (fun j => w.heap.size ≤ j) w1 w4 :=
        (((((Keeps.refl (fun j => w.heap.size ≤ j) w1).alloc _).alloc _).trans hk3 (fun _ _ => False.elim)).alloc _).trans hgk (fun j hj e => hob j e)
      have hlen : done.length + 1 = n + 1 := by rw [HN.out]
      refine ⟨⟨done ++ [t], rest, tk, X2, xs ++ tcells t pos, by rw [List.append_assoc]; exact HD.out, HD1.out.keeps kq, by have h := HR2.out; rw [HTK.out] at h; exact h, ?_, HT.out.snoc t pos, ?_⟩, ?_⟩
      · rw [List.length_append, List.length_singleton, HN.out]; exact ho4
      · exact (HK.out.trans hk1 (fun _ _ h => h)).trans kq (fun j hj e => by omega)
      · obtain ⟨a4, c4, rfl, _⟩ := owns_form ho4
        simp only [lenOf]
        omega
end Go.Proofs.YtmijjppjodpagaaGreatDoor

namespace Go.Proofs.YtmijjppjodpagaaGreatDoor
open Go.RowKit

theorem owns_mono {w : World} {b b' : Nat} {e : TypeId} {size n : Nat} {v : Value} {xs : List Value} (h : w.ownsRow b e size v n xs) (hb : b' ≤ b) : w.ownsRow b' e size v n xs := by
  refine ⟨h.1, ?_⟩
  rcases h.2 with h2 | ⟨g, cap, cur, h1, h2, h3⟩
  · exact .inl h2
  · exact .inr ⟨g, cap, cur, h1, Nat.le_trans hb h2, h3⟩

set_option maxRecDepth 1000000 in
theorem copied_any (v : Value) (l : List UInt8) (w : World) (hv : BytesAt w v l) (hl : l.length ≤ 1000000000) :
    Calls Tryz.prog 19 #[v] w fun e w' => ∃ V, e = .returned V ∧ BytesAt w' V l ∧ (∀ j, V.ownBlock = some j → w.heap.size ≤ j ∧ j < w'.heap.size) ∧ Keeps (fun _ => False) w w' := by
  have hown : Own (w.alloc (.cells #[] 5)) (.slice (some ⟨w.heap.size, 0, none⟩) 0 0) [] := .inr ⟨w.heap.size, 0, #[], rfl, heap_alloc_new w _, by simp, by simp, rfl, rfl⟩
  have hv' := hv.keeps ((Keeps.refl (fun _ => False) w).alloc (.cells #[] 5)) (fun _ _ => id)
  go_enter Tryz.func19, Tryz.ntmps19
  go_wp2_with (at_builtin; refine at_own_app rfl (.tmp 3) (.tmp 4) rfl hown rfl rfl hv' (by simp; omega) ?_; intro V w2 ho hk hm _)
  go_ret
  rw [List.nil_append] at ho
  refine ⟨V, rfl, ho.bytes, fun j hj => ⟨?_, ho.lt j hj⟩, ((Keeps.refl (fun _ => False) w).alloc _).trans hk (fun i hi h => ?_)⟩
  · rcases hm j hj with h | h
    · simp [Value.ownBlock] at h; omega
    · simp at h; omega
  · simp [blk, Value.ownBlock] at h; omega

/-- A new Decoder. -/
theorem dec_new (w : World) (a : Option Addr) (n c : Nat) (X : List UInt8) (hv : BytesAt w (.slice a n c) X) (hX : X.length ≤ 1000000000) (hT : Tabs w) (hb : ∀ j, (Value.slice a n c).ownBlock = some j → j < w.heap.size) :
    Dec w.heap.size (w.alloc (.cells (dec0 (.slice a n c)) 129)).heap.size (w.alloc (.cells (dec0 (.slice a n c)) 129)) 0 X := by
  have hk := (Keeps.refl (fun _ => False) w).alloc (.cells (dec0 (.slice a n c)) 129)
  have hb2 := hv.keeps hk (fun _ _ => id)
  have hs : (w.alloc (.cells (dec0 (.slice a n c)) 129)).heap.size = w.heap.size + 1 := by simp
  rw [hs]
  exact ⟨_, _, _, _, _, .slice a n c, .slice a n c, X, heap_alloc_new w _, hb2, hb2, fun e => by have := hb _ e; omega, fun e => by have := hb _ e; omega, fun j hj => by have := hb j hj; omega, fun j hj => by have := hb j hj; omega, hX, hT.keeps hk (fun _ _ => id), hT.size, by omega, by rw [hs]; exact Nat.le_refl _⟩

theorem newDecoder_dec (w : World) (a : Option Addr) (n c : Nat) (X : List UInt8) (hv : BytesAt w (.slice a n c) X) (hX : X.length ≤ 1000000000) (hT : Tabs w) (hb : ∀ j, (Value.slice a n c).ownBlock = some j → j < w.heap.size) :
    Calls Tryz.prog 44 #[.slice a n c] w fun e w' => e = .returned (.pointer (some ⟨w.heap.size, 0, none⟩)) ∧ Keeps (fun _ => False) w w' ∧ w'.heap[w.heap.size]? = some (.cells (dec0 (.slice a n c)) 129 (0, 0)) ∧ Dec w.heap.size w'.heap.size w' 0 X := by
  refine (newDecoder_any a n c w).mono ?_
  rintro e w' ⟨rfl, rfl⟩
  exact ⟨rfl, (Keeps.refl _ w).alloc _, heap_alloc_new w _, dec_new w a n c X hv hX hT hb⟩

set_option maxRecDepth 1000000 in
theorem textTokens_any (v : Value) (X : List UInt8) (ts : List TT) (w : World) (hv : BytesAt w v X) (hX : X.length ≤ 1000000000) (hr : Reads 0 X ts) (hn : ts.length ≤ 1000000) (hT : Tabs w) (h1 : ∀ D N, OneOk D N) :
    Calls Tryz.prog 23 #[v] w fun e w' => ∃ V xs, e = .returned (.tuple #[V, .bool true]) ∧ w'.ownsRow w.heap.size 125 6 V ts.length xs ∧ TCells ts xs ∧ Keeps (fun _ => False) w w' := by
  have hc := copied_any v X w hv hX
  go_enter Tryz.func23, Tryz.ntmps23
  go_wp2_with (first
    | (go_at_call 19; refine hc.mono ?_; rintro e w1 ⟨V, rfl, hV, hVb, hk1⟩; obtain ⟨a, c, hVf, _, _⟩ := hV.form; subst hVf)
    | (go_at_call 44; refine (newDecoder_dec w1 a X.length c X hV hX (hT.keeps hk1 (fun _ _ => id)) (fun j hj => (hVb j hj).2)).mono ?_; rintro e w2 ⟨rfl, hk2, _, hd⟩)
    | (go_at_call 43; refine (textRead_any _ X ts w2 hd hr (h1 _ _) hn).mono ?_; rintro e w3 ⟨V3, xs, rfl, ho, htc, hk3⟩))
  go_ret2
  have hk := hk1.trans hk2 (fun _ _ => id)
  exact ⟨_, xs, rfl, owns_mono ho hk.size, htc, hk.trans hk3 (fun i hi h => by have := hk1.size; omega)⟩
end Go.Proofs.YtmijjppjodpagaaGreatDoor
