/-
  jsonRead at the text '[1]', JsonTokens there, and lives.
-/
import Derived.Test.YtdckklmhnhbpiaaGreatDoorAJTT
import Derived.Test.YtdckklmhnhbpiaaGreatDoorAImpl
import Derived.Test.YtdckklmhnhbpiaaGreatDoorANextO
import Derived.Test.YtdckklmhnhbpiaaGreatDoorAScalar
set_option linter.unusedSimpArgs false
set_option linter.unusedVariables false
namespace Go.Proofs.YtdckklmhnhbpiaaGreatDoor
open Go.RowKit

theorem jinfo133 : (Tryz.prog.info? 133).map (fun i => (i.zero, i.size, i.bytes)) = some (some (.agg #[.int .i64 0, .int .i64 0, .bool false, .string ⟨#[]⟩, .string ⟨#[]⟩]), 5, 56) := by kernel_rfl

/-- A JSON Decoder in row D that has read a token of kind k, its open stack being S, and has the bytes X ahead of it. -/
def JDec (D N : Nat) (w : World) (k : Nat) (S : Value) (X : List UInt8) : Prop :=
  ∃ p r b s vo vi orig, w.heap[D]? = some (.cells (jRow (.int .u16 k) p r b s S vo vi) 138 (0, 0)) ∧ BytesAt w vo orig ∧ BytesAt w vi X ∧ vi.ownBlock ≠ some D ∧ vo.ownBlock ≠ some D ∧
    (∀ j, vi.ownBlock = some j → j < N) ∧ (∀ j, vo.ownBlock = some j → j < N) ∧ D < N ∧ N ≤ w.heap.size
theorem JDec.keeps {D N : Nat} {w w' : World} {k : Nat} {S : Value} {X : List UInt8} (h : JDec D N w k S X) (hk : Keeps (fun j => N ≤ j) w w') : JDec D N w' k S X := by
  obtain ⟨p, r, b, s, vo, vi, orig, hrow, hvo, hv, h1, h2, h3, h4, h5, h6⟩ := h
  exact ⟨p, r, b, s, vo, vi, orig, hk.row hrow (by omega), hvo.keeps hk (fun j hj e => by have := h4 j hj; omega), hv.keeps hk (fun j hj e => by have := h3 j hj; omega), h1, h2, h3, h4, h5, Nat.le_trans h6 hk.size⟩
/-- What a call of Read leaves. -/
def JReadPost (D N : Nat) (w : World) (k : Nat) (rw rest : List UInt8) (SP : Value → World → Prop) (e : Ending) (w' : World) : Prop :=
  ∃ raw pos S', e = .returned (.tuple #[.agg #[.int .u16 k, .int .i64 pos, raw, .bool false, .string ⟨#[]⟩], .nilIface]) ∧ BytesAt w' raw rw ∧ (∀ j, raw.ownBlock = some j → j < N) ∧ raw.ownBlock ≠ some D ∧ Keeps (fun j => j = D) w w' ∧ JDec D N w' k S' rest ∧ SP S' w'

theorem jdec_open (D N : Nat) (w : World) (h : JDec D N w 0 (.slice none 0 0) [91, 49, 93]) :
    Calls Tryz.prog 70 #[.pointer (some ⟨D, 0, none⟩)] w (JReadPost D N w 256 [91] [49, 93] (fun S' w' => ∃ g cap, S' = .slice (some ⟨g, 0, none⟩) 1 cap ∧ w.heap.size ≤ g ∧ w'.cell? ⟨g, 0, none⟩ = some (.int .u16 256))) := by
  obtain ⟨p, r, b, s, vo, vi, orig, hrow, hvo, hv, h1, h2, h3, h4, h5, h6⟩ := h
  have hvl : ∀ j, vi.ownBlock = some j → j < w.heap.size := fun j hj => Nat.lt_of_lt_of_le (h3 j hj) h6
  refine (jread_open D p r b s vo vi [91] [49, 93] w hrow h1 hvl fun w1 hk => jnext_open D _ vo vi orig w1 (hk.row hrow id) rfl rfl rfl (hvo.keeps hk (fun _ _ => id)) (hv.keeps hk (fun _ _ => id)) h1 h2 (fun j hj => Nat.lt_of_lt_of_le (hvl j hj) hk.size)).mono ?_
  rintro e w' ⟨raw, V, pos, S', rfl, hraw, hri, hV, hVi, hk, hr, hsp⟩
  have nd : ∀ U, Within vi U → U.ownBlock ≠ some D := fun U hU e => h1 (hU D e)
  exact ⟨raw, pos, S', rfl, hraw, fun j hj => h3 j (hri j hj), nd raw hri, hk, ⟨_, _, _, _, vo, V, orig, hr, hvo.keeps hk (fun j hj e => by subst e; exact h2 hj), hV, nd V hVi, h2, fun j hj => h3 j (hVi j hj), h4, h5, Nat.le_trans h6 hk.size⟩, hsp⟩

theorem jdec_num (D N : Nat) (g c : Nat) (w : World) (h : JDec D N w 256 (.slice (some ⟨g, 0, none⟩) 1 c) [49, 93]) (hg : w.cell? ⟨g, 0, none⟩ = some (.int .u16 256)) (hgD : g ≠ D) :
    Calls Tryz.prog 70 #[.pointer (some ⟨D, 0, none⟩)] w (JReadPost D N w 8 [49] [93] (fun S' _ => S' = .slice (some ⟨g, 0, none⟩) 1 c)) := by
  obtain ⟨p, r, b, s, vo, vi, orig, hrow, hvo, hv, h1, h2, h3, h4, h5, h6⟩ := h
  have hvl : ∀ j, vi.ownBlock = some j → j < w.heap.size := fun j hj => Nat.lt_of_lt_of_le (h3 j hj) h6
  refine (jread_num D p r b s g c vo vi [49] [93] w hrow hg hgD h1 hvl fun w1 hk => jnext_one D _ vo vi orig w1 (hk.row hrow id) rfl rfl rfl (hvo.keeps hk (fun _ _ => id)) (hv.keeps hk (fun _ _ => id)) h1 h2 (fun j hj => Nat.lt_of_lt_of_le (hvl j hj) hk.size)).mono ?_
  rintro e w' ⟨raw, V, pos, S', rfl, hraw, hri, hV, hVi, hk, hr, hsp⟩
  have nd : ∀ U, Within vi U → U.ownBlock ≠ some D := fun U hU e => h1 (hU D e)
  exact ⟨raw, pos, S', rfl, hraw, fun j hj => h3 j (hri j hj), nd raw hri, hk, ⟨_, _, _, _, vo, V, orig, hr, hvo.keeps hk (fun j hj e => by subst e; exact h2 hj), hV, nd V hVi, h2, fun j hj => h3 j (hVi j hj), h4, h5, Nat.le_trans h6 hk.size⟩, hsp⟩

theorem jdec_close (D N : Nat) (g c : Nat) (w : World) (h : JDec D N w 8 (.slice (some ⟨g, 0, none⟩) 1 c) [93]) (hg : w.cell? ⟨g, 0, none⟩ = some (.int .u16 256)) (hgD : g ≠ D) :
    Calls Tryz.prog 70 #[.pointer (some ⟨D, 0, none⟩)] w (JReadPost D N w 512 [93] [] (fun S' _ => S' = .slice (some ⟨g, 0, none⟩) 0 c)) := by
  obtain ⟨p, r, b, s, vo, vi, orig, hrow, hvo, hv, h1, h2, h3, h4, h5, h6⟩ := h
  have hvl : ∀ j, vi.ownBlock = some j → j < w.heap.size := fun j hj => Nat.lt_of_lt_of_le (h3 j hj) h6
  refine (jread_close D p r b s g c vo vi [93] [] w hrow hg hgD h1 hvl fun w1 hk => jnext_close D _ vo vi orig w1 (hk.row hrow id) rfl rfl rfl (hvo.keeps hk (fun _ _ => id)) (hv.keeps hk (fun _ _ => id)) h1 h2 (fun j hj => Nat.lt_of_lt_of_le (hvl j hj) hk.size)).mono ?_
  rintro e w' ⟨raw, V, pos, S', rfl, hraw, hri, hV, hVi, hk, hr, hsp⟩
  have nd : ∀ U, Within vi U → U.ownBlock ≠ some D := fun U hU e => h1 (hU D e)
  exact ⟨raw, pos, S', rfl, hraw, fun j hj => h3 j (hri j hj), nd raw hri, hk, ⟨_, _, _, _, vo, V, orig, hr, hvo.keeps hk (fun j hj e => by subst e; exact h2 hj), hV, nd V hVi, h2, fun j hj => h3 j (hVi j hj), h4, h5, Nat.le_trans h6 hk.size⟩, hsp⟩

theorem jdec_eof (D N : Nat) (g c : Nat) (w : World) (h : JDec D N w 512 (.slice (some ⟨g, 0, none⟩) 0 c) []) :
    Calls Tryz.prog 70 #[.pointer (some ⟨D, 0, none⟩)] w (JReadPost D N w 1 [] [] (fun _ _ => True)) := by
  obtain ⟨p, r, b, s, vo, vi, orig, hrow, hvo, hv, h1, h2, h3, h4, h5, h6⟩ := h
  have hvl : ∀ j, vi.ownBlock = some j → j < w.heap.size := fun j hj => Nat.lt_of_lt_of_le (h3 j hj) h6
  refine (jread_eof D p r b s g c vo vi [] [] w hrow h1 hvl fun w1 hk => jnext_eof D _ vo vi orig w1 (hk.row hrow id) rfl rfl rfl (hvo.keeps hk (fun _ _ => id)) (hv.keeps hk (fun _ _ => id)) h1 h2 (fun j hj => Nat.lt_of_lt_of_le (hvl j hj) hk.size)).mono ?_
  rintro e w' ⟨raw, V, pos, S', rfl, hraw, hri, hV, hVi, hk, hr, hsp⟩
  have nd : ∀ U, Within vi U → U.ownBlock ≠ some D := fun U hU e => h1 (hU D e)
  exact ⟨raw, pos, S', rfl, hraw, fun j hj => h3 j (hri j hj), nd raw hri, hk, ⟨_, _, _, _, vo, V, orig, hr, hvo.keeps hk (fun j hj e => by subst e; exact h2 hj), hV, nd V hVi, h2, fun j hj => h3 j (hVi j hj), h4, h5, Nat.le_trans h6 hk.size⟩, trivial⟩

theorem owns_lt {w : World} {base : Nat} {e : TypeId} {size n : Nat} {v : Value} {xs : List Value} (h : w.ownsRow base e size v n xs) : ∀ j, v.ownBlock = some j → j < w.heap.size := by
  intro j hj
  rcases h.2 with ⟨rfl, _⟩ | ⟨g, cap, cur, rfl, _, hr, _⟩
  · simp [Value.ownBlock] at hj
  · simp [Value.ownBlock] at hj
    subst hj
    exact row_lt hr
/-- What holds ahead of each of jsonRead's four rounds. -/
def JStage (i D N : Nat) (out : Value) (w : World) : Prop :=
  (i = 0 ∧ JDec D N w 0 (.slice none 0 0) [91, 49, 93]) ∨
  (i = 1 ∧ ∃ g c, JDec D N w 256 (.slice (some ⟨g, 0, none⟩) 1 c) [49, 93] ∧ w.cell? ⟨g, 0, none⟩ = some (.int .u16 256) ∧ N ≤ g ∧ out.ownBlock ≠ some g) ∨
  (i = 2 ∧ ∃ g c, JDec D N w 8 (.slice (some ⟨g, 0, none⟩) 1 c) [93] ∧ w.cell? ⟨g, 0, none⟩ = some (.int .u16 256) ∧ N ≤ g ∧ out.ownBlock ≠ some g) ∨
  (i = 3 ∧ ∃ g c, JDec D N w 512 (.slice (some ⟨g, 0, none⟩) 0 c) [])
def JRel (D : Nat) (B : World) (out : Value) (w : World) : Prop :=
  ∃ i xs, JStage i D B.heap.size out w ∧ w.ownsRow B.heap.size 133 5 out i xs ∧ Keeps (fun j => j = D) B w

def jcells (k : Nat) (p : Int) (rw : List UInt8) : List Value := [.int .i64 k, .int .i64 p, .bool false, .string (mk rw), .string ⟨#[]⟩]
theorem jc_one (k : Nat) (p : Int) (rw : List UInt8) : ∀ u ∈ jcells k p rw, u.oneCell' = true := by
  intro u hu
  simp only [jcells, List.mem_cons, List.not_mem_nil, or_false] at hu
  rcases hu with rfl | rfl | rfl | rfl | rfl <;> rfl
theorem jc_news (k : Nat) (p : Int) (rw : List UInt8) (w : World) : ∀ j u, (jcells k p rw)[j]? = some u → (w.alloc (.cells #[.int .i64 k, .int .i64 p, .bool false, .string (mk rw), .string ⟨#[]⟩] 133)).cell? ((⟨w.heap.size, 0, none⟩ : Addr).add j) = some u := by
  intro j u hu
  rw [show (⟨w.heap.size, 0, none⟩ : Addr).add j = ⟨w.heap.size, j, none⟩ by unfold Addr.add; split <;> simp_all]
  rw [cell_row (heap_alloc_new w _)]
  simpa [jcells] using hu

/-- The end of a round that has read one token more. -/
theorem jround_end (i D : Nat) (B wr w1 w4 : World) (ao : Option Addr) (co g' cap' : Nat) (xs ys : List Value) (S1 : Value) (k1 : Nat) (X1 : List UInt8)
    (hob : ∀ j, (Value.slice ao i co).ownBlock = some j → B.heap.size ≤ j) (hD : D < B.heap.size) (hk : Keeps (fun j => j = D) B wr) (hk1 : Keeps (fun j => j = D) wr w1) (kq : Keeps (fun j => (Value.slice ao i co).ownBlock = some j) w1 w4)
    (ho4 : w4.ownsRow B.heap.size 133 5 (.slice (some ⟨g', 0, none⟩) (i + 1) cap') (i + 1) (xs ++ ys)) (hd1 : JDec D B.heap.size w1 k1 S1 X1)
    (hst : JDec D B.heap.size w4 k1 S1 X1 → JStage (i + 1) D B.heap.size (.slice (some ⟨g', 0, none⟩) (i + 1) cap') w4) : JRel D B (.slice (some ⟨g', 0, none⟩) (i + 1) cap') w4 := by
  have kN : Keeps (fun j => B.heap.size ≤ j) w1 w4 := kq.mono (fun j _ h => hob j h)
  exact ⟨i + 1, _, hst (hd1.keeps kN), ho4, (hk.trans hk1 (fun _ _ h => h)).trans kN (fun j hj e => by omega)⟩

set_option maxRecDepth 1000000 in
set_option maxHeartbeats 20000000 in
theorem jsonRead_one (D : Nat) (B : World) (hd : JDec D B.heap.size B 0 (.slice none 0 0) [91, 49, 93]) (hD : D < B.heap.size) :
    Calls Tryz.prog 37 #[.pointer (some ⟨D, 0, none⟩), .slice none 0 0, .slice none 0 0] B fun e w' => ∃ a c, e = .returned (.tuple #[.slice a 3 c, .bool true]) ∧ Keeps (fun j => j = D) B w' := by
  go_enter Tryz.func37, Tryz.ntmps37
  go_wp2
  go_loopw [2] (fun out wr => JRel D B out wr) (fun out _ => 4 - lenOf out)
  case atStart => exact ⟨0, [], .inl ⟨rfl, hd⟩, World.ownsRow_nil _ _ _ _, Keeps.refl _ _⟩
  case round =>
    obtain ⟨i, xs, hst, hown, hk⟩ := hrel
    clear hd
    rcases hst with hst | hst | hst | hst
    · obtain ⟨rfl, hdd⟩ := hst
      obtain ⟨ao, co, rfl, hob⟩ := owns_form hown
      have hc := jdec_open D B.heap.size wr hdd
      have HK := Lib.hid hk
      have HO := Lib.hid hown
      have HB := Lib.hid hob
      clear hk hown hob hdd
      obtain ⟨i0, hi0, hz0, hz1, hz2⟩ := info_parts jinfo133
      go_wp2_with (first
        | (go_at_call 70; refine hc.mono ?_; rintro e w1 ⟨raw, pos, S', rfl, hraw, hrb, hrD, hk1, hd1, ⟨g, cap, rfl, hgl, hgc⟩⟩; obtain ⟨ar, cr, hrf, _, _⟩ := hraw.form; subst hrf; have hgl1 := World.block_lt_of_cell? w1 _ hgc; have HGC := Lib.hid hgc; clear hgc; have HRW := Lib.hid hraw; have HD1 := Lib.hid hd1; have HRB := Lib.hid hrb; clear hraw hd1 hrb)
        | (go_at_call 71; refine (jtok_kind _ _ _ _ _ _ _ _).mono ?_; rintro e w2 ⟨rfl, rfl⟩)
        | (go_at_call 72; refine (jsonToken_other 256 pos ar _ cr false ⟨#[]⟩ [91] _ rfl rfl rfl (by omega) (HRW.out.keeps (((Keeps.refl (fun _ => False) w1).alloc _).alloc _) (fun _ _ => id))).mono ?_; rintro e w3 ⟨rfl, hk3⟩)
        | (at_builtin; refine wpList_append_lies _ (by rfl) (.tmp 37) (.tmp 40) 59 (by rfl) B.heap.size 133 i0 _ 5 56 Tryz.underlying59 hi0 hz0 hz1 hz2 rfl (by omega) _ 0 xs (by rfl) (own_up HO.out hk1 hk3 HB.out hD) ⟨w3.heap.size, 0, none⟩ 1 1 (jcells 256 pos [91]) (by rfl) (by rfl) (jc_news 256 pos [91] w3) (jc_one 256 pos [91]) (by omega) (by unfold maxLen; omega) (by omega) (by have h1 := hk1.size; have h2 := hk3.size; have h3 := HK.out.size; simp at h2 ⊢; omega) (w3.heap.size + 1) (by simp) ?_; intro g' cap' w4 ho4 hg4 hat4 hlt4))
      have kq : Keeps (fun j => (Value.slice ao 0 co).ownBlock = some j) w1 w4 := ((((((Keeps.refl _ w1).alloc _).alloc _).trans hk3 (fun _ _ => False.elim)).alloc _).trans (Keeps.of_grown hg4) (fun _ _ h => h))
      have hs3 : w1.heap.size + 2 ≤ w3.heap.size := by have h2 := hk3.size; simp at h2; omega
      go_roundw
      case rel =>
        refine jround_end 0 D B wr w1 w4 ao co g' cap' xs _ _ 256 [49, 93] HB.out hD HK.out hk1 kq ho4 HD1.out (fun hd4 => ?_)
        have hold : ∀ j, (Value.slice ao 0 co).ownBlock = some j → j < wr.heap.size := owns_lt HO.out
        refine .inr (.inl ⟨rfl, g, cap, hd4, kq.cell HGC.out (fun e => by have h : g < wr.heap.size := hold g e; omega), by have := HK.out.size; omega, fun e => ?_⟩)
        have e2 : g' = g := Option.some.inj e
        have hgl2 : g < w1.heap.size := hgl1
        rcases hat4 with h | h
        · have := hold g' h
          omega
        · omega
      case measure => simp [lenOf]
    · obtain ⟨rfl, g, c, hdd, hg, hgN, hgo⟩ := hst
      obtain ⟨ao, co, rfl, hob⟩ := owns_form hown
      have hc := jdec_num D B.heap.size g c wr hdd hg (by omega)
      have HK := Lib.hid hk
      have HO := Lib.hid hown
      have HB := Lib.hid hob
      clear hk hown hob hdd
      have HGO := Lib.hid hgo
      have HG := Lib.hid hg
      clear hgo hg
      obtain ⟨i0, hi0, hz0, hz1, hz2⟩ := info_parts jinfo133
      go_wp2_with (first
        | (go_at_call 70; refine hc.mono ?_; rintro e w1 ⟨raw, pos, S', rfl, hraw, hrb, hrD, hk1, hd1, rfl⟩; obtain ⟨ar, cr, hrf, _, _⟩ := hraw.form; subst hrf; have HRW := Lib.hid hraw; have HD1 := Lib.hid hd1; have HRB := Lib.hid hrb; clear hraw hd1 hrb)
        | (go_at_call 71; refine (jtok_kind _ _ _ _ _ _ _ _).mono ?_; rintro e w2 ⟨rfl, rfl⟩)
        | (go_at_call 72; refine (jsonToken_other 8 pos ar _ cr false ⟨#[]⟩ [49] _ rfl rfl rfl (by omega) (HRW.out.keeps (((Keeps.refl (fun _ => False) w1).alloc _).alloc _) (fun _ _ => id))).mono ?_; rintro e w3 ⟨rfl, hk3⟩)
        | (at_builtin; refine wpList_append_lies _ (by rfl) (.tmp 37) (.tmp 40) 59 (by rfl) B.heap.size 133 i0 _ 5 56 Tryz.underlying59 hi0 hz0 hz1 hz2 rfl (by omega) _ 1 xs (by rfl) (own_up HO.out hk1 hk3 HB.out hD) ⟨w3.heap.size, 0, none⟩ 1 1 (jcells 8 pos [49]) (by rfl) (by rfl) (jc_news 8 pos [49] w3) (jc_one 8 pos [49]) (by omega) (by unfold maxLen; omega) (by omega) (by have h1 := hk1.size; have h2 := hk3.size; have h3 := HK.out.size; simp at h2 ⊢; omega) (w3.heap.size + 1) (by simp) ?_; intro g' cap' w4 ho4 hg4 hat4 hlt4))
      have kq : Keeps (fun j => (Value.slice ao 1 co).ownBlock = some j) w1 w4 := ((((((Keeps.refl _ w1).alloc _).alloc _).trans hk3 (fun _ _ => False.elim)).alloc _).trans (Keeps.of_grown hg4) (fun _ _ h => h))
      have hs3 : w1.heap.size + 2 ≤ w3.heap.size := by have h2 := hk3.size; simp at h2; omega
      go_roundw
      case rel =>
        refine jround_end 1 D B wr w1 w4 ao co g' cap' xs _ _ 8 [93] HB.out hD HK.out hk1 kq ho4 HD1.out (fun hd4 => ?_)
        refine .inr (.inr (.inl ⟨rfl, g, c, hd4, kq.cell (hk1.cell HG.out (by show ¬ g = D; omega)) HGO.out, hgN, fun e => ?_⟩))
        have e2 : g' = g := Option.some.inj e
        have hgl := World.block_lt_of_cell? w1 _ (hk1.cell HG.out (by show ¬ g = D; omega))
        rcases hat4 with h | h
        · exact HGO.out (by rw [h, e2])
        · have hgl2 : g < w1.heap.size := hgl
          omega
      case measure => simp [lenOf]
    · obtain ⟨rfl, g, c, hdd, hg, hgN, hgo⟩ := hst
      obtain ⟨ao, co, rfl, hob⟩ := owns_form hown
      have hc := jdec_close D B.heap.size g c wr hdd hg (by omega)
      have HK := Lib.hid hk
      have HO := Lib.hid hown
      have HB := Lib.hid hob
      clear hk hown hob hdd
      have HGO := Lib.hid hgo
      have HG := Lib.hid hg
      clear hgo hg
      obtain ⟨i0, hi0, hz0, hz1, hz2⟩ := info_parts jinfo133
      go_wp2_with (first
        | (go_at_call 70; refine hc.mono ?_; rintro e w1 ⟨raw, pos, S', rfl, hraw, hrb, hrD, hk1, hd1, rfl⟩; obtain ⟨ar, cr, hrf, _, _⟩ := hraw.form; subst hrf; have HRW := Lib.hid hraw; have HD1 := Lib.hid hd1; have HRB := Lib.hid hrb; clear hraw hd1 hrb)
        | (go_at_call 71; refine (jtok_kind _ _ _ _ _ _ _ _).mono ?_; rintro e w2 ⟨rfl, rfl⟩)
        | (go_at_call 72; refine (jsonToken_other 512 pos ar _ cr false ⟨#[]⟩ [93] _ rfl rfl rfl (by omega) (HRW.out.keeps (((Keeps.refl (fun _ => False) w1).alloc _).alloc _) (fun _ _ => id))).mono ?_; rintro e w3 ⟨rfl, hk3⟩)
        | (at_builtin; refine wpList_append_lies _ (by rfl) (.tmp 37) (.tmp 40) 59 (by rfl) B.heap.size 133 i0 _ 5 56 Tryz.underlying59 hi0 hz0 hz1 hz2 rfl (by omega) _ 2 xs (by rfl) (own_up HO.out hk1 hk3 HB.out hD) ⟨w3.heap.size, 0, none⟩ 1 1 (jcells 512 pos [93]) (by rfl) (by rfl) (jc_news 512 pos [93] w3) (jc_one 512 pos [93]) (by omega) (by unfold maxLen; omega) (by omega) (by have h1 := hk1.size; have h2 := hk3.size; have h3 := HK.out.size; simp at h2 ⊢; omega) (w3.heap.size + 1) (by simp) ?_; intro g' cap' w4 ho4 hg4 hat4 hlt4))
      have kq : Keeps (fun j => (Value.slice ao 2 co).ownBlock = some j) w1 w4 := ((((((Keeps.refl _ w1).alloc _).alloc _).trans hk3 (fun _ _ => False.elim)).alloc _).trans (Keeps.of_grown hg4) (fun _ _ h => h))
      have hs3 : w1.heap.size + 2 ≤ w3.heap.size := by have h2 := hk3.size; simp at h2; omega
      go_roundw
      case rel =>
        refine jround_end 2 D B wr w1 w4 ao co g' cap' xs _ _ 512 [] HB.out hD HK.out hk1 kq ho4 HD1.out (fun hd4 => ?_)
        exact .inr (.inr (.inr ⟨rfl, g, c, hd4⟩))
      case measure => simp [lenOf]
    · obtain ⟨rfl, g, c, hdd⟩ := hst
      obtain ⟨ao, co, rfl, hob⟩ := owns_form hown
      have hc := jdec_eof D B.heap.size g c wr hdd
      have HK := Lib.hid hk
      have HO := Lib.hid hown
      have HB := Lib.hid hob
      clear hk hown hob hdd
      go_wp2_with (first
        | (go_at_call 70; refine hc.mono ?_; rintro e w1 ⟨raw, pos, S', rfl, hraw, hrb, hrD, hk1, hd1, _⟩; obtain ⟨ar, cr, hrf, _, _⟩ := hraw.form; subst hrf)
        | (go_at_call 71; refine (jtok_kind _ _ _ _ _ _ _ _).mono ?_; rintro e w2 ⟨rfl, rfl⟩))
      go_ret2
      exact ⟨ao, co, rfl, ((HK.out.trans hk1 (fun _ _ h => h)).alloc _).alloc _⟩

end Go.Proofs.YtdckklmhnhbpiaaGreatDoor
