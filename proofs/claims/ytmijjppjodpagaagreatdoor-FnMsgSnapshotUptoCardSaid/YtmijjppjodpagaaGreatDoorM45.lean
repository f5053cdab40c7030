/-
  jsonRead at the text '[1]', JsonTokens there, and lives.
  JsonTokens at '[1]', and lives: it answers true.
-/
import Derived.Test.YtmijjppjodpagaaGreatDoorM35
import Derived.Test.YtmijjppjodpagaaGreatDoorM43
import Derived.Test.YtmijjppjodpagaaGreatDoorM44
import Derived.Test.YtmijjppjodpagaaGreatDoorM05
set_option linter.unusedVariables false
set_option linter.unusedSimpArgs false
namespace Go.Proofs.YtmijjppjodpagaaGreatDoor
open Go.RowKit

theorem jinfo133 : (Tryz.prog.info? 138).map (fun i => (i.zero, i.size, i.bytes)) = some (some (.agg #[.int .i64 0, .int .i64 0, .bool false, .string ⟨#[]⟩, .string ⟨#[]⟩]), 5, 56) := by kernel_rfl

/-- A JSON Decoder in row D that has read a token of kind k, its open stack being S, and has the bytes X ahead of it. -/
def JDec (D N : Nat) (w : World) (k : Nat) (S : Value) (X : List UInt8) : Prop :=
  ∃ p r b s vo vi orig, w.heap[D]? = some (.cells (jRow (.int .u16 k) p r b s S vo vi) 143 (0, 0)) ∧ BytesAt w vo orig ∧ BytesAt w vi X ∧ vi.ownBlock ≠ some D ∧ vo.ownBlock ≠ some D ∧
    (∀ j, vi.ownBlock = some j → j < N) ∧ (∀ j, vo.ownBlock = some j → j < N) ∧ D < N ∧ N ≤ w.heap.size
theorem JDec.keeps {D N : Nat} {w w' : World} {k : Nat} {S : Value} {X : List UInt8} (h : JDec D N w k S X) (hk : Keeps (fun j => N ≤ j) w w') : JDec D N w' k S X := by
  obtain ⟨p, r, b, s, vo, vi, orig, hrow, hvo, hv, h1, h2, h3, h4, h5, h6⟩ := h
  exact ⟨p, r, b, s, vo, vi, orig, hk.row hrow (by omega), hvo.keeps hk (fun j hj e => by have := h4 j hj; omega), hv.keeps hk (fun j hj e => by have := h3 j hj; omega), h1, h2, h3, h4, h5, Nat.le_trans h6 hk.size⟩
/-- What a call of Read leaves. -/
def JReadPost (D N : Nat) (w : World) (k : Nat) (rw rest : List UInt8) (SP : Value → World → Prop) (e : Ending) (w' : World) : Prop :=
  ∃ raw pos S', e = .returned (.tuple #[.agg #[.int .u16 k, .int .i64 pos, raw, .bool false, .string ⟨#[]⟩], .nilIface]) ∧ BytesAt w' raw rw ∧ (∀ j, raw.ownBlock = some j → j < N) ∧ raw.ownBlock ≠ some D ∧ Keeps (fun j => j = D) w w' ∧ JDec D N w' k S' rest ∧ SP S' w'

theorem jdec_open (D N : Nat) (w : World) (h : JDec D N w 0 (.slice none 0 0) [91, 49, 93]) :
    Calls Tryz.prog 66 #[.pointer (some ⟨D, 0, none⟩)] w (JReadPost D N w 256 [91] [49, 93] (fun S' w' => ∃ g cap, S' = .slice (some ⟨g, 0, none⟩) 1 cap ∧ w.heap.size ≤ g ∧ w'.cell? ⟨g, 0, none⟩ = some (.int .u16 256))) := by
  obtain ⟨p, r, b, s, vo, vi, orig, hrow, hvo, hv, h1, h2, h3, h4, h5, h6⟩ := h
  have hvl : ∀ j, vi.ownBlock = some j → j < w.heap.size := fun j hj => Nat.lt_of_lt_of_le (h3 j hj) h6
  refine (jread_open D p r b s vo vi [91] [49, 93] w hrow h1 hvl fun w1 hk => jnext_open D _ vo vi orig w1 (hk.row hrow id) rfl rfl rfl (hvo.keeps hk (fun _ _ => id)) (hv.keeps hk (fun _ _ => id)) h1 h2 (fun j hj => Nat.lt_of_lt_of_le (hvl j hj) hk.size)).mono ?_
  rintro e w' ⟨raw, V, pos, S', rfl, hraw, hri, hV, hVi, hk, hr, hsp⟩
  have nd : ∀ U, Within vi U → U.ownBlock ≠ some D := fun U hU e => h1 (hU D e)
  exact ⟨raw, pos, S', rfl, hraw, fun j hj => h3 j (hri j hj), nd raw hri, hk, ⟨_, _, _, _, vo, V, orig, hr, hvo.keeps hk (fun j hj e => by subst e; exact h2 hj), hV, nd V hVi, h2, fun j hj => h3 j (hVi j hj), h4, h5, Nat.le_trans h6 hk.size⟩, hsp⟩

theorem jdec_num (D N : Nat) (g c : Nat) (w : World) (h : JDec D N w 256 (.slice (some ⟨g, 0, none⟩) 1 c) [49, 93]) (hg : w.cell? ⟨g, 0, none⟩ = some (.int .u16 256)) (hgD : g ≠ D) :
    Calls Tryz.prog 66 #[.pointer (some ⟨D, 0, none⟩)] w (JReadPost D N w 8 [49] [93] (fun S' _ => S' = .slice (some ⟨g, 0, none⟩) 1 c)) := by
  obtain ⟨p, r, b, s, vo, vi, orig, hrow, hvo, hv, h1, h2, h3, h4, h5, h6⟩ := h
  have hvl : ∀ j, vi.ownBlock = some j → j < w.heap.size := fun j hj => Nat.lt_of_lt_of_le (h3 j hj) h6
  refine (jread_num D p r b s g c vo vi [49] [93] w hrow hg hgD h1 hvl fun w1 hk => jnext_one D _ vo vi orig w1 (hk.row hrow id) rfl rfl rfl (hvo.keeps hk (fun _ _ => id)) (hv.keeps hk (fun _ _ => id)) h1 h2 (fun j hj => Nat.lt_of_lt_of_le (hvl j hj) hk.size)).mono ?_
  rintro e w' ⟨raw, V, pos, S', rfl, hraw, hri, hV, hVi, hk, hr, hsp⟩
  have nd : ∀ U, Within vi U → U.ownBlock ≠ some D := fun U hU e => h1 (hU D e)
  exact ⟨raw, pos, S', rfl, hraw, fun j hj => h3 j (hri j hj), nd raw hri, hk, ⟨_, _, _, _, vo, V, orig, hr, hvo.keeps hk (fun j hj e => by subst e; exact h2 hj), hV, nd V hVi, h2, fun j hj => h3 j (hVi j hj), h4, h5, Nat.le_trans h6 hk.size⟩, hsp⟩

theorem jdec_close (D N : Nat) (g c : Nat) (w : World) (h : JDec D N w 8 (.slice (some ⟨g, 0, none⟩) 1 c) [93]) (hg : w.cell? ⟨g, 0, none⟩ = some (.int .u16 256)) (hgD : g ≠ D) :
    Calls Tryz.prog 66 #[.pointer (some ⟨D, 0, none⟩)] w (JReadPost D N w 512 [93] [] (fun S' _ => S' = .slice (some ⟨g, 0, none⟩) 0 c)) := by
  obtain ⟨p, r, b, s, vo, vi, orig, hrow, hvo, hv, h1, h2, h3, h4, h5, h6⟩ := h
  have hvl : ∀ j, vi.ownBlock = some j → j < w.heap.size := fun j hj => Nat.lt_of_lt_of_le (h3 j hj) h6
  refine (jread_close D p r b s g c vo vi [93] [] w hrow hg hgD h1 hvl fun w1 hk => jnext_close D _ vo vi orig w1 (hk.row hrow id) rfl rfl rfl (hvo.keeps hk (fun _ _ => id)) (hv.keeps hk (fun _ _ => id)) h1 h2 (fun j hj => Nat.lt_of_lt_of_le (hvl j hj) hk.size)).mono ?_
  rintro e w' ⟨raw, V, pos, S', rfl, hraw, hri, hV, hVi, hk, hr, hsp⟩
  have nd : ∀ U, Within vi U → U.ownBlock ≠ some D := fun U hU e => h1 (hU D e)
  exact ⟨raw, pos, S', rfl, hraw, fun j hj => h3 j (hri j hj), nd raw hri, hk, ⟨_, _, _, _, vo, V, orig, hr, hvo.keeps hk (fun j hj e => by subst e; exact h2 hj), hV, nd V hVi, h2, fun j hj => h3 j (hVi j hj), h4, h5, Nat.le_trans h6 hk.size⟩, hsp⟩

theorem jdec_eof (D N : Nat) (g c : Nat) (w : World) (h : JDec D N w 512 (.slice (some ⟨g, 0, none⟩) 0 c) []) :
    Calls Tryz.prog 66 #[.pointer (some ⟨D, 0, none⟩)] w (JReadPost D N w 1 [] [] (fun _ _ => True)) := by
  obtain ⟨p, r, b, s, vo, vi, orig, hrow, hvo, hv, h1, h2, h3, h4, h5, h6⟩ := h
  have hvl : ∀ j, vi.ownBlock = some j → j < w.heap.size := fun j hj => Nat.lt_of_lt_of_le (h3 j hj) h6
  refine (jread_eof D p r b s g c vo vi [] [] w hrow h1 hvl fun w1 hk => jnext_eof D _ vo vi orig w1 (hk.row hrow id) rfl rfl rfl (hvo.keeps hk (fun _ _ => id)) (hv.keeps hk (fun _ _ => id)) h1 h2 (fun j hj => Nat.lt_of_lt_of_le (hvl j hj) hk.size)).mono ?_
  rintro e w' ⟨raw, V, pos, S', rfl, hraw, hri, hV, hVi, hk, hr, hsp⟩
  have nd : ∀ U, Within vi U → U.ownBlock ≠ some D := fun U hU e => h1 (hU D e)
  exact ⟨raw, pos, S', rfl, hraw, fun j hj => h3 j (hri j hj), nd raw hri, hk, ⟨_, _, _, _, vo, V, orig, hr, hvo.keeps hk (fun j hj e => by subst e; exact h2 hj), hV, nd V hVi, h2, fun j hj => h3 j (hVi j hj), h4, h5, Nat.le_trans h6 hk.size⟩, trivial⟩

theorem owns_lt {w : World} {base : Nat} {e : TypeId} {size n : Nat} {v : Value} {xs : List Value} (h : w.ownsRow base e size v n xs) : ∀ j, v.ownBlock = some j → j < w.heap.size := by
  intro j hj
  rcases h.2 with ⟨rfl, _⟩ | ⟨g, cap, cur, rfl, _, hr, _⟩
  · simp [Value.ownBlock] at hj
  · simp [Value.ownBlock] at hj
    subst hj
    exact row_lt hr
/-- What holds ahead of each of jsonRead's four rounds. -/
def JStage (i D N : Nat) (out : Value) (w : World) : Prop :=
  (i = 0 ∧ JDec D N w 0 (.slice none 0 0) [91, 49, 93]) ∨
  (i = 1 ∧ ∃ g c, JDec D N w 256 (.slice (some ⟨g, 0, none⟩) 1 c) [49, 93] ∧ w.cell? ⟨g, 0, none⟩ = some (.int .u16 256) ∧ N ≤ g ∧ out.ownBlock ≠ some g) ∨
  (i = 2 ∧ ∃ g c, JDec D N w 8 (.slice (some ⟨g, 0, none⟩) 1 c) [93] ∧ w.cell? ⟨g, 0, none⟩ = some (.int .u16 256) ∧ N ≤ g ∧ out.ownBlock ≠ some g) ∨
  (i = 3 ∧ ∃ g c, JDec D N w 512 (.slice (some ⟨g, 0, none⟩) 0 c) [])
def JRel (D : Nat) (B : World) (out : Value) (w : World) : Prop :=
  ∃ i xs, JStage i D B.heap.size out w ∧ w.ownsRow B.heap.size 138 5 out i xs ∧ Keeps (fun j => j = D) B w

def jcells (k : Nat) (p : Int) (rw : List UInt8) : List Value := [.int .i64 k, .int .i64 p, .bool false, .string (mk rw), .string ⟨#[]⟩]
theorem jc_one (k : Nat) (p : Int) (rw : List UInt8) : ∀ u ∈ jcells k p rw, u.oneCell' = true := by
  intro u hu
  simp only [jcells, List.mem_cons, List.not_mem_nil, or_false] at hu
  rcases hu with rfl | rfl | rfl | rfl | rfl <;> rfl
theorem jc_news (k : Nat) (p : Int) (rw : List UInt8) (w : World) : ∀ j u, (jcells k p rw)[j]? = some u → (w.alloc (.cells #[.int .i64 k, .int .i64 p, .bool false, .string (mk rw), .string ⟨#[]⟩] 138)).cell? ((⟨w.heap.size, 0, none⟩ : Addr).add j) = some u := by
  intro j u hu
  rw [show (⟨w.heap.size, 0, none⟩ : Addr).add j = ⟨w.heap.size, j, none⟩ by unfold Addr.add; split <;> simp_all]
  rw [cell_row (heap_alloc_new w _)]
  simpa [jcells] using hu

/-- The end of a round that has read one token more. -/
theorem jround_end (i D : Nat) (B wr w1 w4 : World) (ao : Option Addr) (co g' cap' : Nat) (xs ys : List Value) (S1 : Value) (k1 : Nat) (X1 : List UInt8)
    (hob : ∀ j, (Value.slice ao i co).ownBlock = some j → B.heap.size ≤ j) (hD : D < B.heap.size) (hk : Keeps (fun j => j = D) B wr) (hk1 : Keeps (fun j => j = D) wr w1) (kq : Keeps (fun j => (Value.slice ao i co).ownBlock = some j) w1 w4)
    (ho4 : w4.ownsRow B.heap.size 138 5 (.slice (some ⟨g', 0, none⟩) (i + 1) cap') (i + 1) (xs ++ ys)) (hd1 : JDec D B.heap.size w1 k1 S1 X1)
    (hst : JDec D B.heap.size w4 k1 S1 X1 → JStage (i + 1) D B.heap.size (.slice (some ⟨g', 0, none⟩) (i + 1) cap') w4) : JRel D B (.slice (some ⟨g', 0, none⟩) (i + 1) cap') w4 := by
  have kN : Keeps (fun j => B.heap.size ≤ j) w1 w4 := kq.mono (fun j _ h => hob j h)
  exact ⟨i + 1, _, hst (hd1.keeps kN), ho4, (hk.trans hk1 (fun _ _ h => h)).trans kN (fun j hj e => by omega)⟩

set_option maxRecDepth 1000000 in
set_option maxHeartbeats 20000000 in
theorem jsonRead_one (D : Nat) (B : World) (hd : JDec D B.heap.size B 0 (.slice none 0 0) [91, 49, 93]) (hD : D < B.heap.size) :
    Calls Tryz.prog 45 #[.pointer (some ⟨D, 0, none⟩), .slice none 0 0, .slice none 0 0] B fun e w' => ∃ a c, e = .returned (.tuple #[.slice a 3 c, .bool true]) ∧ Keeps (fun j => j = D) B w' := by
  go_enter Tryz.func45, Tryz.ntmps45
  go_wp2
  go_loopw [2] (fun out wr => JRel D B out wr) (fun out _ => 4 - lenOf out)
  case atStart => exact ⟨0, [], .inl ⟨rfl, hd⟩, World.ownsRow_nil _ _ _ _, Keeps.refl _ _⟩
  case round =>
    obtain ⟨i, xs, hst, hown, hk⟩ := hrel
    clear hd
    rcases hst with hst | hst | hst | hst
    · obtain ⟨rfl, hdd⟩ := hst
      obtain ⟨ao, co, rfl, hob⟩ := owns_form hown
      have hc := jdec_open D B.heap.size wr hdd
      have HK := Lib.hid hk
      have HO := Lib.hid hown
      have HB := Lib.hid hob
      clear hk hown hob hdd
      obtain ⟨i0, hi0, hz0, hz1, hz2⟩ := info_parts jinfo133
      go_wp2_with (first
        | (go_at_call 66; refine hc.mono ?_; rintro e w1 ⟨raw, pos, S', rfl, hraw, hrb, hrD, hk1, hd1, ⟨g, cap, rfl, hgl, hgc⟩⟩; obtain ⟨ar, cr, hrf, _, _⟩ := hraw.form; subst hrf; have hgl1 := World.block_lt_of_cell? w1 _ hgc; have HGC := Lib.hid hgc; clear hgc; have HRW := Lib.hid hraw; have HD1 := Lib.hid hd1; have HRB := Lib.hid hrb; clear hraw hd1 hrb)
        | (go_at_call 67; refine (jtok_kind _ _ _ _ _ _ _ _).mono ?_; rintro e w2 ⟨rfl, rfl⟩)
        | (go_at_call 68; refine (jsonToken_other 256 pos ar _ cr false ⟨#[]⟩ [91] _ rfl rfl rfl (by omega) (HRW.out.keeps (((Keeps.refl (fun _ => False) w1).alloc _).alloc _) (fun _ _ => id))).mono ?_; rintro e w3 ⟨rfl, hk3⟩)
        | (at_builtin; refine wpList_append_lies _ (by rfl) (.tmp 37) (.tmp 40) 72 (by rfl) B.heap.size 138 i0 _ 5 56 Tryz.underlying72 hi0 hz0 hz1 hz2 rfl (by omega) _ 0 xs (by rfl) (own_up HO.out hk1 hk3 HB.out hD) ⟨w3.heap.size, 0, none⟩ 1 1 (jcells 256 pos [91]) (by rfl) (by rfl) (jc_news 256 pos [91] w3) (jc_one 256 pos [91]) (by omega) (by unfold maxLen; omega) (by omega) (by have h1 := hk1.size; have h2 := hk3.size; have h3 := HK.out.size; simp at h2 ⊢; omega) (w3.heap.size + 1) (by simp) ?_; intro g' cap' w4 ho4 hg4 hat4 hlt4))
      have kq : Keeps (fun j => (Value.slice ao 0 co).ownBlock = some j) w1 w4 := ((((((Keeps.refl _ w1).alloc _).alloc _).trans hk3 (fun _ _ => False.elim)).alloc _).trans (Keeps.of_grown hg4) (fun _ _ h => h))
      have hs3 : w1.heap.size + 2 ≤ w3.heap.size := by have h2 := hk3.size; simp at h2; omega
      go_roundw
      case rel =>
        refine jround_end 0 D B wr w1 w4 ao co g' cap' xs _ _ 256 [49, 93] HB.out hD HK.out hk1 kq ho4 HD1.out (fun hd4 => ?_)
        have hold : ∀ j, (Value.slice ao 0 co).ownBlock = some j → j < wr.heap.size := owns_lt HO.out
        refine .inr (.inl ⟨rfl, g, cap, hd4, kq.cell HGC.out (fun e => by have h : g < wr.heap.size := hold g e; omega), by have := HK.out.size; omega, fun e => ?_⟩)
        have e2 : g' = g := Option.some.inj e
        have hgl2 : g < w1.heap.size := hgl1
        rcases hat4 with h | h
        · have := hold g' h
          omega
        · omega
      case measure => simp [lenOf]
    · obtain ⟨rfl, g, c, hdd, hg, hgN, hgo⟩ := hst
      obtain ⟨ao, co, rfl, hob⟩ := owns_form hown
      have hc := jdec_num D B.heap.size g c wr hdd hg (by omega)
      have HK := Lib.hid hk
      have HO := Lib.hid hown
      have HB := Lib.hid hob
      clear hk hown hob hdd
      have HGO := Lib.hid hgo
      have HG := Lib.hid hg
      clear hgo hg
      obtain ⟨i0, hi0, hz0, hz1, hz2⟩ := info_parts jinfo133
      go_wp2_with (first
        | (go_at_call 66; refine hc.mono ?_; rintro e w1 ⟨raw, pos, S', rfl, hraw, hrb, hrD, hk1, hd1, rfl⟩; obtain ⟨ar, cr, hrf, _, _⟩ := hraw.form; subst hrf; have HRW := Lib.hid hraw; have HD1 := Lib.hid hd1; have HRB := Lib.hid hrb; clear hraw hd1 hrb)
        | (go_at_call 67; refine (jtok_kind _ _ _ _ _ _ _ _).mono ?_; rintro e w2 ⟨rfl, rfl⟩)
        | (go_at_call 68; refine (jsonToken_other 8 pos ar _ cr false ⟨#[]⟩ [49] _ rfl rfl rfl (by omega) (HRW.out.keeps (((Keeps.refl (fun _ => False) w1).alloc _).alloc _) (fun _ _ => id))).mono ?_; rintro e w3 ⟨rfl, hk3⟩)
        | (at_builtin; refine wpList_append_lies _ (by rfl) (.tmp 37) (.tmp 40) 72 (by rfl) B.heap.size 138 i0 _ 5 56 Tryz.underlying72 hi0 hz0 hz1 hz2 rfl (by omega) _ 1 xs (by rfl) (own_up HO.out hk1 hk3 HB.out hD) ⟨w3.heap.size, 0, none⟩ 1 1 (jcells 8 pos [49]) (by rfl) (by rfl) (jc_news 8 pos [49] w3) (jc_one 8 pos [49]) (by omega) (by unfold maxLen; omega) (by omega) (by have h1 := hk1.size; have h2 := hk3.size; have h3 := HK.out.size; simp at h2 ⊢; omega) (w3.heap.size + 1) (by simp) ?_; intro g' cap' w4 ho4 hg4 hat4 hlt4))
      have kq : Keeps (fun j => (Value.slice ao 1 co).ownBlock = some j) w1 w4 := ((((((Keeps.refl _ w1).alloc _).alloc _).trans hk3 (fun _ _ => False.elim)).alloc _).trans (Keeps.of_grown hg4) (fun _ _ h => h))
      have hs3 : w1.heap.size + 2 ≤ w3.heap.size := by have h2 := hk3.size; simp at h2; omega
      go_roundw
      case rel =>
        refine jround_end 1 D B wr w1 w4 ao co g' cap' xs _ _ 8 [93] HB.out hD HK.out hk1 kq ho4 HD1.out (fun hd4 => ?_)
        refine .inr (.inr (.inl ⟨rfl, g, c, hd4, kq.cell (hk1.cell HG.out (by show ¬ g = D; omega)) HGO.out, hgN, fun e => ?_⟩))
        have e2 : g' = g := Option.some.inj e
        have hgl := World.block_lt_of_cell? w1 _ (hk1.cell HG.out (by show ¬ g = D; omega))
        rcases hat4 with h | h
        · exact HGO.out (by rw [h, e2])
        · have hgl2 : g < w1.heap.size := hgl
          omega
      case measure => simp [lenOf]
    · obtain ⟨rfl, g, c, hdd, hg, hgN, hgo⟩ := hst
      obtain ⟨ao, co, rfl, hob⟩ := owns_form hown
      have hc := jdec_close D B.heap.size g c wr hdd hg (by omega)
      have HK := Lib.hid hk
      have HO := Lib.hid hown
      have HB := Lib.hid hob
      clear hk hown hob hdd
      have HGO := Lib.hid hgo
      have HG := Lib.hid hg
      clear hgo hg
      obtain ⟨i0, hi0, hz0, hz1, hz2⟩ := info_parts jinfo133
      go_wp2_with (first
        | (go_at_call 66; refine hc.mono ?_; rintro e w1 ⟨raw, pos, S', rfl, hraw, hrb, hrD, hk1, hd1, rfl⟩; obtain ⟨ar, cr, hrf, _, _⟩ := hraw.form; subst hrf; have HRW := Lib.hid hraw; have HD1 := Lib.hid hd1; have HRB := Lib.hid hrb; clear hraw hd1 hrb)
        | (go_at_call 67; refine (jtok_kind _ _ _ _ _ _ _ _).mono ?_; rintro e w2 ⟨rfl, rfl⟩)
        | (go_at_call 68; refine (jsonToken_other 512 pos ar _ cr false ⟨#[]⟩ [93] _ rfl rfl rfl (by omega) (HRW.out.keeps (((Keeps.refl (fun _ => False) w1).alloc _).alloc _) (fun _ _ => id))).mono ?_; rintro e w3 ⟨rfl, hk3⟩)
        | (at_builtin; refine wpList_append_lies _ (by rfl) (.tmp 37) (.tmp 40) 72 (by rfl) B.heap.size 138 i0 _ 5 56 Tryz.underlying72 hi0 hz0 hz1 hz2 rfl (by omega) _ 2 xs (by rfl) (own_up HO.out hk1 hk3 HB.out hD) ⟨w3.heap.size, 0, none⟩ 1 1 (jcells 512 pos [93]) (by rfl) (by rfl) (jc_news 512 pos [93] w3) (jc_one 512 pos [93]) (by omega) (by unfold maxLen; omega) (by omega) (by have h1 := hk1.size; have h2 := hk3.size; have h3 := HK.out.size; simp at h2 ⊢; omega) (w3.heap.size + 1) (by simp) ?_; intro g' cap' w4 ho4 hg4 hat4 hlt4))
      have kq : Keeps (fun j => (Value.slice ao 2 co).ownBlock = some j) w1 w4 := ((((((Keeps.refl _ w1).alloc _).alloc _).trans hk3 (fun _ _ => False.elim)).alloc _).trans (Keeps.of_grown hg4) (fun _ _ h => h))
      have hs3 : w1.heap.size + 2 ≤ w3.heap.size := by have h2 := hk3.size; simp at h2; omega
      go_roundw
      case rel =>
        refine jround_end 2 D B wr w1 w4 ao co g' cap' xs _ _ 512 [] HB.out hD HK.out hk1 kq ho4 HD1.out (fun hd4 => ?_)
        exact .inr (.inr (.inr ⟨rfl, g, c, hd4⟩))
      case measure => simp [lenOf]
    · obtain ⟨rfl, g, c, hdd⟩ := hst
      obtain ⟨ao, co, rfl, hob⟩ := owns_form hown
      have hc := jdec_eof D B.heap.size g c wr hdd
      have HK := Lib.hid hk
      have HO := Lib.hid hown
      have HB := Lib.hid hob
      clear hk hown hob hdd
      go_wp2_with (first
        | (go_at_call 66; refine hc.mono ?_; rintro e w1 ⟨raw, pos, S', rfl, hraw, hrb, hrD, hk1, hd1, _⟩; obtain ⟨ar, cr, hrf, _, _⟩ := hraw.form; subst hrf)
        | (go_at_call 67; refine (jtok_kind _ _ _ _ _ _ _ _).mono ?_; rintro e w2 ⟨rfl, rfl⟩))
      go_ret2
      exact ⟨ao, co, rfl, ((HK.out.trans hk1 (fun _ _ h => h)).alloc _).alloc _⟩

end Go.Proofs.YtmijjppjodpagaaGreatDoor

namespace Go.Proofs.YtmijjppjodpagaaGreatDoor
open Go.RowKit

set_option maxRecDepth 1000000 in
theorem jnewDecoder (a : Option Addr) (n c : Nat) (w : World) :
    Calls Tryz.prog 46 #[.slice a n c] w fun e w' => e = .returned (.pointer (some ⟨w.heap.size, 0, none⟩)) ∧ w' = w.alloc (.cells (jRow (.int .u16 0) (.int .i64 0) (.slice none 0 0) (.bool false) (.string ⟨#[]⟩) (.slice none 0 0) (.slice a n c) (.slice a n c)) 143) := by
  go_enter Tryz.func46, Tryz.ntmps46
  go_wp2
  go_ret
  exact ⟨rfl, rfl⟩

theorem jdec_new (w : World) (a : Option Addr) (n c : Nat) (X : List UInt8) (hv : BytesAt w (.slice a n c) X) (hb : ∀ j, (Value.slice a n c).ownBlock = some j → j < w.heap.size) :
    JDec w.heap.size (w.alloc (.cells (jRow (.int .u16 0) (.int .i64 0) (.slice none 0 0) (.bool false) (.string ⟨#[]⟩) (.slice none 0 0) (.slice a n c) (.slice a n c)) 143)).heap.size (w.alloc (.cells (jRow (.int .u16 0) (.int .i64 0) (.slice none 0 0) (.bool false) (.string ⟨#[]⟩) (.slice none 0 0) (.slice a n c) (.slice a n c)) 143)) 0 (.slice none 0 0) X := by
  have hb2 := hv.keeps ((Keeps.refl (fun _ => False) w).alloc (.cells (jRow (.int .u16 0) (.int .i64 0) (.slice none 0 0) (.bool false) (.string ⟨#[]⟩) (.slice none 0 0) (.slice a n c) (.slice a n c)) 143)) (fun _ _ => id)
  have hs : (w.alloc (.cells (jRow (.int .u16 0) (.int .i64 0) (.slice none 0 0) (.bool false) (.string ⟨#[]⟩) (.slice none 0 0) (.slice a n c) (.slice a n c)) 143)).heap.size = w.heap.size + 1 := by simp
  rw [hs]
  exact ⟨_, _, _, _, .slice a n c, .slice a n c, X, heap_alloc_new w _, hb2, hb2, fun e => by have := hb _ e; omega, fun e => by have := hb _ e; omega, fun j hj => by have := hb j hj; omega, fun j hj => by have := hb j hj; omega, by omega, by rw [hs]; exact Nat.le_refl _⟩

theorem jnewDecoder_dec (w : World) (a : Option Addr) (n c : Nat) (X : List UInt8) (hv : BytesAt w (.slice a n c) X) (hb : ∀ j, (Value.slice a n c).ownBlock = some j → j < w.heap.size) :
    Calls Tryz.prog 46 #[.slice a n c] w fun e w' => e = .returned (.pointer (some ⟨w.heap.size, 0, none⟩)) ∧ Keeps (fun _ => False) w w' ∧ w.heap.size < w'.heap.size ∧ JDec w.heap.size w'.heap.size w' 0 (.slice none 0 0) X := by
  refine (jnewDecoder a n c w).mono ?_
  rintro e w' ⟨rfl, rfl⟩
  exact ⟨rfl, (Keeps.refl _ w).alloc _, by simp, jdec_new w a n c X hv hb⟩

set_option maxRecDepth 1000000 in
theorem jsonTokens_one (v : Value) (w : World) (hv : BytesAt w v [91, 49, 93]) :
    Calls Tryz.prog 24 #[v] w fun e w' => ∃ a c, e = .returned (.tuple #[.slice a 3 c, .bool true]) ∧ Keeps (fun _ => False) w w' := by
  have hc := copied_any v [91, 49, 93] w hv (by simp)
  go_enter Tryz.func24, Tryz.ntmps24
  go_wp2_with (first
    | (go_at_call 19; refine hc.mono ?_; rintro e w1 ⟨V, rfl, hV, hVb, hk1⟩; obtain ⟨a, c, hVf, _, _⟩ := hV.form; subst hVf)
    | (go_at_call 46; refine (jnewDecoder_dec w1 a 3 c _ hV (fun j hj => (hVb j hj).2)).mono ?_; rintro e w2 ⟨rfl, hk2, hl2, hd⟩)
    | (go_at_call 45; refine (jsonRead_one _ w2 hd hl2).mono ?_; rintro e w3 ⟨a3, c3, rfl, hk3⟩))
  go_ret2
  exact ⟨a3, c3, rfl, (hk1.trans hk2 (fun _ _ => id)).trans hk3 (fun i hi h => by have := hk1.size; omega)⟩

theorem bytes4 {w : World} {g : Nat} {T : TypeId} {fr : Nat × Nat} (h : w.heap[g]? = some (.cells #[.int .u8 97, .int .u8 58, .int .u8 32, .int .u8 49] T fr)) : BytesAt w (.slice (some ⟨g, 0, none⟩) 4 4) [97, 58, 32, 49] := by
  refine ⟨_, _, rfl, by simp, by simp [maxLen], .inr ⟨_, 0, rfl, fun j hj => ?_⟩⟩
  rw [cell_row h]
  match j, hj with
  | 0, _ => rfl
  | 1, _ => rfl
  | 2, _ => rfl
  | 3, _ => rfl
theorem bytes3 {w : World} {g : Nat} {T : TypeId} {fr : Nat × Nat} (h : w.heap[g]? = some (.cells #[.int .u8 91, .int .u8 49, .int .u8 93] T fr)) : BytesAt w (.slice (some ⟨g, 0, none⟩) 3 3) [91, 49, 93] := by
  refine ⟨_, _, rfl, by simp, by simp [maxLen], .inr ⟨_, 0, rfl, fun j hj => ?_⟩⟩
  rw [cell_row h]
  match j, hj with
  | 0, _ => rfl
  | 1, _ => rfl
  | 2, _ => rfl

set_option maxRecDepth 1000000 in
set_option maxHeartbeats 4000000 in
theorem lives_any (w : World) (hT : Tabs w) : Calls Tryz.prog 10 #[] w fun e w' => e = .returned (.bool true) ∧ Keeps (fun _ => False) w w' := by
  obtain ⟨W1, hW1⟩ : ∃ W, w.alloc (.cells #[.int .u8 97, .int .u8 58, .int .u8 32, .int .u8 49] 5) = W := ⟨_, rfl⟩
  have hk1 : Keeps (fun _ => False) w W1 := by rw [← hW1]; exact (Keeps.refl _ w).alloc _
  have hg1 : W1.heap[w.heap.size]? = some (.cells #[.int .u8 97, .int .u8 58, .int .u8 32, .int .u8 49] 5 (0, 0)) := by rw [← hW1]; exact heap_alloc_new w _
  obtain ⟨W2, fr, hcv, hg2, hkf⟩ := conv_mark w.heap.size 4 4 _ _ W1 hg1
  have hk2 : Keeps (fun _ => False) w W2 := hk1.trans hkf (fun i hi h => by omega)
  have hc := textTokens_any _ _ _ W2 (bytes4 hg2) (by simp) one_reads (by simp) (hT.keeps hk2 (fun _ _ => id)) one_ok
  have HK2 := Lib.hid hk2
  have HT := Lib.hid hT
  clear hg1 hg2 hkf hk1 hk2 hT
  go_enter Tryz.func10, Tryz.ntmps10
  go_upto_region 2 with (go_at_call 23; refine hc.mono ?_; rintro e w3 ⟨V, xs, rfl, ho, htc, hk3⟩; obtain ⟨ao, co, hVf, hob⟩ := owns_form ho; subst hVf; have HO := Lib.hid ho; have HOB := Lib.hid hob; have HK3 := Lib.hid hk3; clear ho hob hk3 htc)
  clear hc hcv hW1
  obtain ⟨W4, hW4⟩ : ∃ W, w3.alloc (.cells #[.int .u8 91, .int .u8 49, .int .u8 93] 5) = W := ⟨_, rfl⟩
  have hk4 : Keeps (fun _ => False) w3 W4 := by rw [← hW4]; exact (Keeps.refl _ w3).alloc _
  have hg4 : W4.heap[w3.heap.size]? = some (.cells #[.int .u8 91, .int .u8 49, .int .u8 93] 5 (0, 0)) := by rw [← hW4]; exact heap_alloc_new w3 _
  obtain ⟨W5, fr5, hcv5, hg5, hkf5⟩ := conv_mark w3.heap.size 3 3 _ _ W4 hg4
  have hk5 : Keeps (fun _ => False) w3 W5 := hk4.trans hkf5 (fun i hi h => by omega)
  have hc := jsonTokens_one _ W5 (bytes3 hg5)
  have HK5 := Lib.hid hk5
  clear hg4 hg5 hkf5 hk4 hk5
  go_wp2_with (go_at_call 24; refine hc.mono ?_; rintro e w6 ⟨a6, c6, rfl, hk6⟩; have HK6 := Lib.hid hk6; clear hk6)
  go_ret
  exact ⟨rfl, ((HK2.out.trans HK3.out (fun _ _ => id)).trans HK5.out (fun _ _ => id)).trans HK6.out (fun _ _ => id)⟩
end Go.Proofs.YtmijjppjodpagaaGreatDoor
