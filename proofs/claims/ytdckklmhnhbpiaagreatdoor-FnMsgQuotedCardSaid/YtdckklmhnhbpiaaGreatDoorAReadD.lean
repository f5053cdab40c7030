/-
  A Decoder of the text form between two calls, and what Read makes of it.
-/
import Derived.Test.YtdckklmhnhbpiaaGreatDoorARead
import Derived.Test.YtdckklmhnhbpiaaGreatDoorANext0
import Derived.Test.YtdckklmhnhbpiaaGreatDoorANext3
import Derived.Test.YtdckklmhnhbpiaaGreatDoorANextE
import Derived.Test.YtdckklmhnhbpiaaGreatDoorANextS
namespace Go.Proofs.YtdckklmhnhbpiaaGreatDoor
open Go.RowKit

/-- A Decoder in row D that has read a token of kind k and has the bytes X ahead of it; all that it reads lies in rows below N. -/
def Dec (D N : Nat) (w : World) (k : Nat) (X : List UInt8) : Prop :=
  ∃ ta tna tp tr ts vo vi orig, w.heap[D]? = some (.cells (dRow (.int .u8 k) ta tna tp tr ts vo vi) 68 (0, 0)) ∧ BytesAt w vo orig ∧ BytesAt w vi X ∧ vi.ownBlock ≠ some D ∧ vo.ownBlock ≠ some D ∧
    (∀ j, vi.ownBlock = some j → j < N) ∧ (∀ j, vo.ownBlock = some j → j < N) ∧ X.length ≤ 1000000000 ∧ Tabs w ∧ 19 ≤ D ∧ D < N ∧ N ≤ w.heap.size

theorem Dec.keeps {D N : Nat} {w w' : World} {k : Nat} {X : List UInt8} (h : Dec D N w k X) (hk : Keeps (fun j => N ≤ j) w w') : Dec D N w' k X := by
  obtain ⟨ta, tna, tp, tr, ts, vo, vi, orig, hrow, hvo, hv, h1, h2, h3, h4, h5, h6, h7, h8, h9⟩ := h
  exact ⟨ta, tna, tp, tr, ts, vo, vi, orig, hk.row hrow (by omega), hvo.keeps hk (fun j hj e => by have := h4 j hj; omega), hv.keeps hk (fun j hj e => by have := h3 j hj; omega), h1, h2, h3, h4, h5, h6.keeps hk (fun j hj e => by omega), h7, h8, Nat.le_trans h9 hk.size⟩

/-- What a call of Read leaves. -/
def ReadPost (D N : Nat) (w : World) (k a na : Nat) (s : ByteArray) (rw rest : List UInt8) (e : Ending) (w' : World) : Prop :=
  ∃ raw pos, e = .returned (.tuple #[.agg #[.int .u8 k, .int .u8 a, .int .u8 na, .int .i64 pos, raw, .string s], .nilIface]) ∧ BytesAt w' raw rw ∧ (∀ j, raw.ownBlock = some j → j < N) ∧ raw.ownBlock ≠ some D ∧ Keeps (fun j => j = D) w w' ∧ Dec D N w' k rest

theorem read_dec (D N k0 : Nat) (w : World) (k a na : Nat) (s : ByteArray) (X rw rest : List UInt8) (h : Dec D N w k0 X) (hk8 : ((k : Int) == 8) = false) (hk9 : ((k : Int) == 9) = false) (hrest : rest.length ≤ 1000000000)
    (hnext : ∀ (cur : Array Value) (vo vi : Value) (orig : List UInt8) (w1 : World), w1.heap[D]? = some (.cells cur 68 (0, 0)) → cur[9]? = some vo → cur[10]? = some vi → cur[8]? = some (.slice none 0 0) → cur.size = 11 → BytesAt w1 vo orig → BytesAt w1 vi X →
      vi.ownBlock ≠ some D → vo.ownBlock ≠ some D → (∀ j, vi.ownBlock = some j → j < w1.heap.size) → X.length ≤ 1000000000 → Tabs w1 → 19 ≤ D →
      Calls Tryz.prog 26 #[.pointer (some ⟨D, 0, none⟩), .int .u8 k0] w1 (NextPost D cur vi w1 k a na s rw rest)) :
    Calls Tryz.prog 16 #[.pointer (some ⟨D, 0, none⟩)] w (ReadPost D N w k a na s rw rest) := by
  obtain ⟨ta, tna, tp, tr, ts, vo, vi, orig, hrow, hvo, hv, h1, h2, h3, h4, h5, h6, h7, h8, h9⟩ := h
  refine (read_of D k0 ta tna tp tr ts vo vi k a na s rw rest w hrow hk8 hk9 h1 (fun j hj => Nat.lt_of_lt_of_le (h3 j hj) h9) fun w1 hk => ?_).mono ?_
  · exact hnext _ vo vi orig w1 (hk.row hrow id) rfl rfl rfl rfl (hvo.keeps hk (fun _ _ => id)) (hv.keeps hk (fun _ _ => id)) h1 h2 (fun j hj => Nat.lt_of_lt_of_le (h3 j hj) (Nat.le_trans h9 hk.size)) h5 (h6.keeps hk (fun _ _ => id)) h7
  · rintro e w' ⟨raw, V, pos, rfl, hraw, hri, hV, hVi, hk, hr⟩
    have nd : ∀ U, Within vi U → U.ownBlock ≠ some D := fun U hU e => h1 (hU D e)
    exact ⟨raw, pos, rfl, hraw, fun j hj => h3 j (hri j hj), nd raw hri, hk, _, _, _, _, _, vo, V, orig, hr, hvo.keeps hk (fun j hj e => by subst e; exact h2 hj), hV, nd V hVi, h2, fun j hj => h3 j (hVi j hj), h4, hrest, h6.keeps hk (fun j hj e => by omega), h7, h8, Nat.le_trans h9 hk.size⟩

theorem skip_len (l : List UInt8) : (skip l).length ≤ l.length := (List.dropWhile_sublist _).length_le

theorem read_name (D N k0 : Nat) (w : World) (nm T : List UInt8) (hk : k0 = 0 ∨ k0 = 3) (h : Dec D N w k0 (nm ++ 58 :: T)) (hn0 : nm ≠ []) (hnl : ∀ c ∈ nm, Letter c) (hnm : nm.length ≤ 1000000) (hs : ∀ r, skip T ≠ 35 :: r) :
    Calls Tryz.prog 16 #[.pointer (some ⟨D, 0, none⟩)] w (ReadPost D N w 2 129 0 ⟨#[]⟩ nm (skip T)) := by
  have hl : (skip T).length ≤ 1000000000 := by
    obtain ⟨_, _, _, _, _, _, _, _, _, _, _, _, _, _, _, h5, _⟩ := h
    have := skip_len T
    simp at h5
    omega
  rcases hk with rfl | rfl
  · exact read_dec D N 0 w 2 129 0 _ _ _ _ h rfl rfl hl fun cur vo vi orig w1 h1 h2 h3 h4 h5 h6 h7 h8 h9 _ _ _ _ => next_name0 D cur vo vi orig w1 h1 h2 h3 h4 h5 h6 h8 h9 nm T h7 hn0 hnl hnm hs
  · exact read_dec D N 3 w 2 129 0 _ _ _ _ h rfl rfl hl fun cur vo vi orig w1 h1 h2 h3 h4 h5 h6 h7 h8 h9 _ _ _ _ => next_name3 D cur vo vi orig w1 h1 h2 h3 h4 h5 h6 h8 h9 nm T h7 hn0 hnl hnm hs
theorem read_str (D N : Nat) (w : World) (l T : List UInt8) (h : Dec D N w 2 (quote false l ++ T)) (hll : l.length ≤ 1000000) (hs : ∀ r, skip T ≠ 35 :: r) (hq : ∀ c r, skip T = c :: r → c.toNat ≠ 34 ∧ c.toNat ≠ 39) :
    Calls Tryz.prog 16 #[.pointer (some ⟨D, 0, none⟩)] w (ReadPost D N w 3 2 0 (mk l) ((quote false l ++ T).take ((quote false l ++ T).length - (skip T).length)) (skip T)) := by
  have hl : (skip T).length ≤ 1000000000 := by
    obtain ⟨_, _, _, _, _, _, _, _, _, _, _, _, _, _, _, h5, _⟩ := h
    have := skip_len T
    simp at h5
    omega
  exact read_dec D N 2 w 3 2 0 _ _ _ _ h rfl rfl hl fun cur vo vi orig w1 h1 h2 h3 h4 h5 h6 h7 h8 h9 _ h10 hT hD => next_str D cur vo vi orig w1 h1 h2 h3 h4 h5 h6 h8 h9 l T h7 (by omega) (by omega) hT hD hs hq
theorem read_eof (D N k0 : Nat) (w : World) (hk : k0 = 0 ∨ k0 = 3) (h : Dec D N w k0 []) :
    Calls Tryz.prog 16 #[.pointer (some ⟨D, 0, none⟩)] w (ReadPost D N w 1 0 0 ⟨#[]⟩ [] []) := by
  rcases hk with rfl | rfl
  · exact read_dec D N 0 w 1 0 0 _ _ _ _ h rfl rfl (by simp) fun cur vo vi orig w1 h1 h2 h3 h4 h5 h6 h7 h8 h9 h10 _ _ _ => next_eof0 D cur vo vi orig w1 h1 h2 h3 h4 h5 h6 h8 h9 h7 h10
  · exact read_dec D N 3 w 1 0 0 _ _ _ _ h rfl rfl (by simp) fun cur vo vi orig w1 h1 h2 h3 h4 h5 h6 h7 h8 h9 h10 _ _ _ => next_eof3 D cur vo vi orig w1 h1 h2 h3 h4 h5 h6 h8 h9 h7 h10
end Go.Proofs.YtdckklmhnhbpiaaGreatDoor
