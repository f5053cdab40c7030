/-
  The helpers of the law: letter, zzFits8; slices of strings.
  FnMsgQuoted: whatever the names and the texts, it answers true.
-/
import Derived.Test.YtdckklmhnhbpiaaGreatDoorAIdent
import Derived.Test.YtdckklmhnhbpiaaGreatDoorAQLaw
import Derived.Test.YtdckklmhnhbpiaaGreatDoorALives
import Derived.Test.YtdckklmhnhbpiaaGreatDoorAEnc
import Derived.BigQuiet
import Derived.Deep.QuietTactic
set_option linter.unusedSimpArgs false
set_option linter.unusedVariables false
namespace Go.Proofs.YtdckklmhnhbpiaaGreatDoor
open Go.RowKit

/-- v reads as these strings in w. -/
def StrsAt (w : World) (v : Value) (ss : List (List UInt8)) : Prop :=
  ∃ a c, v = .slice a ss.length c ∧ ss.length ≤ c ∧ c ≤ maxLen ∧ (ss = [] ∨ ∃ b off, a = some ⟨b, off, none⟩ ∧ ∀ j (h : j < ss.length), w.cell? ⟨b, off + j, none⟩ = some (.string (mk ss[j])))
theorem StrsAt.keeps {S : Nat → Prop} {w w' : World} {v : Value} {ss : List (List UInt8)} (h : StrsAt w v ss) (hk : Keeps S w w') (hn : ∀ k, v.ownBlock = some k → ¬ S k) : StrsAt w' v ss := by
  obtain ⟨a, c, rfl, h1, h2, h3⟩ := h
  refine ⟨a, c, rfl, h1, h2, ?_⟩
  rcases h3 with h3 | ⟨b, off, rfl, h3⟩
  · exact .inl h3
  · exact .inr ⟨b, off, rfl, fun j hj => hk.cell (h3 j hj) (hn b rfl)⟩

def isLetter (d : Nat) : Bool := (decide (97 ≤ d) && decide (d ≤ 122)) || (decide (65 ≤ d) && decide (d ≤ 90)) || d == 95
theorem letter_iff (c : UInt8) : isLetter c.toNat = true ↔ Letter c := by
  unfold isLetter Letter
  simp
  omega

set_option maxRecDepth 100000 in
theorem letter_any (d : Nat) (hd : d < 256) (w : World) : Calls Tryz.prog 5 #[.int .u8 d] w fun e w' => e = .returned (.bool (isLetter d)) ∧ w = w' := by
  have key : (97 ≤ d ∧ d ≤ 122) ∨ (65 ≤ d ∧ d ≤ 90) ∨ d = 95 ∨ d < 65 ∨ (90 < d ∧ d < 95) ∨ d = 96 ∨ 122 < d := by omega
  unfold isLetter
  rcases key with ⟨h1, h2⟩ | ⟨h1, h2⟩ | rfl | h1 | ⟨h1, h2⟩ | rfl | h1
  · have t1 : (97 : Int) ≤ (d : Int) := by omega
    have t2 : (d : Int) ≤ 122 := by omega
    go_enter Tryz.func5, Tryz.ntmps5
    go_wp2
    go_ret
    exact ⟨by simp [h1, h2], rfl⟩
  · have t1 : ¬ (97 : Int) ≤ (d : Int) := by omega
    have t3 : (65 : Int) ≤ (d : Int) := by omega
    have t4 : (d : Int) ≤ 90 := by omega
    go_enter Tryz.func5, Tryz.ntmps5
    go_wp2
    go_ret
    exact ⟨by simp [h1, h2], rfl⟩
  · go_enter Tryz.func5, Tryz.ntmps5
    go_wp2
    go_ret
    exact ⟨rfl, rfl⟩
  · have t1 : ¬ (97 : Int) ≤ (d : Int) := by omega
    have t3 : ¬ (65 : Int) ≤ (d : Int) := by omega
    have t5 : ((d : Int) == 95) = false := by simp; omega
    go_enter Tryz.func5, Tryz.ntmps5
    go_wp2
    go_ret
    exact ⟨by have : d ≠ 95 := by omega
              simp [this]; omega, rfl⟩
  · have t1 : ¬ (97 : Int) ≤ (d : Int) := by omega
    have t3 : (65 : Int) ≤ (d : Int) := by omega
    have t4 : ¬ (d : Int) ≤ 90 := by omega
    have t5 : ((d : Int) == 95) = false := by simp; omega
    go_enter Tryz.func5, Tryz.ntmps5
    go_wp2
    go_ret
    exact ⟨by have : d ≠ 95 := by omega
              simp [this]; omega, rfl⟩
  · go_enter Tryz.func5, Tryz.ntmps5
    go_wp2
    go_ret
    exact ⟨rfl, rfl⟩
  · have t1 : (97 : Int) ≤ (d : Int) := by omega
    have t2 : ¬ (d : Int) ≤ 122 := by omega
    have t3 : (65 : Int) ≤ (d : Int) := by omega
    have t4 : ¬ (d : Int) ≤ 90 := by omega
    have t5 : ((d : Int) == 95) = false := by simp; omega
    go_enter Tryz.func5, Tryz.ntmps5
    go_wp2
    go_ret
    exact ⟨by have : d ≠ 95 := by omega
              simp [this]; omega, rfl⟩

def natOf : Value → Nat
  | .int _ n => n.toNat
  | _ => 0

set_option maxRecDepth 100000 in
set_option maxHeartbeats 4000000 in
theorem fits8_any (v : Value) (ss : List (List UInt8)) (w : World) (hv : StrsAt w v ss) :
    Calls Tryz.prog 4 #[v] w fun e w' => (∃ b, e = .returned (.bool b)) ∧ w = w' := by
  obtain ⟨a, c, rfl, hc, hm, hx⟩ := hv
  obtain ⟨n, hn⟩ : ∃ n, ss.length = n := ⟨_, rfl⟩
  unfold maxLen at hm
  rw [hn] at hc ⊢
  have HX := Lib.hid hx
  clear hx
  by_cases hbig : (2147483647 : Int) < (n : Int)
  · go_enter Tryz.func4, Tryz.ntmps4
    go_wp2
    go_ret
    exact ⟨by first | exact ⟨_, rfl⟩ | exact .inl rfl | exact .inr rfl, by first | rfl | trivial⟩
  · go_enter Tryz.func4, Tryz.ntmps4
    go_wp2
    go_loopw [10] (fun i wr => ∃ k : Nat, i = .int .i64 (k : Nat) ∧ k ≤ n ∧ w = wr) (fun i _ => n - natOf i)
    case atStart => exact ⟨0, rfl, Nat.zero_le _, rfl⟩
    case round =>
      obtain ⟨k, rfl, hk, rfl⟩ := hrel
      by_cases hlt : k < n
      · have t1 : (k : Int) < (n : Int) := by omega
        have t0 : (0 : Int) ≤ (k : Int) := by omega
        obtain ⟨b, off, rfl, hcell⟩ := HX.out.resolve_left (by intro e; rw [e] at hn; simp at hn; omega)
        have hck := hcell k (by omega)
        obtain ⟨s, hs⟩ : ∃ s, mk (ss[k]'(by omega)) = s := ⟨_, rfl⟩
        rw [hs] at hck
        have hwr : IntKind.i64.wrap ((k : Int) + 1) = ((k + 1 : Nat) : Int) := by rw [IntWalk.i64_in _ (by omega)]; rfl
        by_cases hb : (2147483647 : Int) < (s.size : Int)
        · go_wp2
          go_ret
          exact ⟨by first | exact ⟨_, rfl⟩ | exact .inl rfl | exact .inr rfl, by first | rfl | trivial⟩
        · go_wp2
          go_roundw
          case rel => exact ⟨k + 1, rfl, by omega, by first | rfl | trivial⟩
          case measure => simp [natOf]; omega
      · have t1 : ¬ (k : Int) < (n : Int) := by omega
        go_wp2
        go_ret
        exact ⟨by first | exact ⟨_, rfl⟩ | exact .inl rfl | exact .inr rfl, by first | rfl | trivial⟩


section
variable {ops : Array Oper} {rest : List Oper} {o : Oper} {a : Act} {Q : Exit → Act → World → Prop} {w : World} {B : World} {v0 : Value}
theorem at_out_str2 {v : Value} {l : List UInt8} (h : Out B v0 w v l) (s x : Operand) (r : List UInt8) (st : ByteArray) (hst : mk r = st) (hb : l.length + r.length ≤ 140737488355328)
    (hgd : o.guard = none) (ho : o.op = .call { callee := .builtin .append, args := #[s, x], argTypes := #[24, 9] }) (hs : a.eval s = v) (hx : a.eval x = .string st)
    (hk : ∀ v' w', Out B v0 w' v' (l ++ r) → wpList Tryz.prog ops Q rest (a.put o.dst v') w') : wpList Tryz.prog ops Q (o :: rest) a w :=
  at_out_str h s x r hb hgd ho hs (by rw [hx, hst]) hk
end

theorem StrsAt.at {w : World} {a : Option Addr} {n c : Nat} {ss : List (List UInt8)} (h : StrsAt w (.slice a n c) ss) (h0 : ss ≠ []) : ∃ b off, a = some ⟨b, off, none⟩ ∧ ∀ j (hj : j < ss.length), w.cell? ⟨b, off + j, none⟩ = some (.string (mk ss[j])) := by
  obtain ⟨a', c', hv, _, _, h3⟩ := h
  cases hv
  exact h3.resolve_left h0

theorem tcells_get : ∀ (ts : List TT) (ps : List Int) (i : Nat) (t : TT), ps.length = ts.length → ts[i]? = some t → ∃ p, ∀ j, j < 6 → ((List.zipWith tcells ts ps).flatten)[i * 6 + j]? = (tcells t p)[j]?
  | [], _, i, t, _, h => by simp at h
  | t0 :: ts, [], i, t, hl, h => by simp at hl
  | t0 :: ts, p0 :: ps, 0, t, hl, h => by
    simp at h
    subst h
    refine ⟨p0, fun j hj => ?_⟩
    simp only [List.zipWith_cons_cons, List.flatten_cons, Nat.zero_mul, Nat.zero_add]
    rw [List.getElem?_append_left (by simp [tcells]; omega)]
  | t0 :: ts, p0 :: ps, i + 1, t, hl, h => by
    obtain ⟨p, hp⟩ := tcells_get ts ps i t (by simpa using hl) (by simpa using h)
    refine ⟨p, fun j hj => ?_⟩
    simp only [List.zipWith_cons_cons, List.flatten_cons]
    rw [List.getElem?_append_right (by simp [tcells]; omega)]
    rw [← hp j hj]
    congr 1
    simp [tcells]
    omega
theorem TCells.get {ts : List TT} {xs : List Value} (h : TCells ts xs) {i : Nat} {t : TT} (hi : ts[i]? = some t) : ∃ p, ∀ j, j < 6 → xs[i * 6 + j]? = (tcells t p)[j]? := by
  obtain ⟨ps, h1, rfl⟩ := h
  exact tcells_get ts ps i t h1 hi
theorem owns_cell {w : World} {base : Nat} {e : TypeId} {size g n cap : Nat} {xs : List Value} (h : w.ownsRow base e size (.slice (some ⟨g, 0, none⟩) n cap) n xs) {q : Nat} {u : Value} (hq : xs[q]? = some u) : w.cell? ⟨g, q, none⟩ = some u := by
  rcases h.2 with ⟨h2, _⟩ | ⟨g', cap', cur, hv, _, hr, _, _, _, ht⟩
  · cases h2
  · cases hv
    rw [cell_row hr]
    rw [← ht, List.getElem?_take] at hq
    split at hq
    · simpa using hq
    · cases hq
theorem owns_some {w : World} {base : Nat} {e : TypeId} {size n : Nat} {v : Value} {xs : List Value} (h : w.ownsRow base e size v n xs) (h0 : n ≠ 0) : ∃ g cap, v = .slice (some ⟨g, 0, none⟩) n cap := by
  rcases h.2 with ⟨_, h2⟩ | ⟨g, cap, cur, rfl, _⟩
  · exact absurd h2 h0
  · exact ⟨g, cap, rfl⟩

/-- What holds ahead of each round of the loop that writes the message. -/
def QRel (B : World) (fs : List (List UInt8 × List UInt8)) (n : Nat) (v i : Value) (wr : World) : Prop :=
  ∃ k : Nat, k ≤ n ∧ i = .int .i64 (k : Nat) ∧ Out B (.slice none 0 0) wr v (msgB (fs.take k)) ∧ (∀ p ∈ fs.take k, QOk p)
theorem qrel_next {B : World} {ns ts : List (List UInt8)} {n k : Nat} {v : Value} {wr : World} (hl : ns.length = ts.length) (hn : ns.length = n) (hk : k < n) (h : Out B (.slice none 0 0) wr v ((((msgB ((ns.zip ts).take k) ++ ns[k]'(by omega)) ++ [58, 32]) ++ quote false (ts[k]'(by omega))) ++ [10]))
    (hq : ∀ p ∈ (ns.zip ts).take k, QOk p) (hp : QOk (ns[k]'(by omega), ts[k]'(by omega))) : QRel B (ns.zip ts) n v (.int .i64 ((k + 1 : Nat) : Int)) wr := by
  refine ⟨k + 1, by omega, rfl, ?_, ?_⟩
  · rw [zip_take hl k (by omega), msgB_append, msgB_one]
    simpa [List.append_assoc] using h
  · rw [zip_take hl k (by omega)]
    intro p hp2
    rcases List.mem_append.1 hp2 with h1 | h1
    · exact hq p h1
    · simp at h1; subst h1; exact hp
theorem none_keeps {B w : World} {v : Value} {l : List UInt8} (h : Out B (.slice none 0 0) w v l) : Keeps (fun _ => False) B w := h.keeps.mono (fun _ _ e => by simp [blk, Value.ownBlock] at e)

set_option maxRecDepth 1000000 in
set_option maxHeartbeats 20000000 in
theorem quoted_any (v1 v2 : Value) (ns ts : List (List UInt8)) (w : World) (h1 : StrsAt w v1 ns) (h2 : StrsAt w v2 ts) (hT : Tabs w) :
    Calls Tryz.prog 3 #[v1, v2] w fun e w' => e = .returned (.bool true) ∧ Keeps (fun _ => False) w w' := by
  have cf1 := fits8_any v1 ns w h1
  have cf2 := fits8_any v2 ts w h2
  obtain ⟨a1, c1, hv1, hc1, hm1, _⟩ := id h1
  obtain ⟨a2, c2, hv2, hc2, hm2, _⟩ := id h2
  obtain ⟨n, hn⟩ : ∃ n, ns.length = n := ⟨_, rfl⟩
  obtain ⟨n2, hn2⟩ : ∃ n, ts.length = n := ⟨_, rfl⟩
  rw [hn] at hv1 hc1
  rw [hn2] at hv2 hc2
  subst hv1 hv2
  have HN := Lib.hid hn
  have HN2 := Lib.hid hn2
  have H1 := Lib.hid h1
  have H2 := Lib.hid h2
  have HT := Lib.hid hT
  unfold maxLen at hm1 hm2
  clear h1 h2 hT hn hn2
  go_enter Tryz.func3, Tryz.ntmps3
  go_upto_region 3 with (first
    | (go_at_call 4; (with_reducible refine cf1.mono ?_); rintro e w' ⟨⟨b1, rfl⟩, rfl⟩; cases b1)
    | (go_at_call 4; (with_reducible refine cf2.mono ?_); rintro e w' ⟨⟨b2, rfl⟩, rfl⟩; cases b2))
  · go_ret
    exact ⟨rfl, Keeps.refl _ _⟩
  · go_ret
    exact ⟨rfl, Keeps.refl _ _⟩
  clear cf1 cf2
  by_cases hnn : n = n2
  · subst hnn
    by_cases h50 : (50 : Int) < (n : Int)
    · go_wp2
      go_ret
      exact ⟨rfl, Keeps.refl _ _⟩
    · have hn50 : n ≤ 50 := by omega
      go_wp2_with (fail)
      go_loopw [5, 39] (fun v i wr => QRel w (ns.zip ts) n v i wr) (fun _ i _ => n - natOf i)
      case atStart => exact ⟨0, Nat.zero_le _, rfl, by rw [List.take_zero]; exact Out.start (Own.nil w), by rw [List.take_zero]; intro p hp; cases hp⟩
      case round =>
        obtain ⟨k, hk, rfl, hout, hqs⟩ := hrel
        obtain ⟨av, cv, hvf, _, _⟩ := hout.own.form
        obtain ⟨M, hM⟩ : ∃ M, (msgB ((ns.zip ts).take k)).length = M := ⟨_, rfl⟩
        rw [hM] at hvf
        subst hvf
        have hML : M ≤ 1000000 := by
          have h1 := msgB_len _ hqs
          rw [List.length_take] at h1
          have h2 : min k (ns.zip ts).length ≤ 50 := by omega
          have h3 := Nat.mul_le_mul_left 18200 h2
          omega
        have HO := Lib.hid hout
        have HQ := Lib.hid hqs
        have HM := Lib.hid hM
        have HKW : Hid (Keeps (fun _ => False) w wr) := none_keeps hout
        clear hout hqs hM
        by_cases hlt : k < n
        · have t1 : (k : Int) < (n : Int) := by omega
          have t0 : (0 : Int) ≤ (k : Int) := by omega
          have hkn : k < ns.length := by rw [HN.out]; exact hlt
          have hkt : k < ts.length := by rw [HN2.out]; exact hlt
          obtain ⟨b1, o1, rfl, hcell1⟩ := (H1.out.keeps HKW.out (fun _ _ => id)).at (by intro e; rw [e] at hkn; simp at hkn)
          obtain ⟨b2, o2, rfl, hcell2⟩ := H2.out.at (by intro e; rw [e] at hkt; simp at hkt)
          have hck1 := hcell1 k hkn
          have hckw2 := hcell2 k hkt
          obtain ⟨l, hll⟩ : ∃ l, ns[k] = l := ⟨_, rfl⟩
          obtain ⟨t, htt⟩ : ∃ t, ts[k] = t := ⟨_, rfl⟩
          rw [hll] at hck1
          rw [htt] at hckw2
          obtain ⟨s1, hs1⟩ : ∃ s, mk l = s := ⟨_, rfl⟩
          obtain ⟨s2, hs2⟩ : ∃ s, mk t = s := ⟨_, rfl⟩
          have hz1 : s1.size = l.length := by rw [← hs1]; rfl
          have hz2 : s2.size = t.length := by rw [← hs2]; rfl
          rw [hs1] at hck1
          rw [hs2] at hckw2
          have hck2 := HKW.out.cell hckw2 id
          have H2C := Lib.hid hckw2
          clear hckw2
          have HLL := Lib.hid hll
          have HTT := Lib.hid htt
          have HS1 := Lib.hid hs1
          have HS2 := Lib.hid hs2
          have HZ1 := Lib.hid hz1
          have HZ2 := Lib.hid hz2
          have hwr : IntKind.i64.wrap ((k : Int) + 1) = ((k + 1 : Nat) : Int) := by rw [IntWalk.i64_in _ (by omega)]; rfl
          clear hcell1 hcell2 hll htt hs1 hs2 hz1 hz2
          by_cases g1 : (1000 : Int) < (s2.size : Int)
          · go_wp2
            go_ret
            exact ⟨rfl, HKW.out⟩
          · by_cases g2 : (100 : Int) < (s1.size : Int)
            · go_wp2
              go_ret
              exact ⟨rfl, HKW.out⟩
            · by_cases g3 : s1.size = 0
              · have g4 : ((s1.size : Int) == 0) = true := by simp [g3]
                go_wp2
                go_ret
                exact ⟨rfl, HKW.out⟩
              · have g4 : ((s1.size : Int) == 0) = false := by simp [g3]
                go_wp2_with (fail)
                obtain ⟨wo, hwo⟩ : ∃ wo : World, wo = wr := ⟨_, rfl⟩
                subst hwo
                have hs1i : (s1.size : Int) ≤ 100 := by omega
                have HG3 := Lib.hid g3
                clear g3
                go_loopw [8] (fun kk wx => ∃ m : Nat, kk = .int .i64 (m : Nat) ∧ m ≤ s1.size ∧ (∀ j (h : j < l.length), j < m → Letter l[j]) ∧ wx = wo) (fun kk _ => s1.size - natOf kk)
                case atStart => exact ⟨0, rfl, Nat.zero_le _, fun j _ h => by omega, rfl⟩
                case round =>
                  obtain ⟨m, rfl, hm, hml, rfl⟩ := hrel
                  have HML := Lib.hid hml
                  clear hml
                  by_cases hmlt : m < s1.size
                  · have t3 : (m : Int) < (s1.size : Int) := by omega
                    have hmlt2 : m < l.length := by rw [← HZ1.out]; exact hmlt
                    have hat := fun w' => run_at l m hmlt2 w'
                    rw [HS1.out] at hat
                    obtain ⟨d, hd⟩ : ∃ d, l[m].toNat = d := ⟨_, rfl⟩
                    have hd256 : d < 256 := by rw [← hd]; exact l[m].toNat_lt
                    rw [hd] at hat
                    have HD := Lib.hid hd
                    have hwr2 : IntKind.i64.wrap ((m : Int) + 1) = ((m + 1 : Nat) : Int) := by rw [IntWalk.i64_in _ (by omega)]; rfl
                    have HML2 := Lib.hid hmlt2
                    clear hd
                    cases hL : isLetter d with
                    | false =>
                      have hlc := letter_any d hd256
                      rw [hL] at hlc
                      clear hL
                      go_wp2_with (go_at_call 5; refine (hlc _).mono ?_; rintro e w' ⟨rfl, rfl⟩)
                      go_ret
                      exact ⟨rfl, HKW.out⟩
                    | true =>
                      have hlc := letter_any d hd256
                      have HLT : Hid (isLetter d = true) := hL
                      rw [hL] at hlc
                      clear hL
                      go_wp2_with (go_at_call 5; refine (hlc _).mono ?_; rintro e w' ⟨rfl, rfl⟩)
                      go_roundw
                      case rel =>
                        refine ⟨m + 1, rfl, by omega, fun j hj hjm => ?_, by first | rfl | trivial⟩
                        by_cases hjm2 : j < m
                        · exact HML.out j hj hjm2
                        · obtain rfl : j = m := by omega
                          exact (letter_iff _).1 (by rw [HD.out]; exact HLT.out)
                      case measure => simp [natOf]; omega
                  · have t3 : ¬ (m : Int) < (s1.size : Int) := by omega
                    have hQO : QOk (l, t) := by
                      have h1 := HZ1.out
                      have h2 := HZ2.out
                      have h3 := HG3.out
                      refine ⟨?_, ?_, by show l.length ≤ 100; omega, by show t.length ≤ 1000; omega⟩
                      · intro e
                        have e2 : l = [] := e
                        rw [e2] at h1
                        exact h3 h1
                      · intro c hc
                        obtain ⟨j, hj, rfl⟩ := List.getElem_of_mem hc
                        exact HML.out j hj (by have hj2 : j < l.length := hj; omega)
                    have HQO := Lib.hid hQO
                    have hLl : l.length ≤ 100 := hQO.2.2.1
                    have hLt : t.length ≤ 1000 := hQO.2.2.2
                    have hLq := quote_len false t
                    have HLA : Hid ((msgB ((ns.zip ts).take k)).length + l.length ≤ 140737488355328) := by show _ ≤ _; rw [HM.out]; omega
                    have HLB : Hid ((msgB ((ns.zip ts).take k) ++ l).length + ([58, 32] : List UInt8).length ≤ 140737488355328) := by show _ ≤ _; rw [List.length_append, HM.out]; simp; omega
                    have HLC : Hid (((msgB ((ns.zip ts).take k) ++ l) ++ [58, 32]).length + (quote false t).length ≤ 140737488355328) := by show _ ≤ _; rw [List.length_append, List.length_append, HM.out]; simp; omega
                    have HLD : Hid ((((msgB ((ns.zip ts).take k) ++ l) ++ [58, 32]) ++ quote false t).length + ([10] : List UInt8).length ≤ 140737488355328) := by show _ ≤ _; rw [List.length_append, List.length_append, List.length_append, HM.out]; simp; omega
                    have hq0 := fun w' (h : Tabs w') => textQuote_any t w' h (by omega)
                    have hu0 := fun w' (h : Tabs w') => textUnquote_any t w' h (by omega) (by omega)
                    rw [HS2.out] at hq0 hu0
                    obtain ⟨sq, hsq⟩ : ∃ sq, mk (quote false t) = sq := ⟨_, rfl⟩
                    rw [hsq] at hu0
                    obtain ⟨lq, hlq⟩ : ∃ lq, (quote false t).length = lq := ⟨_, rfl⟩
                    have HSQ := Lib.hid hsq
                    have HLQ := Lib.hid hlq
                    have HQ0 := Lib.hid hq0
                    have HU0 := Lib.hid hu0
                    clear hQO hLl hLt hLq hsq hlq hq0 hu0
                    obtain ⟨MA, hMA⟩ : ∃ MA, (msgB ((ns.zip ts).take k) ++ l).length = MA := ⟨_, rfl⟩
                    obtain ⟨MB, hMB⟩ : ∃ MB, ((msgB ((ns.zip ts).take k) ++ l) ++ [58, 32]).length = MB := ⟨_, rfl⟩
                    obtain ⟨MC, hMC⟩ : ∃ MC, (((msgB ((ns.zip ts).take k) ++ l) ++ [58, 32]) ++ quote false t).length = MC := ⟨_, rfl⟩
                    obtain ⟨MD, hMD⟩ : ∃ MD, ((((msgB ((ns.zip ts).take k) ++ l) ++ [58, 32]) ++ quote false t) ++ [10]).length = MD := ⟨_, rfl⟩
                    have HMA := Lib.hid hMA
                    have HMB := Lib.hid hMB
                    have HMC := Lib.hid hMC
                    have HMD := Lib.hid hMD
                    clear hMA hMB hMC hMD
                    go_wp2_with (first
                      | (at_builtin; refine at_out_str2 HO.out (.tmp 71) (.tmp 72) l s1 HS1.out HLA.out rfl rfl rfl rfl ?_; intro vA wA oA; obtain ⟨aA, cA, hfA, _, _⟩ := oA.own.form; rw [HMA.out] at hfA; subst hfA; have OA := Lib.hid oA; clear oA)
                      | (at_builtin; refine at_out_str OA.out (.tmp 74) (.const (.string ⟨#[58, 32]⟩)) [58, 32] HLB.out rfl rfl rfl rfl ?_; intro vB wB oB; obtain ⟨aB, cB, hfB, _, _⟩ := oB.own.form; rw [HMB.out] at hfB; subst hfB; have OB := Lib.hid oB; clear oB; have hckB := (none_keeps OB.out).cell (H2C.out) id)
                      | (go_at_call 6; (with_reducible refine (HQ0.out wB (HT.out.keeps (none_keeps OB.out) (fun _ _ => id))).mono ?_); rintro e wC ⟨VC, rfl, hVC, hVCb, hkC⟩; obtain ⟨aQ, cQ, hfQ, _, _⟩ := hVC.form; rw [HLQ.out] at hfQ; subst hfQ; have hcvQ := run_to_str hVC; rw [HSQ.out] at hcvQ; have HVC := Lib.hid hVC; have HKC := Lib.hid hkC; clear hVC hkC hVCb; have hckC := HKC.out.cell hckB id)
                      | (go_at_call 7; (with_reducible refine (HU0.out wC (HT.out.keeps ((none_keeps OB.out).trans HKC.out (fun _ _ => id)) (fun _ _ => id))).mono ?_); rintro e wD ⟨rfl, hkD⟩; have HKD := Lib.hid hkD; clear hkD; have hckD := HKD.out.cell hckC id)
                      | (at_builtin; refine at_out_app (OB.out.below (HKC.out.trans HKD.out (fun _ _ => id))) (.tmp 97) (.tmp 98) (HVC.out.keeps HKD.out (fun _ _ => id)) HLC.out rfl rfl rfl rfl ?_; intro vE wE oE; obtain ⟨aE, cE, hfE, _, _⟩ := oE.own.form; rw [HMC.out] at hfE; subst hfE; have OE := Lib.hid oE; clear oE)
                      | (at_builtin; refine at_out_lit OE.out (.tmp 99) (.tmp 100) [10] HLD.out rfl rfl rfl rfl ?_; intro vF wF oF; obtain ⟨aF, cF, hfF, _, _⟩ := oF.own.form; rw [HMD.out] at hfF; subst hfF; have OF := Lib.hid oF; clear oF))
                    refine ⟨?_, by simp [natOf]; omega⟩
                    show QRel w (ns.zip ts) n _ (.int .i64 ((k + 1 : Nat) : Int)) wF
                    exact qrel_next (HN.out.trans HN2.out.symm) HN.out hlt (by rw [HLL.out, HTT.out]; exact OF.out) HQ.out (by rw [HLL.out, HTT.out]; exact HQO.out)
        · have t1 : ¬ (k : Int) < (n : Int) := by omega
          obtain rfl : k = n := by omega
          have HK50 := Lib.hid hn50
          have hfs : (ns.zip ts).take k = ns.zip ts := by rw [← HN.out]; exact zip_all (HN.out.trans HN2.out.symm)
          have hOB := HO.out.own.bytes
          have hQA := HQ.out
          have hMM := HM.out
          rw [hfs] at hOB hQA hMM
          have hmo := msgOk_of hQA
          have hzl : (ns.zip ts).length = k := by rw [List.length_zip, HN.out, HN2.out, Nat.min_self]
          have hc := textTokens_any _ _ (msgT (ns.zip ts)) wr hOB (by rw [hMM]; omega) (msg_reads _ 0 (.inl rfl) hmo) (by rw [msgT_length, hzl]; omega) (HT.out.keeps HKW.out (fun _ _ => id)) one_ok
          obtain ⟨N2, hN2⟩ : ∃ N2, (msgT (ns.zip ts)).length = N2 := ⟨_, rfl⟩
          have hN2k : N2 = 2 * k := by rw [← hN2, msgT_length, hzl]
          rw [hN2] at hc
          have hwN : IntKind.i64.wrap (2 * (k : Int)) = (N2 : Int) := by rw [hN2k, IntWalk.i64_in _ (by omega)]; omega
          have HN2k := Lib.hid hN2k
          have HQA := Lib.hid hQA
          clear hfs hOB hQA hMM hmo hzl hN2 hN2k hn50 hML hk hlt t1
          go_upto_region 27 with (go_at_call 8; refine hc.mono ?_; rintro e w3 ⟨V, xs, rfl, ho, htc, hk3⟩; obtain ⟨ao, co, hVf, hob⟩ := owns_form ho; subst hVf; have HO3 := Lib.hid ho; have HK3 := Lib.hid hk3; have HTC := Lib.hid htc; clear ho hob hk3 htc)
          have HKW3 : Hid (Keeps (fun _ => False) w w3) := HKW.out.trans HK3.out (fun _ _ => id)
          have HC := Lib.hid hwN
          clear hc hwN
          go_wp2_with (fail)
          go_loopw [120] (fun ii wx => ∃ i : Nat, ii = .int .i64 (i : Nat) ∧ i ≤ k ∧ Keeps (fun _ => False) w3 wx) (fun ii _ => k - natOf ii)
          case atStart => exact ⟨0, rfl, Nat.zero_le _, Keeps.refl _ _⟩
          case round =>
            obtain ⟨i, rfl, hik, hkx⟩ := hrel
            have HKX := Lib.hid hkx
            clear hkx
            by_cases hlt : i < k
            · have t1 : (i : Int) < (k : Int) := by omega
              have t0 : (0 : Int) ≤ (i : Int) := by omega
              have hk50 := HK50.out
              obtain ⟨g, cap, hVf⟩ := owns_some HO3.out (by have h := HN2k.out; omega)
              simp only [Value.slice.injEq] at hVf
              obtain ⟨rfl, -, rfl⟩ := hVf
              have hkn : i < ns.length := by rw [HN.out]; exact hlt
              have hkt : i < ts.length := by rw [HN2.out]; exact hlt
              have hfi : (ns.zip ts)[i]? = some (ns[i], ts[i]) := zip_get (HN.out.trans HN2.out.symm) i hkn
              have hqi : QOk (ns[i], ts[i]) := HQA.out _ (List.mem_of_getElem? hfi)
              obtain ⟨hg1, hg2⟩ := msgT_get (ns.zip ts) i _ _ hfi
              obtain ⟨pa, hpa⟩ := HTC.out.get hg1
              obtain ⟨pb, hpb⟩ := HTC.out.get hg2
              have cel : ∀ q u, xs[q]? = some u → wr.cell? ⟨g, q, none⟩ = some u := fun q u h => HKX.out.cell (owns_cell HO3.out h) id
              obtain ⟨m, hm⟩ : ∃ m, 2 * i = m := ⟨_, rfl⟩
              obtain ⟨m1, hm1'⟩ : ∃ m1, 2 * i + 1 = m1 := ⟨_, rfl⟩
              rw [hm] at hpa
              rw [hm1'] at hpb
              obtain ⟨b1, o1, rfl, hcell1⟩ := H1.out.at (by intro e; rw [e] at hkn; simp at hkn)
              obtain ⟨b2, o2, rfl, hcell2⟩ := H2.out.at (by intro e; rw [e] at hkt; simp at hkt)
              have hcx1 := (HKW3.out.trans HKX.out (fun _ _ => id)).cell (hcell1 i hkn) id
              have hcx2 := (HKW3.out.trans HKX.out (fun _ _ => id)).cell (hcell2 i hkt) id
              obtain ⟨l, hll⟩ : ∃ l, ns[i] = l := ⟨_, rfl⟩
              obtain ⟨t, htt⟩ : ∃ t, ts[i] = t := ⟨_, rfl⟩
              rw [hll] at hcx1 hpa
              rw [htt] at hcx2 hpb
              rw [hll, htt] at hqi
              have d0 := cel _ _ (hpa 0 (by omega))
              have d3 := cel _ _ (hpa 3 (by omega))
              have d5 := cel _ _ (hpa 5 (by omega))
              have d4 := cel _ _ (hpb 4 (by omega))
              have hlt2 : t.length ≤ 1000 := hqi.2.2.2
              have hql := quote_len false t
              obtain ⟨cB, wB, hcv, hbB, hkB⟩ := run_to_bytes (quote false t ++ [10]) (by unfold maxLen; rw [List.length_append]; simp; omega) wr
              obtain ⟨LB, hLB⟩ : ∃ LB, (quote false t ++ [10]).length = LB := ⟨_, rfl⟩
              rw [hLB] at hcv hbB
              have hTB : Tabs wB := HT.out.keeps ((HKW3.out.trans HKX.out (fun _ _ => id)).trans hkB (fun _ _ => id)) (fun _ _ => id)
              have hsc := textScalar_str _ t wB hbB hTB (by omega) (by omega)
              obtain ⟨s1, hs1⟩ : ∃ s, mk l = s := ⟨_, rfl⟩
              obtain ⟨s2, hs2⟩ : ∃ s, mk t = s := ⟨_, rfl⟩
              obtain ⟨sq, hsq⟩ : ∃ s, mk (quote false t ++ [10]) = s := ⟨_, rfl⟩
              rw [hs1] at hcx1 d5
              rw [hs2] at hcx2 hsc
              rw [hsq] at hcv d4
              have f0 : wr.cell? ⟨g, m * 6, none⟩ = some (.int .i64 2) := d0
              have hw1 : IntKind.i64.wrap (2 * (i : Int)) = (m : Int) := by rw [← hm, IntWalk.i64_in _ (by omega)]; omega
              have hw2 : IntKind.i64.wrap ((m : Int) + 1) = (m1 : Int) := by rw [← hm, ← hm1', IntWalk.i64_in _ (by omega)]; omega
              have hwi : IntKind.i64.wrap ((i : Int) + 1) = ((i + 1 : Nat) : Int) := by rw [IntWalk.i64_in _ (by omega)]; rfl
              have b0 : (0 : Int) ≤ (m : Int) := by omega
              have b1' : (m : Int) < (N2 : Int) := by have h := HN2k.out; omega
              have b2' : (0 : Int) ≤ (m1 : Int) := by omega
              have b3 : (m1 : Int) < (N2 : Int) := by have h := HN2k.out; omega
              have HS1 := Lib.hid hs1
              have HS2 := Lib.hid hs2
              have HSQ := Lib.hid hsq
              have HKB := Lib.hid hkB
              have HX1 := Lib.hid hcx1
              have HX2 := Lib.hid hcx2
              have HF0 := Lib.hid f0
              have HF3 := Lib.hid d3
              have HF5 := Lib.hid d5
              have HSC := Lib.hid hsc
              clear hk50 hm hm1' hs1 hs2 hsq hkB hpa hpb hll htt hqi hlt2 hql hLB hTB hbB hcell1 hcell2 cel hg1 hg2 hfi d0 f0 d3 d5 hcx2 hkn hkt hsc
              go_upto_region 31 with (go_at_call 9; refine HSC.out.mono ?_; rintro e wE ⟨sx, rfl, hkE⟩; have HKE := Lib.hid (HKB.out.trans hkE (fun _ _ => id)); clear hkE)
              obtain ⟨WF, hWF⟩ : ∃ WF, wE.alloc (.cells #[.bool false, .bool false, .int .i64 0, .bool false, .int .i32 0, .bool false, .int .u64 0, .bool false, .int .u32 0, .bool false, .int .u64 0, .bool false, .int .u64 0, .bool false, .string ⟨#[]⟩, .bool false, .string s2, .bool true] 35) = WF := ⟨_, rfl⟩
              have hKF : Keeps (fun _ => False) wr WF := by rw [← hWF]; exact HKE.out.alloc _
              have hrF : WF.heap[wE.heap.size]? = some (.cells #[.bool false, .bool false, .int .i64 0, .bool false, .int .i32 0, .bool false, .int .u64 0, .bool false, .int .u32 0, .bool false, .int .u64 0, .bool false, .int .u64 0, .bool false, .string ⟨#[]⟩, .bool false, .string s2, .bool true] 35 (0, 0)) := by rw [← hWF]; exact heap_alloc_new wE _
              rw [hWF]
              obtain ⟨K, hK⟩ : ∃ K, wE.heap.size = K := ⟨_, rfl⟩
              rw [hK] at hrF ⊢
              have e16 := cell_row (j := 16) hrF
              have e17 := cell_row (j := 17) hrF
              simp at e16 e17
              have q0 := hKF.cell HF0.out id
              have q3 := hKF.cell HF3.out id
              have q5 := hKF.cell HF5.out id
              have x2 := hKF.cell HX2.out id
              have HKF := Lib.hid hKF
              clear hKF hrF hWF hK hcx1 d4 hcv
              go_quiet (fail)
              go_wp2
              exact ⟨⟨i + 1, rfl, by omega, (HKX.out.trans HKF.out (fun _ _ => id)).drewN nq⟩, by simp [natOf]; omega⟩
            · have t1 : ¬ (i : Int) < (k : Int) := by omega
              have hlv := lives_any wr (HT.out.keeps (HKW3.out.trans HKX.out (fun _ _ => id)) (fun _ _ => id))
              go_wp2_with (go_at_call 10; refine hlv.mono ?_; rintro e w5 ⟨rfl, hk5⟩)
              go_ret
              exact ⟨rfl, (HKW3.out.trans HKX.out (fun _ _ => id)).trans hk5 (fun _ _ => id)⟩
  · have t1 : ((n : Int) != (n2 : Int)) = true := by simp; omega
    have t2 : ((n : Int) == (n2 : Int)) = false := by simp; omega
    go_wp2
    go_ret
    exact ⟨rfl, Keeps.refl _ _⟩
end Go.Proofs.YtdckklmhnhbpiaaGreatDoor
