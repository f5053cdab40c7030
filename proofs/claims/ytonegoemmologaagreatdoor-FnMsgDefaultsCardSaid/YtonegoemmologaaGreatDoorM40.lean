/-
  What given, Marshal, Unmarshal and plain do of a value, for each kind.
  The conversions between numbers of 32 and of 64 bits.
-/
import Derived.Test.YtonegoemmologaaGreatDoorM27
import Derived.Test.YtonegoemmologaaGreatDoorM28
import Derived.Test.YtonegoemmologaaGreatDoorM29
import Derived.Test.YtonegoemmologaaGreatDoorM39
import Derived.Test.YtonegoemmologaaGreatDoorM32
set_option linter.unusedVariables false
set_option linter.unusedSimpArgs false
namespace Go.Proofs.YtonegoemmologaaGreatDoor
open Go.RowKit
theorem u64_back (i : Int) (h1 : -9223372036854775808 ≤ i) (h2 : i ≤ 9223372036854775807) : IntKind.i64.wrap (IntKind.u64.wrap i) = i ∧ wrap64 (IntKind.u64.wrap i) = i := by
 refine ⟨?_, ?_⟩ <;> simp [IntKind.wrap, IntKind.signed, IntKind.bits, wrap64] <;> (repeat' split) <;> omega
theorem u64_back32 (i : Int) (h1 : -2147483648 ≤ i) (h2 : i ≤ 2147483647) : IntKind.i32.wrap (IntKind.u64.wrap i) = i := by
 simp [IntKind.wrap, IntKind.signed, IntKind.bits] <;> (repeat' split) <;> omega
def Flat (a b : Int) (c : ByteArray) : World → Int → Int → ByteArray → Option Addr → Nat → Nat → Prop := fun _ t nn ss ba bn bc => t = a ∧ nn = b ∧ ss = c ∧ ba = none ∧ bn = 0 ∧ bc = 0
theorem gm_5 (form : Int) (ev : Value) (i : Int) (h1 : -2147483648 ≤ i) (h2 : i ≤ 2147483647) (e : ByteArray) (w : World) (hT : Ten w) : GM 5 form (iv 5 false i 0 0 noS e) ev (fun _ y => y = pv 2 (IntKind.u64.wrap i) noS (.slice none 0 0)) (mk (Lib.itoa i)) w :=
 ⟨fun w' hk => (given_5 false i 0 0 noS e h1 h2 w').mono fun en w2 h => ⟨⟨_, h.1, rfl⟩, h.2⟩, fun w' y hk hy => by subst hy; exact marshal_5 ev form i _ (by omega) (by omega) (u64_back i (by omega) (by omega)).2 (u64_back i (by omega) (by omega)).1 w' (hT.keepsF hk), fun _ _ _ _ h => h⟩
theorem up_5 (form : Int) (L : List EV) (i : Int) (h1 : -2147483648 ≤ i) (h2 : i ≤ 2147483647) (w : World) : UP 5 form (mk (Lib.itoa i)) L .nilIface false i 0 noS (Flat 2 (IntKind.u64.wrap i) noS) (fun f => f = 0) w :=
 ⟨fun w' V hk hv => (unmarshal_5 (.iface 61 V) form i h1 h2 w').mono fun en w2 h => ⟨⟨_, _, _, _, _, _, h.1, rfl, rfl, rfl, rfl, rfl, rfl⟩, h.2⟩,
  fun w' t nn ss ba bn bc hk hr => by obtain ⟨rfl, rfl, rfl, rfl, rfl, rfl⟩ := hr; exact (plain_5 i _ (u64_back i (by omega) (by omega)).1 (u64_back i (by omega) (by omega)).2 w').mono fun en w2 h => ⟨⟨0, h.1, rfl⟩, h.2⟩, fun _ _ _ _ _ _ _ _ _ h => h⟩
theorem gm_17 (form : Int) (ev : Value) (i : Int) (h1 : -2147483648 ≤ i) (h2 : i ≤ 2147483647) (e : ByteArray) (w : World) (hT : Ten w) : GM 17 form (iv 17 false i 0 0 noS e) ev (fun _ y => y = pv 2 (IntKind.u64.wrap i) noS (.slice none 0 0)) (mk (Lib.itoa i)) w :=
 ⟨fun w' hk => (given_17 false i 0 0 noS e h1 h2 w').mono fun en w2 h => ⟨⟨_, h.1, rfl⟩, h.2⟩, fun w' y hk hy => by subst hy; exact marshal_17 ev form i _ (by omega) (by omega) (u64_back i (by omega) (by omega)).2 (u64_back i (by omega) (by omega)).1 w' (hT.keepsF hk), fun _ _ _ _ h => h⟩
theorem up_17 (form : Int) (L : List EV) (i : Int) (h1 : -2147483648 ≤ i) (h2 : i ≤ 2147483647) (w : World) : UP 17 form (mk (Lib.itoa i)) L .nilIface false i 0 noS (Flat 2 (IntKind.u64.wrap i) noS) (fun f => f = 0) w :=
 ⟨fun w' V hk hv => (unmarshal_17 (.iface 61 V) form i h1 h2 w').mono fun en w2 h => ⟨⟨_, _, _, _, _, _, h.1, rfl, rfl, rfl, rfl, rfl, rfl⟩, h.2⟩,
  fun w' t nn ss ba bn bc hk hr => by obtain ⟨rfl, rfl, rfl, rfl, rfl, rfl⟩ := hr; exact (plain_17 i _ (u64_back i (by omega) (by omega)).1 (u64_back i (by omega) (by omega)).2 w').mono fun en w2 h => ⟨⟨0, h.1, rfl⟩, h.2⟩, fun _ _ _ _ _ _ _ _ _ h => h⟩
theorem gm_15 (form : Int) (ev : Value) (i : Int) (h1 : -2147483648 ≤ i) (h2 : i ≤ 2147483647) (e : ByteArray) (w : World) (hT : Ten w) : GM 15 form (iv 15 false i 0 0 noS e) ev (fun _ y => y = pv 2 (IntKind.u64.wrap i) noS (.slice none 0 0)) (mk (Lib.itoa i)) w :=
 ⟨fun w' hk => (given_15 false i 0 0 noS e h1 h2 w').mono fun en w2 h => ⟨⟨_, h.1, rfl⟩, h.2⟩, fun w' y hk hy => by subst hy; exact marshal_15 ev form i _ (by omega) (by omega) (u64_back i (by omega) (by omega)).2 (u64_back i (by omega) (by omega)).1 w' (hT.keepsF hk), fun _ _ _ _ h => h⟩
theorem up_15 (form : Int) (L : List EV) (i : Int) (h1 : -2147483648 ≤ i) (h2 : i ≤ 2147483647) (w : World) : UP 15 form (mk (Lib.itoa i)) L .nilIface false i 0 noS (Flat 2 (IntKind.u64.wrap i) noS) (fun f => f = 0) w :=
 ⟨fun w' V hk hv => (unmarshal_15 (.iface 61 V) form i h1 h2 w').mono fun en w2 h => ⟨⟨_, _, _, _, _, _, h.1, rfl, rfl, rfl, rfl, rfl, rfl⟩, h.2⟩,
  fun w' t nn ss ba bn bc hk hr => by obtain ⟨rfl, rfl, rfl, rfl, rfl, rfl⟩ := hr; exact (plain_15 i _ (u64_back i (by omega) (by omega)).1 (u64_back i (by omega) (by omega)).2 w').mono fun en w2 h => ⟨⟨0, h.1, rfl⟩, h.2⟩, fun _ _ _ _ _ _ _ _ _ h => h⟩
theorem gm_3 (form : Int) (ev : Value) (i : Int) (h1 : -9223372036854775808 ≤ i) (h2 : i ≤ 9223372036854775807) (e : ByteArray) (w : World) (hT : Ten w) : GM 3 form (iv 3 false i 0 0 noS e) ev (fun _ y => y = pv 3 (IntKind.u64.wrap i) noS (.slice none 0 0)) (mk (Lib.itoa i)) w :=
 ⟨fun w' hk => (given_3 false i 0 0 noS e w').mono fun en w2 h => ⟨⟨_, h.1, rfl⟩, h.2⟩, fun w' y hk hy => by subst hy; exact marshal_3 ev form i _ h1 h2 (u64_back i h1 h2).2 (u64_back i h1 h2).1 w' (hT.keepsF hk), fun _ _ _ _ h => h⟩
theorem up_3 (form : Int) (L : List EV) (i : Int) (h1 : -9223372036854775808 ≤ i) (h2 : i ≤ 9223372036854775807) (w : World) : UP 3 form (mk (Lib.itoa i)) L .nilIface false i 0 noS (Flat 3 (IntKind.u64.wrap i) noS) (fun f => f = 0) w :=
 ⟨fun w' V hk hv => (unmarshal_3 (.iface 61 V) form i h1 h2 w').mono fun en w2 h => ⟨⟨_, _, _, _, _, _, h.1, rfl, rfl, rfl, rfl, rfl, rfl⟩, h.2⟩,
  fun w' t nn ss ba bn bc hk hr => by obtain ⟨rfl, rfl, rfl, rfl, rfl, rfl⟩ := hr; exact (plain_3 i _ (u64_back i h1 h2).1 (u64_back i h1 h2).2 w').mono fun en w2 h => ⟨⟨0, h.1, rfl⟩, h.2⟩, fun _ _ _ _ _ _ _ _ _ h => h⟩
theorem gm_18 (form : Int) (ev : Value) (i : Int) (h1 : -9223372036854775808 ≤ i) (h2 : i ≤ 9223372036854775807) (e : ByteArray) (w : World) (hT : Ten w) : GM 18 form (iv 18 false i 0 0 noS e) ev (fun _ y => y = pv 3 (IntKind.u64.wrap i) noS (.slice none 0 0)) (mk (Lib.itoa i)) w :=
 ⟨fun w' hk => (given_18 false i 0 0 noS e w').mono fun en w2 h => ⟨⟨_, h.1, rfl⟩, h.2⟩, fun w' y hk hy => by subst hy; exact marshal_18 ev form i _ h1 h2 (u64_back i h1 h2).2 (u64_back i h1 h2).1 w' (hT.keepsF hk), fun _ _ _ _ h => h⟩
theorem up_18 (form : Int) (L : List EV) (i : Int) (h1 : -9223372036854775808 ≤ i) (h2 : i ≤ 9223372036854775807) (w : World) : UP 18 form (mk (Lib.itoa i)) L .nilIface false i 0 noS (Flat 3 (IntKind.u64.wrap i) noS) (fun f => f = 0) w :=
 ⟨fun w' V hk hv => (unmarshal_18 (.iface 61 V) form i h1 h2 w').mono fun en w2 h => ⟨⟨_, _, _, _, _, _, h.1, rfl, rfl, rfl, rfl, rfl, rfl⟩, h.2⟩,
  fun w' t nn ss ba bn bc hk hr => by obtain ⟨rfl, rfl, rfl, rfl, rfl, rfl⟩ := hr; exact (plain_18 i _ (u64_back i h1 h2).1 (u64_back i h1 h2).2 w').mono fun en w2 h => ⟨⟨0, h.1, rfl⟩, h.2⟩, fun _ _ _ _ _ _ _ _ _ h => h⟩
theorem gm_16 (form : Int) (ev : Value) (i : Int) (h1 : -9223372036854775808 ≤ i) (h2 : i ≤ 9223372036854775807) (e : ByteArray) (w : World) (hT : Ten w) : GM 16 form (iv 16 false i 0 0 noS e) ev (fun _ y => y = pv 3 (IntKind.u64.wrap i) noS (.slice none 0 0)) (mk (Lib.itoa i)) w :=
 ⟨fun w' hk => (given_16 false i 0 0 noS e w').mono fun en w2 h => ⟨⟨_, h.1, rfl⟩, h.2⟩, fun w' y hk hy => by subst hy; exact marshal_16 ev form i _ h1 h2 (u64_back i h1 h2).2 (u64_back i h1 h2).1 w' (hT.keepsF hk), fun _ _ _ _ h => h⟩
theorem up_16 (form : Int) (L : List EV) (i : Int) (h1 : -9223372036854775808 ≤ i) (h2 : i ≤ 9223372036854775807) (w : World) : UP 16 form (mk (Lib.itoa i)) L .nilIface false i 0 noS (Flat 3 (IntKind.u64.wrap i) noS) (fun f => f = 0) w :=
 ⟨fun w' V hk hv => (unmarshal_16 (.iface 61 V) form i h1 h2 w').mono fun en w2 h => ⟨⟨_, _, _, _, _, _, h.1, rfl, rfl, rfl, rfl, rfl, rfl⟩, h.2⟩,
  fun w' t nn ss ba bn bc hk hr => by obtain ⟨rfl, rfl, rfl, rfl, rfl, rfl⟩ := hr; exact (plain_16 i _ (u64_back i h1 h2).1 (u64_back i h1 h2).2 w').mono fun en w2 h => ⟨⟨0, h.1, rfl⟩, h.2⟩, fun _ _ _ _ _ _ _ _ _ h => h⟩
theorem gm_13 (form : Int) (ev : Value) (u : Nat) (hu : u < 4294967296) (e : ByteArray) (w : World) (hT : Ten w) : GM 13 form (iv 13 false 0 (u : Int) 0 noS e) ev (fun _ y => y = pv 4 (u : Int) noS (.slice none 0 0)) (mk (Lib.decDigits u)) w :=
 ⟨fun w' hk => (given_13 false 0 (u : Int) 0 noS e (by omega) (by omega) w').mono fun en w2 h => ⟨⟨_, h.1, rfl⟩, h.2⟩, fun w' y hk hy => by subst hy; exact marshal_13 ev form u (by omega) w' (hT.keepsF hk), fun _ _ _ _ h => h⟩
theorem up_13 (form : Int) (L : List EV) (u : Nat) (hu : u < 4294967296) (w : World) : UP 13 form (mk (Lib.decDigits u)) L .nilIface false 0 (u : Int) noS (Flat 4 (u : Int) noS) (fun f => f = 0) w :=
 ⟨fun w' V hk hv => (unmarshal_13 (.iface 61 V) form u hu w').mono fun en w2 h => ⟨⟨_, _, _, _, _, _, h.1, rfl, rfl, rfl, rfl, rfl, rfl⟩, h.2⟩,
  fun w' t nn ss ba bn bc hk hr => by obtain ⟨rfl, rfl, rfl, rfl, rfl, rfl⟩ := hr; exact (plain_13 (u : Int) w').mono fun en w2 h => ⟨⟨0, h.1, rfl⟩, h.2⟩, fun _ _ _ _ _ _ _ _ _ h => h⟩
theorem gm_7 (form : Int) (ev : Value) (u : Nat) (hu : u < 4294967296) (e : ByteArray) (w : World) (hT : Ten w) : GM 7 form (iv 7 false 0 (u : Int) 0 noS e) ev (fun _ y => y = pv 4 (u : Int) noS (.slice none 0 0)) (mk (Lib.decDigits u)) w :=
 ⟨fun w' hk => (given_7 false 0 (u : Int) 0 noS e (by omega) (by omega) w').mono fun en w2 h => ⟨⟨_, h.1, rfl⟩, h.2⟩, fun w' y hk hy => by subst hy; exact marshal_7 ev form u (by omega) w' (hT.keepsF hk), fun _ _ _ _ h => h⟩
theorem up_7 (form : Int) (L : List EV) (u : Nat) (hu : u < 4294967296) (w : World) : UP 7 form (mk (Lib.decDigits u)) L .nilIface false 0 (u : Int) noS (Flat 4 (u : Int) noS) (fun f => f = 0) w :=
 ⟨fun w' V hk hv => (unmarshal_7 (.iface 61 V) form u hu w').mono fun en w2 h => ⟨⟨_, _, _, _, _, _, h.1, rfl, rfl, rfl, rfl, rfl, rfl⟩, h.2⟩,
  fun w' t nn ss ba bn bc hk hr => by obtain ⟨rfl, rfl, rfl, rfl, rfl, rfl⟩ := hr; exact (plain_7 (u : Int) w').mono fun en w2 h => ⟨⟨0, h.1, rfl⟩, h.2⟩, fun _ _ _ _ _ _ _ _ _ h => h⟩
theorem gm_4 (form : Int) (ev : Value) (u : Nat) (hu : u < 18446744073709551616) (e : ByteArray) (w : World) (hT : Ten w) : GM 4 form (iv 4 false 0 (u : Int) 0 noS e) ev (fun _ y => y = pv 5 (u : Int) noS (.slice none 0 0)) (mk (Lib.decDigits u)) w :=
 ⟨fun w' hk => (given_4 false 0 (u : Int) 0 noS e w').mono fun en w2 h => ⟨⟨_, h.1, rfl⟩, h.2⟩, fun w' y hk hy => by subst hy; exact marshal_4 ev form u (by omega) w' (hT.keepsF hk), fun _ _ _ _ h => h⟩
theorem up_4 (form : Int) (L : List EV) (u : Nat) (hu : u < 18446744073709551616) (w : World) : UP 4 form (mk (Lib.decDigits u)) L .nilIface false 0 (u : Int) noS (Flat 5 (u : Int) noS) (fun f => f = 0) w :=
 ⟨fun w' V hk hv => (unmarshal_4 (.iface 61 V) form u hu w').mono fun en w2 h => ⟨⟨_, _, _, _, _, _, h.1, rfl, rfl, rfl, rfl, rfl, rfl⟩, h.2⟩,
  fun w' t nn ss ba bn bc hk hr => by obtain ⟨rfl, rfl, rfl, rfl, rfl, rfl⟩ := hr; exact (plain_4 (u : Int) w').mono fun en w2 h => ⟨⟨0, h.1, rfl⟩, h.2⟩, fun _ _ _ _ _ _ _ _ _ h => h⟩
theorem gm_6 (form : Int) (ev : Value) (u : Nat) (hu : u < 18446744073709551616) (e : ByteArray) (w : World) (hT : Ten w) : GM 6 form (iv 6 false 0 (u : Int) 0 noS e) ev (fun _ y => y = pv 5 (u : Int) noS (.slice none 0 0)) (mk (Lib.decDigits u)) w :=
 ⟨fun w' hk => (given_6 false 0 (u : Int) 0 noS e w').mono fun en w2 h => ⟨⟨_, h.1, rfl⟩, h.2⟩, fun w' y hk hy => by subst hy; exact marshal_6 ev form u (by omega) w' (hT.keepsF hk), fun _ _ _ _ h => h⟩
theorem up_6 (form : Int) (L : List EV) (u : Nat) (hu : u < 18446744073709551616) (w : World) : UP 6 form (mk (Lib.decDigits u)) L .nilIface false 0 (u : Int) noS (Flat 5 (u : Int) noS) (fun f => f = 0) w :=
 ⟨fun w' V hk hv => (unmarshal_6 (.iface 61 V) form u hu w').mono fun en w2 h => ⟨⟨_, _, _, _, _, _, h.1, rfl, rfl, rfl, rfl, rfl, rfl⟩, h.2⟩,
  fun w' t nn ss ba bn bc hk hr => by obtain ⟨rfl, rfl, rfl, rfl, rfl, rfl⟩ := hr; exact (plain_6 (u : Int) w').mono fun en w2 h => ⟨⟨0, h.1, rfl⟩, h.2⟩, fun _ _ _ _ _ _ _ _ _ h => h⟩
theorem gm_8_1_true (ev : Value) (e : ByteArray) (w : World) (hT : Ten w) : GM 8 1 (iv 8 true 0 0 0 noS e) ev (fun _ y => y = pv 1 1 noS (.slice none 0 0)) ⟨#[116, 114, 117, 101]⟩ w :=
 ⟨fun w' hk => (given_8 true 0 0 0 noS e w').mono fun en w2 h => ⟨⟨_, h.1, rfl⟩, h.2⟩, fun w' y hk hy => by subst hy; exact marshal_8_1_true ev w', fun _ _ _ _ h => h⟩
theorem up_8_1_true (L : List EV) (w : World) : UP 8 1 ⟨#[116, 114, 117, 101]⟩ L .nilIface true 0 0 noS (Flat 1 1 noS) (fun f => f = 0) w :=
 ⟨fun w' V hk hv => (unmarshal_8_1_true (.iface 61 V) w').mono fun en w2 h => ⟨⟨_, _, _, _, _, _, h.1, rfl, rfl, rfl, rfl, rfl, rfl⟩, h.2⟩,
  fun w' t nn ss ba bn bc hk hr => by obtain ⟨rfl, rfl, rfl, rfl, rfl, rfl⟩ := hr; exact (plain_8_true w').mono fun en w2 h => ⟨⟨0, h.1, rfl⟩, h.2⟩, fun _ _ _ _ _ _ _ _ _ h => h⟩
theorem gm_8_1_false (ev : Value) (e : ByteArray) (w : World) (hT : Ten w) : GM 8 1 (iv 8 false 0 0 0 noS e) ev (fun _ y => y = pv 1 0 noS (.slice none 0 0)) ⟨#[102, 97, 108, 115, 101]⟩ w :=
 ⟨fun w' hk => (given_8 false 0 0 0 noS e w').mono fun en w2 h => ⟨⟨_, h.1, rfl⟩, h.2⟩, fun w' y hk hy => by subst hy; exact marshal_8_1_false ev w', fun _ _ _ _ h => h⟩
theorem up_8_1_false (L : List EV) (w : World) : UP 8 1 ⟨#[102, 97, 108, 115, 101]⟩ L .nilIface false 0 0 noS (Flat 1 0 noS) (fun f => f = 0) w :=
 ⟨fun w' V hk hv => (unmarshal_8_1_false (.iface 61 V) w').mono fun en w2 h => ⟨⟨_, _, _, _, _, _, h.1, rfl, rfl, rfl, rfl, rfl, rfl⟩, h.2⟩,
  fun w' t nn ss ba bn bc hk hr => by obtain ⟨rfl, rfl, rfl, rfl, rfl, rfl⟩ := hr; exact (plain_8_false w').mono fun en w2 h => ⟨⟨0, h.1, rfl⟩, h.2⟩, fun _ _ _ _ _ _ _ _ _ h => h⟩
theorem gm_8_2_true (ev : Value) (e : ByteArray) (w : World) (hT : Ten w) : GM 8 2 (iv 8 true 0 0 0 noS e) ev (fun _ y => y = pv 1 1 noS (.slice none 0 0)) ⟨#[49]⟩ w :=
 ⟨fun w' hk => (given_8 true 0 0 0 noS e w').mono fun en w2 h => ⟨⟨_, h.1, rfl⟩, h.2⟩, fun w' y hk hy => by subst hy; exact marshal_8_2_true ev w', fun _ _ _ _ h => h⟩
theorem up_8_2_true (L : List EV) (w : World) : UP 8 2 ⟨#[49]⟩ L .nilIface true 0 0 noS (Flat 1 1 noS) (fun f => f = 0) w :=
 ⟨fun w' V hk hv => (unmarshal_8_2_true (.iface 61 V) w').mono fun en w2 h => ⟨⟨_, _, _, _, _, _, h.1, rfl, rfl, rfl, rfl, rfl, rfl⟩, h.2⟩,
  fun w' t nn ss ba bn bc hk hr => by obtain ⟨rfl, rfl, rfl, rfl, rfl, rfl⟩ := hr; exact (plain_8_true w').mono fun en w2 h => ⟨⟨0, h.1, rfl⟩, h.2⟩, fun _ _ _ _ _ _ _ _ _ h => h⟩
theorem gm_8_2_false (ev : Value) (e : ByteArray) (w : World) (hT : Ten w) : GM 8 2 (iv 8 false 0 0 0 noS e) ev (fun _ y => y = pv 1 0 noS (.slice none 0 0)) ⟨#[48]⟩ w :=
 ⟨fun w' hk => (given_8 false 0 0 0 noS e w').mono fun en w2 h => ⟨⟨_, h.1, rfl⟩, h.2⟩, fun w' y hk hy => by subst hy; exact marshal_8_2_false ev w', fun _ _ _ _ h => h⟩
theorem up_8_2_false (L : List EV) (w : World) : UP 8 2 ⟨#[48]⟩ L .nilIface false 0 0 noS (Flat 1 0 noS) (fun f => f = 0) w :=
 ⟨fun w' V hk hv => (unmarshal_8_2_false (.iface 61 V) w').mono fun en w2 h => ⟨⟨_, _, _, _, _, _, h.1, rfl, rfl, rfl, rfl, rfl, rfl⟩, h.2⟩,
  fun w' t nn ss ba bn bc hk hr => by obtain ⟨rfl, rfl, rfl, rfl, rfl, rfl⟩ := hr; exact (plain_8_false w').mono fun en w2 h => ⟨⟨0, h.1, rfl⟩, h.2⟩, fun _ _ _ _ _ _ _ _ _ h => h⟩
theorem gm_9 (form : Int) (ev : Value) (s : ByteArray) (e : ByteArray) (w : World) (hT : Ten w) : GM 9 form (iv 9 false 0 0 0 s e) ev (fun _ y => y = pv 8 0 s (.slice none 0 0)) s w :=
 ⟨fun w' hk => (given_9 false 0 0 0 s e w').mono fun en w2 h => ⟨⟨_, h.1, rfl⟩, h.2⟩, fun w' y hk hy => by subst hy; exact marshal_9 ev form 0 s w', fun _ _ _ _ h => h⟩
theorem up_9 (form : Int) (L : List EV) (s : ByteArray) (w : World) : UP 9 form s L .nilIface false 0 0 s (Flat 8 0 s) (fun f => f = 0) w :=
 ⟨fun w' V hk hv => (unmarshal_9 (.iface 61 V) form s w').mono fun en w2 h => ⟨⟨_, _, _, _, _, _, h.1, rfl, rfl, rfl, rfl, rfl, rfl⟩, h.2⟩,
  fun w' t nn ss ba bn bc hk hr => by obtain ⟨rfl, rfl, rfl, rfl, rfl, rfl⟩ := hr; exact (plain_9 _ 0 w').mono fun en w2 h => ⟨⟨0, h.1, rfl⟩, h.2⟩, fun _ _ _ _ _ _ _ _ _ h => h⟩
theorem gm_14_2 (ev : Value) (i : Int) (h1 : -2147483648 ≤ i) (h2 : i ≤ 2147483647) (e : ByteArray) (w : World) (hT : Ten w) : GM 14 2 (iv 14 false i 0 0 noS e) ev (fun _ y => y = pv 10 (IntKind.u64.wrap i) noS (.slice none 0 0)) (mk (Lib.itoa i)) w :=
 ⟨fun w' hk => (given_14 false i 0 0 noS e h1 h2 w').mono fun en w2 h => ⟨⟨_, h.1, rfl⟩, h.2⟩, fun w' y hk hy => by subst hy; exact marshal_14_2 ev i _ (by omega) (by omega) (u64_back32 i h1 h2) w' (hT.keepsF hk), fun _ _ _ _ h => h⟩
theorem gm_14_1 (nm : ByteArray) (i : Int) (h1 : -2147483648 ≤ i) (h2 : i ≤ 2147483647) (e : ByteArray) (w : World) : GM 14 1 (iv 14 false i 0 0 noS e) (.iface 67 (.agg #[.string nm, .int .i32 i])) (fun _ y => y = pv 10 (IntKind.u64.wrap i) noS (.slice none 0 0)) nm w :=
 ⟨fun w' hk => (given_14 false i 0 0 noS e h1 h2 w').mono fun en w2 h => ⟨⟨_, h.1, rfl⟩, h.2⟩, fun w' y hk hy => by subst hy; exact marshal_14_1 ⟨nm, i⟩ _ w', fun _ _ _ _ h => h⟩
theorem up_14_2 (L : List EV) (hL : L.length ≤ 100000000) (nm : ByteArray) (i : Int) (h1 : -2147483648 ≤ i) (h2 : i ≤ 2147483647) (hx : evF (fun e => e.num == i) L = (.iface 67 (.agg #[.string nm, .int .i32 i]))) (w : World) : UP 14 2 (mk (Lib.itoa i)) L (.iface 67 (.agg #[.string nm, .int .i32 i])) false i 0 noS (Flat 10 (IntKind.u64.wrap i) noS) (fun f => f = 0) w :=
 ⟨fun w' V hk hv => (unmarshal_14_2 V L hL nm i h1 h2 w' hv hx).mono fun en w2 h => ⟨⟨_, _, _, _, _, _, h.1, rfl, rfl, rfl, rfl, rfl, rfl⟩, h.2⟩,
  fun w' t nn ss ba bn bc hk hr => by obtain ⟨rfl, rfl, rfl, rfl, rfl, rfl⟩ := hr; exact (plain_14 i _ (u64_back32 i h1 h2) (show wrap64 i = i by unfold wrap64; omega) w').mono fun en w2 h => ⟨⟨0, h.1, rfl⟩, h.2⟩, fun _ _ _ _ _ _ _ _ _ h => h⟩
theorem up_14_1 (L : List EV) (hL : L.length ≤ 100000000) (nm : ByteArray) (i : Int) (h1 : -2147483648 ≤ i) (h2 : i ≤ 2147483647) (hx : evF (fun e => e.name == nm) L = (.iface 67 (.agg #[.string nm, .int .i32 i]))) (w : World) : UP 14 1 nm L (.iface 67 (.agg #[.string nm, .int .i32 i])) false i 0 noS (Flat 10 (IntKind.u64.wrap i) noS) (fun f => f = 0) w :=
 ⟨fun w' V hk hv => (unmarshal_14_1 V L hL nm i w' hv hx).mono fun en w2 h => ⟨⟨_, _, _, _, _, _, h.1, rfl, rfl, rfl, rfl, rfl, rfl⟩, h.2⟩,
  fun w' t nn ss ba bn bc hk hr => by obtain ⟨rfl, rfl, rfl, rfl, rfl, rfl⟩ := hr; exact (plain_14 i _ (u64_back32 i h1 h2) (show wrap64 i = i by unfold wrap64; omega) w').mono fun en w2 h => ⟨⟨0, h.1, rfl⟩, h.2⟩, fun _ _ _ _ _ _ _ _ _ h => h⟩
theorem gm_12 (form : Int) (ev : Value) (l : List UInt8) (hl : l.length ≤ 100000) (e : ByteArray) (w : World) : GM 12 form (iv 12 false 0 0 0 (mk l) e) ev (fun w y => ∃ V, y = pv 9 0 noS V ∧ BytesAt w V l) (mk (encB l)) w :=
 ⟨fun w' hk => (given_12 false 0 0 0 l e hl w').mono fun en w2 h => ⟨by obtain ⟨V, h1, h2⟩ := h.1; exact ⟨_, h1, V, rfl, h2⟩, h.2⟩,
  fun w' y hk hy => by obtain ⟨V, rfl, hb⟩ := hy; exact marshal_12 ev V form 0 l hl w' hb,
  fun w' w2 y hk hy => by obtain ⟨V, h1, h2⟩ := hy; exact ⟨V, h1, h2.keeps hk (fun _ _ h => h)⟩⟩
theorem up_12 (form : Int) (L : List EV) (l : List UInt8) (hl : l.length ≤ 100000) (w : World) (hT : Tabs w) : UP 12 form (mk (encB l)) L .nilIface false 0 0 (mk l) (fun w t nn ss ba bn bc => t = 9 ∧ nn = 0 ∧ ss = noS ∧ BytesAt w (.slice ba bn bc) l) (fun f => f = 0) w :=
 ⟨fun w' V hk hv => (unmarshal_12 (.iface 61 V) form l hl w' (hT.keeps hk (fun _ _ h => h))).mono fun en w2 h => ⟨by
  obtain ⟨B, h1, h2⟩ := h.1
  obtain ⟨a, c, rfl, _⟩ := h2.form
  exact ⟨_, _, _, _, _, _, h1, rfl, rfl, rfl, h2⟩, h.2⟩,
  fun w' t nn ss ba bn bc hk hr => by obtain ⟨rfl, rfl, rfl, hb⟩ := hr; exact (plain_12 l _ w' hb).mono fun en w2 h => ⟨⟨0, h.1, rfl⟩, h.2⟩,
  fun w' w2 t nn ss ba bn bc hk hr => ⟨hr.1, hr.2.1, hr.2.2.1, hr.2.2.2.keeps hk (fun _ _ h => h)⟩⟩
theorem gm_1_infp (form : Int) (ev : Value) (e : ByteArray) (w : World) (hT : Ten w) : GM 1 form (iv 1 false 0 0 9218868437227405312 noS e) ev (fun _ y => y = pv 7 9218868437227405312 noS (.slice none 0 0)) ⟨#[105, 110, 102]⟩ w :=
 ⟨fun w' hk => (given_1 false 0 0 9218868437227405312 noS e w').mono fun en w2 h => ⟨⟨_, h.1, rfl⟩, h.2⟩, fun w' y hk hy => by subst hy; exact marshal_1_infp ev form 9218868437227405312 infp64.1 infp64.2.1 infp64.2.2 w', fun _ _ _ _ h => h⟩
theorem up_1_infp (form : Int) (L : List EV) (w : World) : UP 1 form ⟨#[105, 110, 102]⟩ L .nilIface false 0 0 noS (Flat 7 9218868437227405312 noS) (fun f => f = 9218868437227405312) w :=
 ⟨fun w' V hk hv => (unmarshal_1_infp (.iface 61 V) form w').mono fun en w2 h => ⟨⟨_, _, _, _, _, _, h.1, rfl, rfl, rfl, rfl, rfl, rfl⟩, h.2⟩,
  fun w' t nn ss ba bn bc hk hr => by obtain ⟨rfl, rfl, rfl, rfl, rfl, rfl⟩ := hr; exact (plain_1 9218868437227405312 w').mono fun en w2 h => ⟨⟨9218868437227405312, h.1, rfl⟩, h.2⟩, fun _ _ _ _ _ _ _ _ _ h => h⟩
theorem gm_2_infp (form : Int) (ev : Value) (e : ByteArray) (w : World) (hT : Ten w) : GM 2 form (iv 2 false 0 0 9218868437227405312 noS e) ev (fun _ y => y = pv 6 9218868437227405312 noS (.slice none 0 0)) ⟨#[105, 110, 102]⟩ w :=
 ⟨fun w' hk => (given_2 false 0 0 9218868437227405312 noS 2139095040 9218868437227405312 e conv64_32_infp conv32_64_infp w').mono fun en w2 h => ⟨⟨_, h.1, rfl⟩, h.2⟩, fun w' y hk hy => by subst hy; exact marshal_2_infp ev form 9218868437227405312 infp64.1 infp64.2.1 infp64.2.2 w', fun _ _ _ _ h => h⟩
theorem up_2_infp (form : Int) (L : List EV) (w : World) : UP 2 form ⟨#[105, 110, 102]⟩ L .nilIface false 0 0 noS (Flat 6 9218868437227405312 noS) (fun f => f = 9218868437227405312) w :=
 ⟨fun w' V hk hv => (unmarshal_2_infp (.iface 61 V) form w').mono fun en w2 h => ⟨⟨_, _, _, _, _, _, h.1, rfl, rfl, rfl, rfl, rfl, rfl⟩, h.2⟩,
  fun w' t nn ss ba bn bc hk hr => by obtain ⟨rfl, rfl, rfl, rfl, rfl, rfl⟩ := hr; exact (plain_2 9218868437227405312 w').mono fun en w2 h => ⟨⟨9218868437227405312, h.1, rfl⟩, h.2⟩, fun _ _ _ _ _ _ _ _ _ h => h⟩
theorem gm_1_infm (form : Int) (ev : Value) (e : ByteArray) (w : World) (hT : Ten w) : GM 1 form (iv 1 false 0 0 18442240474082181120 noS e) ev (fun _ y => y = pv 7 18442240474082181120 noS (.slice none 0 0)) ⟨#[45, 105, 110, 102]⟩ w :=
 ⟨fun w' hk => (given_1 false 0 0 18442240474082181120 noS e w').mono fun en w2 h => ⟨⟨_, h.1, rfl⟩, h.2⟩, fun w' y hk hy => by subst hy; exact marshal_1_infm ev form 18442240474082181120 infm64.1 infm64.2.1 infm64.2.2 w', fun _ _ _ _ h => h⟩
theorem up_1_infm (form : Int) (L : List EV) (w : World) : UP 1 form ⟨#[45, 105, 110, 102]⟩ L .nilIface false 0 0 noS (Flat 7 18442240474082181120 noS) (fun f => f = 18442240474082181120) w :=
 ⟨fun w' V hk hv => (unmarshal_1_infm (.iface 61 V) form w').mono fun en w2 h => ⟨⟨_, _, _, _, _, _, h.1, rfl, rfl, rfl, rfl, rfl, rfl⟩, h.2⟩,
  fun w' t nn ss ba bn bc hk hr => by obtain ⟨rfl, rfl, rfl, rfl, rfl, rfl⟩ := hr; exact (plain_1 18442240474082181120 w').mono fun en w2 h => ⟨⟨18442240474082181120, h.1, rfl⟩, h.2⟩, fun _ _ _ _ _ _ _ _ _ h => h⟩
theorem gm_2_infm (form : Int) (ev : Value) (e : ByteArray) (w : World) (hT : Ten w) : GM 2 form (iv 2 false 0 0 18442240474082181120 noS e) ev (fun _ y => y = pv 6 18442240474082181120 noS (.slice none 0 0)) ⟨#[45, 105, 110, 102]⟩ w :=
 ⟨fun w' hk => (given_2 false 0 0 18442240474082181120 noS 4286578688 18442240474082181120 e conv64_32_infm conv32_64_infm w').mono fun en w2 h => ⟨⟨_, h.1, rfl⟩, h.2⟩, fun w' y hk hy => by subst hy; exact marshal_2_infm ev form 18442240474082181120 infm64.1 infm64.2.1 infm64.2.2 w', fun _ _ _ _ h => h⟩
theorem up_2_infm (form : Int) (L : List EV) (w : World) : UP 2 form ⟨#[45, 105, 110, 102]⟩ L .nilIface false 0 0 noS (Flat 6 18442240474082181120 noS) (fun f => f = 18442240474082181120) w :=
 ⟨fun w' V hk hv => (unmarshal_2_infm (.iface 61 V) form w').mono fun en w2 h => ⟨⟨_, _, _, _, _, _, h.1, rfl, rfl, rfl, rfl, rfl, rfl⟩, h.2⟩,
  fun w' t nn ss ba bn bc hk hr => by obtain ⟨rfl, rfl, rfl, rfl, rfl, rfl⟩ := hr; exact (plain_2 18442240474082181120 w').mono fun en w2 h => ⟨⟨18442240474082181120, h.1, rfl⟩, h.2⟩, fun _ _ _ _ _ _ _ _ _ h => h⟩
theorem gm_1_nan (form : Int) (ev : Value) (f : Nat) (hn : IsNan64 f) (e : ByteArray) (w : World) (hT : Ten w) : GM 1 form (iv 1 false 0 0 (f : Int) noS e) ev (fun _ y => y = pv 7 (f : Int) noS (.slice none 0 0)) ⟨#[110, 97, 110]⟩ w :=
 ⟨fun w' hk => (given_1 false 0 0 f noS e w').mono fun en w2 h => ⟨⟨_, h.1, rfl⟩, h.2⟩, fun w' y hk hy => by subst hy; exact marshal_1_nan ev form f (nan64 f hn.2 hn.1).1 (nan64 f hn.2 hn.1).2.1 (nan64 f hn.2 hn.1).2.2 w', fun _ _ _ _ h => h⟩
theorem up_1_nan (form : Int) (L : List EV) (w : World) : UP 1 form ⟨#[110, 97, 110]⟩ L .nilIface false 0 0 noS (Flat 7 9221120237041090561 noS) (fun f => ∃ n : Nat, f = n ∧ IsNan64 n) w :=
 ⟨fun w' V hk hv => (unmarshal_1_nan (.iface 61 V) form w').mono fun en w2 h => ⟨⟨_, _, _, _, _, _, h.1, rfl, rfl, rfl, rfl, rfl, rfl⟩, h.2⟩,
  fun w' t nn ss ba bn bc hk hr => by obtain ⟨rfl, rfl, rfl, rfl, rfl, rfl⟩ := hr; exact (plain_1 9221120237041090561 w').mono fun en w2 h => ⟨⟨9221120237041090561, h.1, 9221120237041090561, rfl, ⟨by decide, by decide⟩⟩, h.2⟩, fun _ _ _ _ _ _ _ _ _ h => h⟩
theorem gm_2_nan (form : Int) (ev : Value) (f : Nat) (hn : IsNan64 f) (e : ByteArray) (w : World) : GM 2 form (iv 2 false 0 0 (f : Int) noS e) ev (fun _ y => ∃ g : Nat, IsNan64 g ∧ y = pv 6 (g : Int) noS (.slice none 0 0)) ⟨#[110, 97, 110]⟩ w :=
 ⟨fun w' hk => (given_2_nan false 0 0 f noS e hn w').mono fun en w2 h => ⟨by obtain ⟨g, h1, h2⟩ := h.1; exact ⟨_, h2, g, h1, rfl⟩, h.2⟩,
  fun w' y hk hy => by obtain ⟨g, hn, rfl⟩ := hy; exact marshal_2_nan ev form g (nan64 g hn.2 hn.1).1 (nan64 g hn.2 hn.1).2.1 (nan64 g hn.2 hn.1).2.2 w', fun _ _ _ _ h => h⟩
theorem up_2_nan (form : Int) (L : List EV) (w : World) : UP 2 form ⟨#[110, 97, 110]⟩ L .nilIface false 0 0 noS (fun _ t nn ss ba bn bc => ∃ g : Nat, IsNan64 g ∧ t = 6 ∧ nn = (g : Int) ∧ ss = noS ∧ ba = none ∧ bn = 0 ∧ bc = 0) (fun f => ∃ n : Nat, f = n ∧ IsNan64 n) w :=
 ⟨fun w' V hk hv => (unmarshal_2_nan (.iface 61 V) form w').mono fun en w2 h => ⟨by obtain ⟨g, h1, h2⟩ := h.1; exact ⟨_, _, _, _, _, _, h2, g, h1, rfl, rfl, rfl, rfl, rfl, rfl⟩, h.2⟩,
  fun w' t nn ss ba bn bc hk hr => by obtain ⟨g, hg, rfl, rfl, rfl, rfl, rfl, rfl⟩ := hr; exact (plain_2 g w').mono fun en w2 h => ⟨⟨(g : Int), h.1, g, rfl, hg⟩, h.2⟩, fun _ _ _ _ _ _ _ _ _ h => h⟩
theorem numText_ne {neg : Bool} {T : List UInt8} {n : Nat} {q : Int} (h : Fl.NumText neg T n q) : ((mk T).toList == [45, 105, 110, 102]) = false ∧ ((mk T).toList == [105, 110, 102]) = false ∧ ((mk T).toList == [110, 97, 110]) = false := by
 obtain ⟨I, F, X, e, rfl, hI0, hI, _⟩ := h.parts
 obtain ⟨c, I', rfl⟩ := List.exists_cons_of_ne_nil hI0
 have hc := hI c (List.mem_cons_self ..)
 have n1 : c ≠ 105 := by rintro rfl; exact absurd hc.2 (by decide)
 have n2 : c ≠ 110 := by rintro rfl; exact absurd hc.2 (by decide)
 have n3 : c ≠ 45 := by rintro rfl; exact absurd hc.1 (by decide)
 rw [mk_toList]
 cases neg <;> simp [n1, n2, n3]
theorem num_1 (PT : Nat → Nat × Nat) (hok : PTOk PT) (f : Nat) (hf : f < 18446744073709551616) (hfin : f % 9223372036854775808 < 9218868437227405312) :
 ∃ T : List UInt8, (∀ (form : Int) (ev : Value) (e : ByteArray) (w : World), FT2 PT w → GM 1 form (iv 1 false 0 0 (f : Int) noS e) ev (fun _ y => y = pv 7 (f : Int) noS (.slice none 0 0)) (mk T) w) ∧
  ∀ (form : Int) (L : List EV) (b off : Nat) (w : World), TA64 PT b off w → UP 1 form (mk T) L .nilIface false 0 0 noS (Flat 7 (f : Int) noS) (fun g => g = (f : Int)) w := by
 obtain ⟨T, hT, ⟨n, q, hn, hq, -⟩, hF⟩ := formatFloat64_ex PT hok f hf hfin
 have hc := num64 (decide (9223372036854775808 ≤ f)) (f % 9223372036854775808) hfin
 rw [← split64 f hf] at hc
 have hne := numText_ne hn
 refine ⟨T, fun form ev e w hw => ⟨fun w' hk => (given_1 false 0 0 f noS e w').mono fun en w2 h => ⟨⟨_, h.1, rfl⟩, h.2⟩, fun w' y hk hy => by subst hy; exact marshal_1_num ev form f T hc.1 hc.2.1 hc.2.2 w' (fun w2 hk2 => hF w2 (hw.keeps (hk.trans hk2 (fun _ _ h => h)))), fun _ _ _ _ h => h⟩, fun form L b off w hw => ⟨fun w' V hk hv => (unmarshal_1_num (.iface 61 V) form (mk T) f hne.1 hne.2.1 hne.2.2 w' (fun w2 hk2 => ?_)).mono fun en w2 h => ⟨⟨_, _, _, _, _, _, h.1, rfl, rfl, rfl, rfl, rfl, rfl⟩, h.2⟩,
  fun w' t nn ss ba bn bc hk hr => by obtain ⟨rfl, rfl, rfl, rfl, rfl, rfl⟩ := hr; exact (plain_1 f w').mono fun en w2 h => ⟨⟨_, h.1, rfl⟩, h.2⟩, fun _ _ _ _ _ _ _ _ _ h => h⟩⟩
 have hp := parseFloat_near PT hok (decide (9223372036854775808 ≤ f)) T n q hn hT (f % 9223372036854775808) hfin hq b off w2 (hw.keeps (hk.trans hk2 (fun _ _ h => h)))
 rw [← split64 f hf] at hp
 exact hp
end Go.Proofs.YtonegoemmologaaGreatDoor
namespace Go.Proofs.YtonegoemmologaaGreatDoor
open Go.RowKit
theorem single_word (neg : Bool) (k : Nat) : Ieee.single.word neg k = sgn32 neg + k := by cases neg <;> simp [Ieee.Format.word, sgn32, Ieee.Format.signWeight, Ieee.single]
theorem inf32r : Ieee.single.infRung = 2139095040 := by decide
set_option exponentiation.threshold 3000 in
theorem conv_up (neg : Bool) (k : Nat) (hk : k < 2139095040) : ∃ k64, k64 < 9218868437227405312 ∧ Fl.fin 52 k64 = Fl.fin 23 k * 2 ^ 925 ∧
 ∀ w, (convert 85 83 (.float .f32 (sgn32 neg + k))).run Tryz.prog w = .ok (.float .f64 (sgn64 neg + k64)) w := by
 obtain ⟨m, pl, hr, hp, hv⟩ := Fl.read_word Ieee.single neg k 23 149 rfl rfl (by rw [inf32r]; exact hk)
 rw [single_word] at hr
 obtain ⟨q1, q2, q3⟩ := flt_read32_range hr
 have hr' : FloatKind.f32.decode (sgn32 neg + k) = .number neg m pl := hr
 have key : ∃ k64, k64 < 9218868437227405312 ∧ Fl.fin 52 k64 = Fl.fin 23 k * 2 ^ 925 ∧ Ieee.double.nearest neg m pl = Ieee.double.word neg k64 := by
  by_cases hm : m = 0
  · subst hm
    refine ⟨0, by decide, ?_, by unfold Ieee.Format.nearest; rw [if_pos rfl]⟩
    rw [← hv, Nat.zero_mul, Nat.zero_mul]; rfl
  · obtain ⟨top, htop⟩ : ∃ top : Nat, pl + 1074 = top := ⟨(pl + 1074).toNat, by omega⟩
    have e1 : (pl + (1074 : Nat)).toNat = top := by omega
    have e2 : (-(pl + (1074 : Nat))).toNat = 0 := by omega
    have e3 : top = (pl + (149 : Nat)).toNat + 925 := by omega
    obtain ⟨k', hn, hw⟩ := Fl.nearest_near Ieee.double neg m pl 52 1074 m 1 rfl (by decide) rfl (by omega) (by decide) (Or.inl (by omega))
    rw [e1, e2, Nat.pow_zero, Nat.mul_one] at hn
    obtain ⟨k2, h1, h2⟩ := Fl.whole_rung 52 top m (by omega) (Nat.lt_of_lt_of_le q1 (by decide)) (by omega)
    have hk2 : k2 < 9218868437227405312 := by
     refine Nat.lt_of_lt_of_le h2 ?_
     have : (top + 2) * 2 ^ 52 ≤ 1180 * 2 ^ 52 := Nat.mul_le_mul_right _ (by omega)
     exact Nat.le_trans this (by decide)
    have e : k' = k2 := by
     refine Fl.Near.uniq (mb := 52) (n := m * 2 ^ top) (d := 1) (by decide) hn ?_
     have := Fl.Near.of_fin 52 k2 1 (by decide)
     rwa [h1, Nat.mul_one] at this
    subst e
    refine ⟨k', hk2, ?_, by rw [hw, inf64, Nat.min_eq_left (Nat.le_of_lt hk2)]⟩
    rw [h1, e3, Nat.pow_add, ← Nat.mul_assoc, hv]
 obtain ⟨k64, h1, h2, h3⟩ := key
 refine ⟨k64, h1, h2, fun w => ?_⟩
 rw [word64] at h3
 have h4 : FloatKind.f64.encode (.number neg m pl) = sgn64 neg + k64 := h3
 obtain ⟨m2, p2, hr2, -, -⟩ := Fl.read_word Ieee.double neg k64 52 1074 rfl rfl (by rw [inf64]; exact h1)
 rw [word64] at hr2
 have h5 : (FloatKind.f64.decode (sgn64 neg + k64)).isInfinity = false := by
  show (Ieee.double.read _).isInfinity = false
  rw [hr2]; rfl
 exact conv_run w _ _ _ .f32 .f64 _ (by kernel_rfl) (by kernel_rfl) w (by simp [Conv.floatToFloat, hr', h4, h5])
set_option exponentiation.threshold 3000 in
theorem conv_down (neg : Bool) (k64 k' : Nat) (hk : k64 < 9218868437227405312) (hn : Fl.Near 23 k' (Fl.fin 52 k64) (2 ^ 925)) (hk' : k' < 2139095040) (w : World) :
 (convert 83 85 (.float .f64 (sgn64 neg + k64))).run Tryz.prog w = .ok (.float .f32 (sgn32 neg + k')) w := by
 obtain ⟨m, pl, hr, hp, hv⟩ := Fl.read_word Ieee.double neg k64 52 1074 rfl rfl (by rw [inf64]; exact hk)
 rw [word64] at hr
 have hr' : FloatKind.f64.decode (sgn64 neg + k64) = .number neg m pl := hr
 have h3 : Ieee.single.nearest neg m pl = Ieee.single.word neg k' := by
  by_cases hm : m = 0
  · subst hm
    rw [Nat.zero_mul] at hv
    rw [← hv] at hn
    have : k' ≤ 0 := hn.le (Nat.two_pow_pos _) (Nat.zero_le _)
    have e : k' = 0 := by omega
    subst e
    unfold Ieee.Format.nearest; rw [if_pos rfl]
  · obtain ⟨k2, hn2, hw⟩ := Fl.nearest_near Ieee.single neg m pl 23 149 m 1 rfl (by decide) rfl (by omega) (by decide) (Or.inl (by omega))
    have hx : (pl + (149 : Nat)).toNat + 925 = (pl + (1074 : Nat)).toNat + (-(pl + (149 : Nat))).toNat := by omega
    have hn3 : Fl.Near 23 k2 (Fl.fin 52 k64) (2 ^ 925) := by
     refine Fl.Near.scale (by rw [Nat.one_mul]; exact Nat.two_pow_pos _) (Nat.two_pow_pos _) ?_ hn2
     rw [← hv, Nat.one_mul, Nat.mul_assoc, Nat.mul_assoc, ← Nat.pow_add, ← Nat.pow_add, hx]
    have e : k2 = k' := hn3.uniq (Nat.two_pow_pos _) hn
    rw [hw, e, inf32r, Nat.min_eq_left (Nat.le_of_lt hk')]
 rw [single_word] at h3
 have h4 : FloatKind.f32.encode (.number neg m pl) = sgn32 neg + k' := h3
 obtain ⟨m2, p2, hr2, -, -⟩ := Fl.read_word Ieee.single neg k' 23 149 rfl rfl (by rw [inf32r]; exact hk')
 rw [single_word] at hr2
 have h5 : (FloatKind.f32.decode (sgn32 neg + k')).isInfinity = false := by
  show (Ieee.single.read _).isInfinity = false
  rw [hr2]; rfl
 exact conv_run w _ _ _ .f64 .f32 _ (by kernel_rfl) (by kernel_rfl) w (by simp [Conv.floatToFloat, hr', h4, h5])
end Go.Proofs.YtonegoemmologaaGreatDoor
