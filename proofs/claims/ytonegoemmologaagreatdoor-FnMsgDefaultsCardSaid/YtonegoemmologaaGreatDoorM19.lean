/-
  fmtEFG in the form ddd.ddd.
-/
import Derived.Test.YtonegoemmologaaGreatDoorM18
import Derived.Test.YtonegoemmologaaGreatDoorM02
import Derived.Deep.DeepCutAuto
set_option linter.unusedVariables false
set_option linter.unusedSimpArgs false
namespace Go.Proofs.YtonegoemmologaaGreatDoor
open Go.RowKit
def ds (f : Nat → UInt8) (a k : Nat) : List UInt8 := (List.range k).map fun j => f (a + j)
theorem ds_zero (f : Nat → UInt8) (a : Nat) : ds f a 0 = [] := rfl
theorem ds_succ (f : Nat → UInt8) (a k : Nat) : ds f a (k + 1) = ds f a k ++ [f (a + k)] := by
 unfold ds
 rw [List.range_succ, List.map_append]
 rfl
theorem ds_length (f : Nat → UInt8) (a k : Nat) : (ds f a k).length = k := by simp [ds]
set_option maxRecDepth 1000000 in
set_option maxHeartbeats 40000000 in
theorem fmtF_A_false (nd q z : Nat) (f : Nat → UInt8) (hnd : nd ≤ 20) (hq : 0 < q) (hq6 : q ≤ 6) (hz0 : nd + z = q) :
 ∀ (w : World) (v : Value) (l : List UInt8) (B : Nat), Own w v l → ¬ v.ownBlock = some B → Digs w B nd f → l.length ≤ 140737488350000 →
  Calls Tryz.prog 111 #[v, .bool false, .slice (some ⟨B, 0, none⟩) 32 32, .int .i64 (q : Int), .int .i64 (nd : Int), .int .i64 (nd : Int), .int .u8 103, .bool true] w (OutRes w v (l ++ ([] ++ (ds f 0 nd ++ List.replicate z 48)))) := by
 intro w v l B hown hvb hc hb
 have a1 : ¬ (q : Int) - 1 < -4 := by omega
 have a2 : ¬ 6 ≤ (q : Int) - 1 := by omega
 have a3 : ¬ (q : Int) < (nd : Int) := by omega
 have a4 : max ((nd : Int) - (q : Int)) 0 = 0 := by omega
 have a5 : min (nd : Int) (q : Int) = (nd : Int) := by omega
 have a6 : (q : Int) - (nd : Int) = (z : Int) := by omega
 have a7 : (0 : Int) < (q : Int) := by omega
 have a8 : (nd : Int) ≤ 32 := by omega
 have a9 : (0 : Int) ≤ (nd : Int) := by omega
 have H0 := Lib.hid (Out.start hown)
 have HCC : Hid (∀ wr j, j < nd → Keeps (blk v) w wr → wr.cell? ⟨B, j, none⟩ = some (.int .u8 ((f j).toNat : Int))) := fun wr j hj hk => hk.cell (hc j hj) hvb
 clear hc hvb
 have S1 := run_sto (some ⟨B, 0, none⟩) 32 32 nd (by omega)
 go_enter Tryz.func111, Tryz.ntmps111
 go_wp2_with (fail)
 go_loopw [0, 191] (fun d i wr => ∃ (k : Nat), i = .int .i64 (k : Int) ∧ k ≤ nd ∧ Out w v wr d (l ++ ds f 0 k)) (fun _ i _ => nd - natOfV i)
 case atStart => exact ⟨0, rfl, Nat.zero_le _, by simp only [ds_zero, List.replicate_zero, List.append_nil]; exact H0.out⟩
 case round =>
  obtain ⟨k1, rfl, hk1, ho⟩ := hrel
  have HO1 := Lib.hid ho
  clear ho
  have t0 : (0 : Int) ≤ (k1 : Int) := by omega
  by_cases hlt : k1 < nd
  · have t1 : (k1 : Int) < (nd : Nat) := by omega
    have hwk : IntKind.i64.wrap ((k1 : Int) + 1) = ((k1 + 1 : Nat) : Int) := by rw [IntWalk.i64_in _ (by omega)]; rfl
    have hcc := HCC.out wr k1 (by omega) HO1.out.keeps
    go_wp2_with (at_builtin; refine at_out_lit HO1.out (.tmp 195) (.tmp 197) [f k1] (by simp [ds_length] at hb ⊢; omega) rfl rfl rfl rfl ?_; intro v9 w9 o9; have G9 := Lib.hid o9; clear o9)
    go_roundw
    case rel => exact ⟨k1 + 1, rfl, by omega, by simp only [ds_succ, List.replicate_succ', Nat.zero_add]; rw [← List.append_assoc]; exact G9.out⟩
    case measure => simp [natOfV]; omega
  · have t1 : ¬ (k1 : Int) < (nd : Nat) := by omega
    obtain rfl : nd = k1 := by omega
    go_wp2_with (fail)
    go_loopw [0, 203] (fun d i wr => ∃ (k : Nat), i = .int .i64 (k : Int) ∧ k ≤ z ∧ Out w v wr d (l ++ ds f 0 nd ++ List.replicate k 48)) (fun _ i _ => z - natOfV i)
    case atStart => exact ⟨0, rfl, Nat.zero_le _, by simp only [ds_zero, List.replicate_zero, List.append_nil]; exact HO1.out⟩
    case round =>
     obtain ⟨k2, rfl, hk2, ho⟩ := hrel
     have HO2 := Lib.hid ho
     clear ho
     have t0 : (0 : Int) ≤ (k2 : Int) := by omega
     by_cases hlt : k2 < z
     · have t1 : (k2 : Int) < (z : Nat) := by omega
       have hwk : IntKind.i64.wrap ((k2 : Int) + 1) = ((k2 + 1 : Nat) : Int) := by rw [IntWalk.i64_in _ (by omega)]; rfl
       skip
       go_wp2_with (at_builtin; refine at_out_lit HO2.out (.tmp 205) (.tmp 206) [48] (by simp [ds_length] at hb ⊢; omega) rfl rfl rfl rfl ?_; intro v9 w9 o9; have G9 := Lib.hid o9; clear o9)
       go_roundw
       case rel => exact ⟨k2 + 1, rfl, by omega, by simp only [ds_succ, List.replicate_succ', Nat.zero_add]; rw [← List.append_assoc]; exact G9.out⟩
       case measure => simp [natOfV]; omega
     · have t1 : ¬ (k2 : Int) < (z : Nat) := by omega
       obtain rfl : z = k2 := by omega
       go_wp2_with (fail)
       go_ret
       refine ⟨_, rfl, ?_⟩
       have h := HO2.out
       simp only [List.append_assoc] at h ⊢
       exact h
set_option maxRecDepth 1000000 in
set_option maxHeartbeats 40000000 in
theorem fmtF_A_true (nd q z : Nat) (f : Nat → UInt8) (hnd : nd ≤ 20) (hq : 0 < q) (hq6 : q ≤ 6) (hz0 : nd + z = q) :
 ∀ (w : World) (v : Value) (l : List UInt8) (B : Nat), Own w v l → ¬ v.ownBlock = some B → Digs w B nd f → l.length ≤ 140737488350000 →
  Calls Tryz.prog 111 #[v, .bool true, .slice (some ⟨B, 0, none⟩) 32 32, .int .i64 (q : Int), .int .i64 (nd : Int), .int .i64 (nd : Int), .int .u8 103, .bool true] w (OutRes w v (l ++ ([45] ++ (ds f 0 nd ++ List.replicate z 48)))) := by
 intro w v l B hown hvb hc hb
 have a1 : ¬ (q : Int) - 1 < -4 := by omega
 have a2 : ¬ 6 ≤ (q : Int) - 1 := by omega
 have a3 : ¬ (q : Int) < (nd : Int) := by omega
 have a4 : max ((nd : Int) - (q : Int)) 0 = 0 := by omega
 have a5 : min (nd : Int) (q : Int) = (nd : Int) := by omega
 have a6 : (q : Int) - (nd : Int) = (z : Int) := by omega
 have a7 : (0 : Int) < (q : Int) := by omega
 have a8 : (nd : Int) ≤ 32 := by omega
 have a9 : (0 : Int) ≤ (nd : Int) := by omega
 have H0 := Lib.hid (Out.start hown)
 have HCC : Hid (∀ wr j, j < nd → Keeps (blk v) w wr → wr.cell? ⟨B, j, none⟩ = some (.int .u8 ((f j).toNat : Int))) := fun wr j hj hk => hk.cell (hc j hj) hvb
 clear hc hvb
 have S1 := run_sto (some ⟨B, 0, none⟩) 32 32 nd (by omega)
 go_enter Tryz.func111, Tryz.ntmps111
 go_wp2_with (first | (at_builtin; have _h := H0; refine at_out_lit H0.out (.tmp 179) (.tmp 180) [45] (by simp [ds_length] at hb ⊢; omega) rfl rfl rfl rfl ?_; intro v1 w1 o1; have G1 := Lib.hid o1; clear o1))
 go_loopw [0, 191] (fun d i wr => ∃ (k : Nat), i = .int .i64 (k : Int) ∧ k ≤ nd ∧ Out w v wr d ((l ++ [45]) ++ ds f 0 k)) (fun _ i _ => nd - natOfV i)
 case atStart => exact ⟨0, rfl, Nat.zero_le _, by simp only [ds_zero, List.replicate_zero, List.append_nil]; exact G1.out⟩
 case round =>
  obtain ⟨k1, rfl, hk1, ho⟩ := hrel
  have HO1 := Lib.hid ho
  clear ho
  have t0 : (0 : Int) ≤ (k1 : Int) := by omega
  by_cases hlt : k1 < nd
  · have t1 : (k1 : Int) < (nd : Nat) := by omega
    have hwk : IntKind.i64.wrap ((k1 : Int) + 1) = ((k1 + 1 : Nat) : Int) := by rw [IntWalk.i64_in _ (by omega)]; rfl
    have hcc := HCC.out wr k1 (by omega) HO1.out.keeps
    go_wp2_with (at_builtin; refine at_out_lit HO1.out (.tmp 195) (.tmp 197) [f k1] (by simp [ds_length] at hb ⊢; omega) rfl rfl rfl rfl ?_; intro v9 w9 o9; have G9 := Lib.hid o9; clear o9)
    go_roundw
    case rel => exact ⟨k1 + 1, rfl, by omega, by simp only [ds_succ, List.replicate_succ', Nat.zero_add]; rw [← List.append_assoc]; exact G9.out⟩
    case measure => simp [natOfV]; omega
  · have t1 : ¬ (k1 : Int) < (nd : Nat) := by omega
    obtain rfl : nd = k1 := by omega
    go_wp2_with (fail)
    go_loopw [0, 203] (fun d i wr => ∃ (k : Nat), i = .int .i64 (k : Int) ∧ k ≤ z ∧ Out w v wr d ((l ++ [45]) ++ ds f 0 nd ++ List.replicate k 48)) (fun _ i _ => z - natOfV i)
    case atStart => exact ⟨0, rfl, Nat.zero_le _, by simp only [ds_zero, List.replicate_zero, List.append_nil]; exact HO1.out⟩
    case round =>
     obtain ⟨k2, rfl, hk2, ho⟩ := hrel
     have HO2 := Lib.hid ho
     clear ho
     have t0 : (0 : Int) ≤ (k2 : Int) := by omega
     by_cases hlt : k2 < z
     · have t1 : (k2 : Int) < (z : Nat) := by omega
       have hwk : IntKind.i64.wrap ((k2 : Int) + 1) = ((k2 + 1 : Nat) : Int) := by rw [IntWalk.i64_in _ (by omega)]; rfl
       skip
       go_wp2_with (at_builtin; refine at_out_lit HO2.out (.tmp 205) (.tmp 206) [48] (by simp [ds_length] at hb ⊢; omega) rfl rfl rfl rfl ?_; intro v9 w9 o9; have G9 := Lib.hid o9; clear o9)
       go_roundw
       case rel => exact ⟨k2 + 1, rfl, by omega, by simp only [ds_succ, List.replicate_succ', Nat.zero_add]; rw [← List.append_assoc]; exact G9.out⟩
       case measure => simp [natOfV]; omega
     · have t1 : ¬ (k2 : Int) < (z : Nat) := by omega
       obtain rfl : z = k2 := by omega
       go_wp2_with (fail)
       go_ret
       refine ⟨_, rfl, ?_⟩
       have h := HO2.out
       simp only [List.append_assoc] at h ⊢
       exact h
set_option maxRecDepth 1000000 in
set_option maxHeartbeats 40000000 in
theorem fmtF_B_false (nd q r : Nat) (f : Nat → UInt8) (hnd : nd ≤ 20) (hq : 0 < q) (hq6 : q ≤ 6) (hz0 : nd = q + r) (hr : 0 < r) :
 ∀ (w : World) (v : Value) (l : List UInt8) (B : Nat), Own w v l → ¬ v.ownBlock = some B → Digs w B nd f → l.length ≤ 140737488350000 →
  Calls Tryz.prog 111 #[v, .bool false, .slice (some ⟨B, 0, none⟩) 32 32, .int .i64 (q : Int), .int .i64 (nd : Int), .int .i64 (nd : Int), .int .u8 103, .bool true] w (OutRes w v (l ++ ([] ++ (ds f 0 q ++ ([46] ++ ds f q r))))) := by
 intro w v l B hown hvb hc hb
 have a1 : ¬ (q : Int) - 1 < -4 := by omega
 have a2 : ¬ 6 ≤ (q : Int) - 1 := by omega
 have a3 : (q : Int) < (nd : Int) := by omega
 have a4 : (nd : Int) - (q : Int) = (r : Int) := by omega
 have a5 : min (nd : Int) (q : Int) = (q : Int) := by omega
 have a6 : max (r : Int) 0 = (r : Int) := by omega
 have a7 : (0 : Int) < (q : Int) := by omega
 have a8 : (q : Int) ≤ 32 := by omega
 have a9 : (0 : Int) ≤ (q : Int) := by omega
 have b1 : (0 : Int) < (r : Int) := by omega
 have b2 : max 0 (-(q : Int)) = 0 := by omega
 have b3 : min (r : Int) 0 = 0 := by omega
 have b4 : max 0 (r : Int) = (r : Int) := by omega
 have hz1 : q + r ≤ nd := by omega
 have hz2 : nd ≤ q + r := by omega
 clear hz0
 have H0 := Lib.hid (Out.start hown)
 have HCC : Hid (∀ wr j, j < nd → Keeps (blk v) w wr → wr.cell? ⟨B, j, none⟩ = some (.int .u8 ((f j).toNat : Int))) := fun wr j hj hk => hk.cell (hc j hj) hvb
 clear hc hvb
 have S1 := run_sto (some ⟨B, 0, none⟩) 32 32 q (by omega)
 go_enter Tryz.func111, Tryz.ntmps111
 go_wp2_with (fail)
 go_loopw [0, 191] (fun d i wr => ∃ (k : Nat), i = .int .i64 (k : Int) ∧ k ≤ q ∧ Out w v wr d (l ++ ds f 0 k)) (fun _ i _ => q - natOfV i)
 case atStart => exact ⟨0, rfl, Nat.zero_le _, by simp only [ds_zero, List.replicate_zero, List.append_nil]; exact H0.out⟩
 case round =>
  obtain ⟨k1, rfl, hk1, ho⟩ := hrel
  have HO1 := Lib.hid ho
  clear ho
  have t0 : (0 : Int) ≤ (k1 : Int) := by omega
  by_cases hlt : k1 < q
  · have t1 : (k1 : Int) < (q : Nat) := by omega
    have hwk : IntKind.i64.wrap ((k1 : Int) + 1) = ((k1 + 1 : Nat) : Int) := by rw [IntWalk.i64_in _ (by omega)]; rfl
    have hcc := HCC.out wr k1 (by omega) HO1.out.keeps
    go_wp2_with (at_builtin; refine at_out_lit HO1.out (.tmp 195) (.tmp 197) [f k1] (by simp [ds_length] at hb ⊢; omega) rfl rfl rfl rfl ?_; intro v9 w9 o9; have G9 := Lib.hid o9; clear o9)
    go_roundw
    case rel => exact ⟨k1 + 1, rfl, by omega, by simp only [ds_succ, List.replicate_succ', Nat.zero_add]; rw [← List.append_assoc]; exact G9.out⟩
    case measure => simp [natOfV]; omega
  · have t1 : ¬ (k1 : Int) < (q : Nat) := by omega
    obtain rfl : q = k1 := by omega
    go_wp2_with (fail)
    go_loopw [0, 203] (fun d i wr => i = .int .i64 0 ∧ Out w v wr d (l ++ ds f 0 q)) (fun _ _ _ => 0)
    case atStart => exact ⟨rfl, HO1.out⟩
    case round =>
     obtain ⟨rfl, ho⟩ := hrel
     have HO2 := Lib.hid ho
     clear ho
     go_wp2_with (at_builtin; have _h := HO2; refine at_out_lit HO2.out (.tmp 214) (.tmp 215) [46] (by simp [ds_length] at hb ⊢; omega) rfl rfl rfl rfl ?_; intro v3 w3 o3; have G3 := Lib.hid o3; clear o3)
     go_loopw [0, 240] (fun d i wr => i = .int .i64 0 ∧ Out w v wr d (((l ++ ds f 0 q) ++ [46]))) (fun _ _ _ => 0)
     case atStart => exact ⟨rfl, G3.out⟩
     case round =>
      obtain ⟨rfl, ho⟩ := hrel
      have HO3 := Lib.hid ho
      clear ho
      go_wp2_with (fail)
      go_loopw [0, 247] (fun d i wr => ∃ (k : Nat), i = .int .i64 (k : Int) ∧ k ≤ r ∧ Out w v wr d (((l ++ ds f 0 q) ++ [46]) ++ ds f q k)) (fun _ i _ => r - natOfV i)
      case atStart => exact ⟨0, rfl, Nat.zero_le _, by simp only [ds_zero, List.replicate_zero, List.append_nil]; exact HO3.out⟩
      case round =>
       obtain ⟨k4, rfl, hk4, ho⟩ := hrel
       have HO4 := Lib.hid ho
       clear ho
       have t0 : (0 : Int) ≤ (k4 : Int) := by omega
       by_cases hlt : k4 < r
       · have t1 : (k4 : Int) < (r : Nat) := by omega
         have hwk : IntKind.i64.wrap ((k4 : Int) + 1) = ((k4 + 1 : Nat) : Int) := by rw [IntWalk.i64_in _ (by omega)]; rfl
         have hcc := HCC.out wr (q + k4) (by omega) HO4.out.keeps
         go_wp2_with (at_builtin; refine at_out_lit HO4.out (.tmp 250) (.tmp 257) [f (q + k4)] (by simp [ds_length] at hb ⊢; omega) rfl rfl rfl rfl ?_; intro v9 w9 o9; have G9 := Lib.hid o9; clear o9)
         go_roundw
         case rel => exact ⟨k4 + 1, rfl, by omega, by simp only [ds_succ, List.replicate_succ', Nat.zero_add]; rw [← List.append_assoc]; exact G9.out⟩
         case measure => simp [natOfV]; omega
       · have t1 : ¬ (k4 : Int) < (r : Nat) := by omega
         obtain rfl : r = k4 := by omega
         go_wp2_with (fail)
         go_loopw [0, 261] (fun d i wr => i = .int .i64 0 ∧ Out w v wr d (((l ++ ds f 0 q) ++ [46]) ++ ds f q r)) (fun _ _ _ => 0)
         case atStart => exact ⟨rfl, HO4.out⟩
         case round =>
          obtain ⟨rfl, ho⟩ := hrel
          have HO5 := Lib.hid ho
          clear ho
          go_wp2_with (fail)
          go_ret
          refine ⟨_, rfl, ?_⟩
          have h := HO5.out
          simp only [List.append_assoc] at h ⊢
          exact h
set_option maxRecDepth 1000000 in
set_option maxHeartbeats 40000000 in
theorem fmtF_B_true (nd q r : Nat) (f : Nat → UInt8) (hnd : nd ≤ 20) (hq : 0 < q) (hq6 : q ≤ 6) (hz0 : nd = q + r) (hr : 0 < r) :
 ∀ (w : World) (v : Value) (l : List UInt8) (B : Nat), Own w v l → ¬ v.ownBlock = some B → Digs w B nd f → l.length ≤ 140737488350000 →
  Calls Tryz.prog 111 #[v, .bool true, .slice (some ⟨B, 0, none⟩) 32 32, .int .i64 (q : Int), .int .i64 (nd : Int), .int .i64 (nd : Int), .int .u8 103, .bool true] w (OutRes w v (l ++ ([45] ++ (ds f 0 q ++ ([46] ++ ds f q r))))) := by
 intro w v l B hown hvb hc hb
 have a1 : ¬ (q : Int) - 1 < -4 := by omega
 have a2 : ¬ 6 ≤ (q : Int) - 1 := by omega
 have a3 : (q : Int) < (nd : Int) := by omega
 have a4 : (nd : Int) - (q : Int) = (r : Int) := by omega
 have a5 : min (nd : Int) (q : Int) = (q : Int) := by omega
 have a6 : max (r : Int) 0 = (r : Int) := by omega
 have a7 : (0 : Int) < (q : Int) := by omega
 have a8 : (q : Int) ≤ 32 := by omega
 have a9 : (0 : Int) ≤ (q : Int) := by omega
 have b1 : (0 : Int) < (r : Int) := by omega
 have b2 : max 0 (-(q : Int)) = 0 := by omega
 have b3 : min (r : Int) 0 = 0 := by omega
 have b4 : max 0 (r : Int) = (r : Int) := by omega
 have hz1 : q + r ≤ nd := by omega
 have hz2 : nd ≤ q + r := by omega
 clear hz0
 have H0 := Lib.hid (Out.start hown)
 have HCC : Hid (∀ wr j, j < nd → Keeps (blk v) w wr → wr.cell? ⟨B, j, none⟩ = some (.int .u8 ((f j).toNat : Int))) := fun wr j hj hk => hk.cell (hc j hj) hvb
 clear hc hvb
 have S1 := run_sto (some ⟨B, 0, none⟩) 32 32 q (by omega)
 go_enter Tryz.func111, Tryz.ntmps111
 go_wp2_with (first | (at_builtin; have _h := H0; refine at_out_lit H0.out (.tmp 179) (.tmp 180) [45] (by simp [ds_length] at hb ⊢; omega) rfl rfl rfl rfl ?_; intro v1 w1 o1; have G1 := Lib.hid o1; clear o1))
 go_loopw [0, 191] (fun d i wr => ∃ (k : Nat), i = .int .i64 (k : Int) ∧ k ≤ q ∧ Out w v wr d ((l ++ [45]) ++ ds f 0 k)) (fun _ i _ => q - natOfV i)
 case atStart => exact ⟨0, rfl, Nat.zero_le _, by simp only [ds_zero, List.replicate_zero, List.append_nil]; exact G1.out⟩
 case round =>
  obtain ⟨k1, rfl, hk1, ho⟩ := hrel
  have HO1 := Lib.hid ho
  clear ho
  have t0 : (0 : Int) ≤ (k1 : Int) := by omega
  by_cases hlt : k1 < q
  · have t1 : (k1 : Int) < (q : Nat) := by omega
    have hwk : IntKind.i64.wrap ((k1 : Int) + 1) = ((k1 + 1 : Nat) : Int) := by rw [IntWalk.i64_in _ (by omega)]; rfl
    have hcc := HCC.out wr k1 (by omega) HO1.out.keeps
    go_wp2_with (at_builtin; refine at_out_lit HO1.out (.tmp 195) (.tmp 197) [f k1] (by simp [ds_length] at hb ⊢; omega) rfl rfl rfl rfl ?_; intro v9 w9 o9; have G9 := Lib.hid o9; clear o9)
    go_roundw
    case rel => exact ⟨k1 + 1, rfl, by omega, by simp only [ds_succ, List.replicate_succ', Nat.zero_add]; rw [← List.append_assoc]; exact G9.out⟩
    case measure => simp [natOfV]; omega
  · have t1 : ¬ (k1 : Int) < (q : Nat) := by omega
    obtain rfl : q = k1 := by omega
    go_wp2_with (fail)
    go_loopw [0, 203] (fun d i wr => i = .int .i64 0 ∧ Out w v wr d ((l ++ [45]) ++ ds f 0 q)) (fun _ _ _ => 0)
    case atStart => exact ⟨rfl, HO1.out⟩
    case round =>
     obtain ⟨rfl, ho⟩ := hrel
     have HO2 := Lib.hid ho
     clear ho
     go_wp2_with (at_builtin; have _h := HO2; refine at_out_lit HO2.out (.tmp 214) (.tmp 215) [46] (by simp [ds_length] at hb ⊢; omega) rfl rfl rfl rfl ?_; intro v3 w3 o3; have G3 := Lib.hid o3; clear o3)
     go_loopw [0, 240] (fun d i wr => i = .int .i64 0 ∧ Out w v wr d ((((l ++ [45]) ++ ds f 0 q) ++ [46]))) (fun _ _ _ => 0)
     case atStart => exact ⟨rfl, G3.out⟩
     case round =>
      obtain ⟨rfl, ho⟩ := hrel
      have HO3 := Lib.hid ho
      clear ho
      go_wp2_with (fail)
      go_loopw [0, 247] (fun d i wr => ∃ (k : Nat), i = .int .i64 (k : Int) ∧ k ≤ r ∧ Out w v wr d ((((l ++ [45]) ++ ds f 0 q) ++ [46]) ++ ds f q k)) (fun _ i _ => r - natOfV i)
      case atStart => exact ⟨0, rfl, Nat.zero_le _, by simp only [ds_zero, List.replicate_zero, List.append_nil]; exact HO3.out⟩
      case round =>
       obtain ⟨k4, rfl, hk4, ho⟩ := hrel
       have HO4 := Lib.hid ho
       clear ho
       have t0 : (0 : Int) ≤ (k4 : Int) := by omega
       by_cases hlt : k4 < r
       · have t1 : (k4 : Int) < (r : Nat) := by omega
         have hwk : IntKind.i64.wrap ((k4 : Int) + 1) = ((k4 + 1 : Nat) : Int) := by rw [IntWalk.i64_in _ (by omega)]; rfl
         have hcc := HCC.out wr (q + k4) (by omega) HO4.out.keeps
         go_wp2_with (at_builtin; refine at_out_lit HO4.out (.tmp 250) (.tmp 257) [f (q + k4)] (by simp [ds_length] at hb ⊢; omega) rfl rfl rfl rfl ?_; intro v9 w9 o9; have G9 := Lib.hid o9; clear o9)
         go_roundw
         case rel => exact ⟨k4 + 1, rfl, by omega, by simp only [ds_succ, List.replicate_succ', Nat.zero_add]; rw [← List.append_assoc]; exact G9.out⟩
         case measure => simp [natOfV]; omega
       · have t1 : ¬ (k4 : Int) < (r : Nat) := by omega
         obtain rfl : r = k4 := by omega
         go_wp2_with (fail)
         go_loopw [0, 261] (fun d i wr => i = .int .i64 0 ∧ Out w v wr d ((((l ++ [45]) ++ ds f 0 q) ++ [46]) ++ ds f q r)) (fun _ _ _ => 0)
         case atStart => exact ⟨rfl, HO4.out⟩
         case round =>
          obtain ⟨rfl, ho⟩ := hrel
          have HO5 := Lib.hid ho
          clear ho
          go_wp2_with (fail)
          go_ret
          refine ⟨_, rfl, ?_⟩
          have h := HO5.out
          simp only [List.append_assoc] at h ⊢
          exact h
set_option maxRecDepth 1000000 in
set_option maxHeartbeats 40000000 in
theorem fmtF_C_false (nd q r : Nat) (f : Nat → UInt8) (hnd : nd ≤ 20) (hq6 : q ≤ 3) (hz0 : nd + q = r) (hr : 0 < r) :
 ∀ (w : World) (v : Value) (l : List UInt8) (B : Nat), Own w v l → ¬ v.ownBlock = some B → Digs w B nd f → l.length ≤ 140737488350000 →
  Calls Tryz.prog 111 #[v, .bool false, .slice (some ⟨B, 0, none⟩) 32 32, .int .i64 (-(q : Int)), .int .i64 (nd : Int), .int .i64 (nd : Int), .int .u8 103, .bool true] w (OutRes w v (l ++ ([] ++ ([48] ++ ([46] ++ (List.replicate q 48 ++ ds f 0 nd)))))) := by
 intro w v l B hown hvb hc hb
 have a1 : ¬ -(q : Int) - 1 < -4 := by omega
 have a2 : ¬ 6 ≤ -(q : Int) - 1 := by omega
 have a3 : -(q : Int) < (nd : Int) := by omega
 have a4 : (nd : Int) - -(q : Int) = (r : Int) := by omega
 have a5 : (nd : Int) + (q : Int) = (r : Int) := by omega
 have a6 : max (r : Int) 0 = (r : Int) := by omega
 have a7 : ¬ (0 : Int) < -(q : Int) := by omega
 have b1 : (0 : Int) < (r : Int) := by omega
 have b2 : max 0 (q : Int) = (q : Int) := by omega
 have b3 : min (r : Int) (q : Int) = (q : Int) := by omega
 have b4 : (r : Int) - (q : Int) = (nd : Int) := by omega
 have b5 : max 0 (nd : Int) = (nd : Int) := by omega
 have c1 : -(q : Int) + (q : Int) = 0 := by omega
 have hz1 : nd + q ≤ r := by omega
 have hz2 : r ≤ nd + q := by omega
 clear hz0
 have H0 := Lib.hid (Out.start hown)
 have HCC : Hid (∀ wr j, j < nd → Keeps (blk v) w wr → wr.cell? ⟨B, j, none⟩ = some (.int .u8 ((f j).toNat : Int))) := fun wr j hj hk => hk.cell (hc j hj) hvb
 clear hc hvb
 go_enter Tryz.func111, Tryz.ntmps111
 go_wp2_with (first | (at_builtin; have _h := G2; refine at_out_lit G2.out (.tmp 214) (.tmp 215) [46] (by simp [ds_length] at hb ⊢; omega) rfl rfl rfl rfl ?_; intro v3 w3 o3; have G3 := Lib.hid o3; clear o3) | (at_builtin; have _h := H0; refine at_out_lit H0.out (.tmp 209) (.tmp 210) [48] (by simp [ds_length] at hb ⊢; omega) rfl rfl rfl rfl ?_; intro v2 w2 o2; have G2 := Lib.hid o2; clear o2))
 go_loopw [0, 240] (fun d i wr => ∃ (k : Nat), i = .int .i64 (k : Int) ∧ k ≤ q ∧ Out w v wr d (((l ++ [48]) ++ [46]) ++ List.replicate k 48)) (fun _ i _ => q - natOfV i)
 case atStart => exact ⟨0, rfl, Nat.zero_le _, by simp only [ds_zero, List.replicate_zero, List.append_nil]; exact G3.out⟩
 case round =>
  obtain ⟨k3, rfl, hk3, ho⟩ := hrel
  have HO3 := Lib.hid ho
  clear ho
  have t0 : (0 : Int) ≤ (k3 : Int) := by omega
  by_cases hlt : k3 < q
  · have t1 : (k3 : Int) < (q : Nat) := by omega
    have hwk : IntKind.i64.wrap ((k3 : Int) + 1) = ((k3 + 1 : Nat) : Int) := by rw [IntWalk.i64_in _ (by omega)]; rfl
    skip
    go_wp2_with (at_builtin; refine at_out_lit HO3.out (.tmp 242) (.tmp 243) [48] (by simp [ds_length] at hb ⊢; omega) rfl rfl rfl rfl ?_; intro v9 w9 o9; have G9 := Lib.hid o9; clear o9)
    go_roundw
    case rel => exact ⟨k3 + 1, rfl, by omega, by simp only [ds_succ, List.replicate_succ', Nat.zero_add]; rw [← List.append_assoc]; exact G9.out⟩
    case measure => simp [natOfV]; omega
  · have t1 : ¬ (k3 : Int) < (q : Nat) := by omega
    obtain rfl : q = k3 := by omega
    go_wp2_with (fail)
    go_loopw [0, 247] (fun d i wr => ∃ (k : Nat), i = .int .i64 (k : Int) ∧ k ≤ nd ∧ Out w v wr d (((l ++ [48]) ++ [46]) ++ List.replicate q 48 ++ ds f 0 k)) (fun _ i _ => nd - natOfV i)
    case atStart => exact ⟨0, rfl, Nat.zero_le _, by simp only [ds_zero, List.replicate_zero, List.append_nil]; exact HO3.out⟩
    case round =>
     obtain ⟨k4, rfl, hk4, ho⟩ := hrel
     have HO4 := Lib.hid ho
     clear ho
     have t0 : (0 : Int) ≤ (k4 : Int) := by omega
     by_cases hlt : k4 < nd
     · have t1 : (k4 : Int) < (nd : Nat) := by omega
       have hwk : IntKind.i64.wrap ((k4 : Int) + 1) = ((k4 + 1 : Nat) : Int) := by rw [IntWalk.i64_in _ (by omega)]; rfl
       have hcc := HCC.out wr k4 (by omega) HO4.out.keeps
       go_wp2_with (at_builtin; refine at_out_lit HO4.out (.tmp 250) (.tmp 257) [f k4] (by simp [ds_length] at hb ⊢; omega) rfl rfl rfl rfl ?_; intro v9 w9 o9; have G9 := Lib.hid o9; clear o9)
       go_roundw
       case rel => exact ⟨k4 + 1, rfl, by omega, by simp only [ds_succ, List.replicate_succ', Nat.zero_add]; rw [← List.append_assoc]; exact G9.out⟩
       case measure => simp [natOfV]; omega
     · have t1 : ¬ (k4 : Int) < (nd : Nat) := by omega
       obtain rfl : nd = k4 := by omega
       go_wp2_with (fail)
       go_loopw [0, 261] (fun d i wr => i = .int .i64 0 ∧ Out w v wr d (((l ++ [48]) ++ [46]) ++ List.replicate q 48 ++ ds f 0 nd)) (fun _ _ _ => 0)
       case atStart => exact ⟨rfl, HO4.out⟩
       case round =>
        obtain ⟨rfl, ho⟩ := hrel
        have HO5 := Lib.hid ho
        clear ho
        go_wp2_with (fail)
        go_ret
        refine ⟨_, rfl, ?_⟩
        have h := HO5.out
        simp only [List.append_assoc] at h ⊢
        exact h
set_option maxRecDepth 1000000 in
set_option maxHeartbeats 40000000 in
theorem fmtF_C_true (nd q r : Nat) (f : Nat → UInt8) (hnd : nd ≤ 20) (hq6 : q ≤ 3) (hz0 : nd + q = r) (hr : 0 < r) :
 ∀ (w : World) (v : Value) (l : List UInt8) (B : Nat), Own w v l → ¬ v.ownBlock = some B → Digs w B nd f → l.length ≤ 140737488350000 →
  Calls Tryz.prog 111 #[v, .bool true, .slice (some ⟨B, 0, none⟩) 32 32, .int .i64 (-(q : Int)), .int .i64 (nd : Int), .int .i64 (nd : Int), .int .u8 103, .bool true] w (OutRes w v (l ++ ([45] ++ ([48] ++ ([46] ++ (List.replicate q 48 ++ ds f 0 nd)))))) := by
 intro w v l B hown hvb hc hb
 have a1 : ¬ -(q : Int) - 1 < -4 := by omega
 have a2 : ¬ 6 ≤ -(q : Int) - 1 := by omega
 have a3 : -(q : Int) < (nd : Int) := by omega
 have a4 : (nd : Int) - -(q : Int) = (r : Int) := by omega
 have a5 : (nd : Int) + (q : Int) = (r : Int) := by omega
 have a6 : max (r : Int) 0 = (r : Int) := by omega
 have a7 : ¬ (0 : Int) < -(q : Int) := by omega
 have b1 : (0 : Int) < (r : Int) := by omega
 have b2 : max 0 (q : Int) = (q : Int) := by omega
 have b3 : min (r : Int) (q : Int) = (q : Int) := by omega
 have b4 : (r : Int) - (q : Int) = (nd : Int) := by omega
 have b5 : max 0 (nd : Int) = (nd : Int) := by omega
 have c1 : -(q : Int) + (q : Int) = 0 := by omega
 have hz1 : nd + q ≤ r := by omega
 have hz2 : r ≤ nd + q := by omega
 clear hz0
 have H0 := Lib.hid (Out.start hown)
 have HCC : Hid (∀ wr j, j < nd → Keeps (blk v) w wr → wr.cell? ⟨B, j, none⟩ = some (.int .u8 ((f j).toNat : Int))) := fun wr j hj hk => hk.cell (hc j hj) hvb
 clear hc hvb
 go_enter Tryz.func111, Tryz.ntmps111
 go_wp2_with (first | (at_builtin; have _h := G2; refine at_out_lit G2.out (.tmp 214) (.tmp 215) [46] (by simp [ds_length] at hb ⊢; omega) rfl rfl rfl rfl ?_; intro v3 w3 o3; have G3 := Lib.hid o3; clear o3) | (at_builtin; have _h := G1; refine at_out_lit G1.out (.tmp 209) (.tmp 210) [48] (by simp [ds_length] at hb ⊢; omega) rfl rfl rfl rfl ?_; intro v2 w2 o2; have G2 := Lib.hid o2; clear o2) | (at_builtin; have _h := H0; refine at_out_lit H0.out (.tmp 179) (.tmp 180) [45] (by simp [ds_length] at hb ⊢; omega) rfl rfl rfl rfl ?_; intro v1 w1 o1; have G1 := Lib.hid o1; clear o1))
 go_loopw [0, 240] (fun d i wr => ∃ (k : Nat), i = .int .i64 (k : Int) ∧ k ≤ q ∧ Out w v wr d ((((l ++ [45]) ++ [48]) ++ [46]) ++ List.replicate k 48)) (fun _ i _ => q - natOfV i)
 case atStart => exact ⟨0, rfl, Nat.zero_le _, by simp only [ds_zero, List.replicate_zero, List.append_nil]; exact G3.out⟩
 case round =>
  obtain ⟨k3, rfl, hk3, ho⟩ := hrel
  have HO3 := Lib.hid ho
  clear ho
  have t0 : (0 : Int) ≤ (k3 : Int) := by omega
  by_cases hlt : k3 < q
  · have t1 : (k3 : Int) < (q : Nat) := by omega
    have hwk : IntKind.i64.wrap ((k3 : Int) + 1) = ((k3 + 1 : Nat) : Int) := by rw [IntWalk.i64_in _ (by omega)]; rfl
    skip
    go_wp2_with (at_builtin; refine at_out_lit HO3.out (.tmp 242) (.tmp 243) [48] (by simp [ds_length] at hb ⊢; omega) rfl rfl rfl rfl ?_; intro v9 w9 o9; have G9 := Lib.hid o9; clear o9)
    go_roundw
    case rel => exact ⟨k3 + 1, rfl, by omega, by simp only [ds_succ, List.replicate_succ', Nat.zero_add]; rw [← List.append_assoc]; exact G9.out⟩
    case measure => simp [natOfV]; omega
  · have t1 : ¬ (k3 : Int) < (q : Nat) := by omega
    obtain rfl : q = k3 := by omega
    go_wp2_with (fail)
    go_loopw [0, 247] (fun d i wr => ∃ (k : Nat), i = .int .i64 (k : Int) ∧ k ≤ nd ∧ Out w v wr d ((((l ++ [45]) ++ [48]) ++ [46]) ++ List.replicate q 48 ++ ds f 0 k)) (fun _ i _ => nd - natOfV i)
    case atStart => exact ⟨0, rfl, Nat.zero_le _, by simp only [ds_zero, List.replicate_zero, List.append_nil]; exact HO3.out⟩
    case round =>
     obtain ⟨k4, rfl, hk4, ho⟩ := hrel
     have HO4 := Lib.hid ho
     clear ho
     have t0 : (0 : Int) ≤ (k4 : Int) := by omega
     by_cases hlt : k4 < nd
     · have t1 : (k4 : Int) < (nd : Nat) := by omega
       have hwk : IntKind.i64.wrap ((k4 : Int) + 1) = ((k4 + 1 : Nat) : Int) := by rw [IntWalk.i64_in _ (by omega)]; rfl
       have hcc := HCC.out wr k4 (by omega) HO4.out.keeps
       go_wp2_with (at_builtin; refine at_out_lit HO4.out (.tmp 250) (.tmp 257) [f k4] (by simp [ds_length] at hb ⊢; omega) rfl rfl rfl rfl ?_; intro v9 w9 o9; have G9 := Lib.hid o9; clear o9)
       go_roundw
       case rel => exact ⟨k4 + 1, rfl, by omega, by simp only [ds_succ, List.replicate_succ', Nat.zero_add]; rw [← List.append_assoc]; exact G9.out⟩
       case measure => simp [natOfV]; omega
     · have t1 : ¬ (k4 : Int) < (nd : Nat) := by omega
       obtain rfl : nd = k4 := by omega
       go_wp2_with (fail)
       go_loopw [0, 261] (fun d i wr => i = .int .i64 0 ∧ Out w v wr d ((((l ++ [45]) ++ [48]) ++ [46]) ++ List.replicate q 48 ++ ds f 0 nd)) (fun _ _ _ => 0)
       case atStart => exact ⟨rfl, HO4.out⟩
       case round =>
        obtain ⟨rfl, ho⟩ := hrel
        have HO5 := Lib.hid ho
        clear ho
        go_wp2_with (fail)
        go_ret
        refine ⟨_, rfl, ?_⟩
        have h := HO5.out
        simp only [List.append_assoc] at h ⊢
        exact h
set_option maxRecDepth 1000000 in
set_option maxHeartbeats 40000000 in
theorem fmtF_D_false (nd q : Nat) (f : Nat → UInt8) (hnd : nd ≤ 20) (hn0 : nd = 0) (hq : q = 0) :
 ∀ (w : World) (v : Value) (l : List UInt8) (B : Nat), Own w v l → ¬ v.ownBlock = some B → Digs w B nd f → l.length ≤ 140737488350000 →
  Calls Tryz.prog 111 #[v, .bool false, .slice (some ⟨B, 0, none⟩) 32 32, .int .i64 (q : Int), .int .i64 (nd : Int), .int .i64 (nd : Int), .int .u8 103, .bool true] w (OutRes w v (l ++ ([] ++ [48]))) := by
 intro w v l B hown hvb hc hb
 have a1 : (nd : Int) = 0 := by omega
 have a2 : (q : Int) = 0 := by omega
 have H0 := Lib.hid (Out.start hown)
 have HCC : Hid (∀ wr j, j < nd → Keeps (blk v) w wr → wr.cell? ⟨B, j, none⟩ = some (.int .u8 ((f j).toNat : Int))) := fun wr j hj hk => hk.cell (hc j hj) hvb
 clear hc hvb
 go_enter Tryz.func111, Tryz.ntmps111
 go_wp2_with (first | (at_builtin; have _h := H0; refine at_out_lit H0.out (.tmp 209) (.tmp 210) [48] (by simp [ds_length] at hb ⊢; omega) rfl rfl rfl rfl ?_; intro v2 w2 o2; have G2 := Lib.hid o2; clear o2))
 go_ret
 refine ⟨_, rfl, ?_⟩
 have h := G2.out
 simp only [List.append_assoc] at h ⊢
 exact h
set_option maxRecDepth 1000000 in
set_option maxHeartbeats 40000000 in
theorem fmtF_D_true (nd q : Nat) (f : Nat → UInt8) (hnd : nd ≤ 20) (hn0 : nd = 0) (hq : q = 0) :
 ∀ (w : World) (v : Value) (l : List UInt8) (B : Nat), Own w v l → ¬ v.ownBlock = some B → Digs w B nd f → l.length ≤ 140737488350000 →
  Calls Tryz.prog 111 #[v, .bool true, .slice (some ⟨B, 0, none⟩) 32 32, .int .i64 (q : Int), .int .i64 (nd : Int), .int .i64 (nd : Int), .int .u8 103, .bool true] w (OutRes w v (l ++ ([45] ++ [48]))) := by
 intro w v l B hown hvb hc hb
 have a1 : (nd : Int) = 0 := by omega
 have a2 : (q : Int) = 0 := by omega
 have H0 := Lib.hid (Out.start hown)
 have HCC : Hid (∀ wr j, j < nd → Keeps (blk v) w wr → wr.cell? ⟨B, j, none⟩ = some (.int .u8 ((f j).toNat : Int))) := fun wr j hj hk => hk.cell (hc j hj) hvb
 clear hc hvb
 go_enter Tryz.func111, Tryz.ntmps111
 go_wp2_with (first | (at_builtin; have _h := G1; refine at_out_lit G1.out (.tmp 209) (.tmp 210) [48] (by simp [ds_length] at hb ⊢; omega) rfl rfl rfl rfl ?_; intro v2 w2 o2; have G2 := Lib.hid o2; clear o2) | (at_builtin; have _h := H0; refine at_out_lit H0.out (.tmp 179) (.tmp 180) [45] (by simp [ds_length] at hb ⊢; omega) rfl rfl rfl rfl ?_; intro v1 w1 o1; have G1 := Lib.hid o1; clear o1))
 go_ret
 refine ⟨_, rfl, ?_⟩
 have h := G2.out
 simp only [List.append_assoc] at h ⊢
 exact h
set_option maxRecDepth 1000000 in
set_option maxHeartbeats 40000000 in
theorem fmtF_zero_false (w : World) (v : Value) (l : List UInt8) (hown : Own w v l) (hb : l.length ≤ 140737488350000) :
 Calls Tryz.prog 111 #[v, .bool false, .slice none 0 0, .int .i64 0, .int .i64 0, .int .i64 (-1), .int .u8 103, .bool true] w (OutRes w v (l ++ ([] ++ [48]))) := by
 have H0 := Lib.hid (Out.start hown)
 go_enter Tryz.func111, Tryz.ntmps111
 go_wp2_with (first | (at_builtin; have _h := H0; refine at_out_lit H0.out (.tmp 209) (.tmp 210) [48] (by simp [ds_length] at hb ⊢; omega) rfl rfl rfl rfl ?_; intro v2 w2 o2; have G2 := Lib.hid o2; clear o2))
 go_ret
 refine ⟨_, rfl, ?_⟩
 have h := G2.out
 simp only [List.append_assoc] at h ⊢
 exact h
set_option maxRecDepth 1000000 in
set_option maxHeartbeats 40000000 in
theorem fmtF_zero_true (w : World) (v : Value) (l : List UInt8) (hown : Own w v l) (hb : l.length ≤ 140737488350000) :
 Calls Tryz.prog 111 #[v, .bool true, .slice none 0 0, .int .i64 0, .int .i64 0, .int .i64 (-1), .int .u8 103, .bool true] w (OutRes w v (l ++ ([45] ++ [48]))) := by
 have H0 := Lib.hid (Out.start hown)
 go_enter Tryz.func111, Tryz.ntmps111
 go_wp2_with (first | (at_builtin; have _h := G1; refine at_out_lit G1.out (.tmp 209) (.tmp 210) [48] (by simp [ds_length] at hb ⊢; omega) rfl rfl rfl rfl ?_; intro v2 w2 o2; have G2 := Lib.hid o2; clear o2) | (at_builtin; have _h := H0; refine at_out_lit H0.out (.tmp 179) (.tmp 180) [45] (by simp [ds_length] at hb ⊢; omega) rfl rfl rfl rfl ?_; intro v1 w1 o1; have G1 := Lib.hid o1; clear o1))
 go_ret
 refine ⟨_, rfl, ?_⟩
 have h := G2.out
 simp only [List.append_assoc] at h ⊢
 exact h
end Go.Proofs.YtonegoemmologaaGreatDoor
