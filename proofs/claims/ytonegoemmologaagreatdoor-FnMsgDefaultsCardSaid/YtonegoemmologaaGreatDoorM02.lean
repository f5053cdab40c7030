/-
  Strings from bytes and back; slices that are either a piece of something older without room, or owned.
  Contracts of Go's library at the numbers of this seat: written by the shelf's tool in plain words.
-/
import Derived.Test.YtonegoemmologaaGreatDoorM01
import Derived.Lib.ConvBytes
import Derived.Lib.SlBytesRow
import Derived.Shelf.Bytes.SlSmallAll
import Derived.Shelf.Bits.Mul64
import Derived.Shelf.Strconv.Itoa0
import Derived.Shelf.Strconv.Itoa1
import Derived.Shelf.Strconv.Itoa2
import Derived.Shelf.LaysM
import Derived.Test.YtonegoemmologaaGreatDoorProg
set_option linter.unusedVariables false
set_option linter.unusedSimpArgs false
namespace Go.Proofs.YtonegoemmologaaGreatDoor
open Go.RowKit
theorem run_to_bytes (l : List UInt8) (hl : l.length ≤ maxLen) (w : World) : ∃ c w', (convert 9 72 (.string (mk l))).run Tryz.prog w = .ok (.slice (some ⟨w.heap.size, 0, none⟩) l.length c) w' ∧
 BytesAt w' (.slice (some ⟨w.heap.size, 0, none⟩) l.length c) l ∧ Keeps (fun _ => False) w w' := by
 refine ⟨_, _, Lib.run_convert_string_bytes w 9 72 5 (mk l) Tryz.underlying9 Tryz.underlying72 Tryz.underlying5, ⟨_, _, rfl, grownCap_ge w l.length 0 5, grownCap_le_maxLen w l.length 0 5 hl, .inr ⟨_, 0, rfl, fun j hj => ?_⟩⟩, ⟨rfl, rfl, rfl, ?_, fun k hk _ => Lib.bytesWorld_at_old w _ _ k hk⟩⟩
 · rw [Nat.zero_add, Lib.bytesWorld_cell w _ _ j (by rw [mk_size]; exact hj), mk_data, List.getD, List.getElem?_eq_getElem hj]
   rfl
 · rw [Lib.bytesWorld_size]; omega
theorem run_to_str {w : World} {v : Value} {l : List UInt8} (h : BytesAt w v l) : (convert 72 9 v).run Tryz.prog w = .ok (.string (mk l)) w := by
 obtain ⟨a, c, rfl, hc, hm, h⟩ := h
 by_cases hl : l = []
 · subst hl
   exact run_convert_bytes_zero w 72 5 Tryz.underlying72 Tryz.underlying5 a c 9 Tryz.underlying9
 · obtain ⟨b, off, rfl, hx⟩ := h.resolve_left hl
   exact Lib.run_convert_whole w 72 5 9 Tryz.underlying72 Tryz.underlying5 Tryz.underlying9 b off (mk l) (fun i hi => hx i hi) c
theorem BytesAt.cell {w : World} {b off n c : Nat} {l : List UInt8} (h : BytesAt w (.slice (some ⟨b, off, none⟩) n c) l) : n = l.length ∧ ∀ j (hj : j < l.length), w.cell? ⟨b, off + j, none⟩ = some (.int .u8 (l[j].toNat : Int)) := by
 obtain ⟨a, c', hv, _, _, h⟩ := h
 simp only [Value.slice.injEq] at hv
 obtain ⟨rfl, rfl, rfl⟩ := hv
 refine ⟨rfl, fun j hj => ?_⟩
 rcases h with rfl | ⟨b', off', ha, h⟩
 · simp at hj
 · cases ha
   exact h j hj
end Go.Proofs.YtonegoemmologaaGreatDoor
namespace Go.Proofs
open Go.Shelf
def Tryz.lays264_ren : Go.Shelf.Ren := ⟨fun | 264 => 174 | n => n, fun | 53 => 37 | 46 => 137 | n => n, fun | n => n⟩
theorem Tryz.lays264 : Go.Proofs.Lays.n264 Tryz.prog Tryz.lays264_ren := {
 mixed := by kernel_rfl
 f264 := Tryz.func174.trans (congrArg some (by kernel_rfl))
 t46 := Tryz.underlying137
 a46 := Tryz.isAgg137
 z46 := Tryz.sizeOf137
 v46 := Tryz.zeroValue137
 t53 := Tryz.underlying37
 a53 := Tryz.isAgg37
 z53 := Tryz.sizeOf37
 v53 := Tryz.zeroValue37 }
def Tryz.lays129_ren : Go.Shelf.Ren := ⟨fun | 129 => 103 | n => n, fun | 53 => 37 | 3 => 3 | 4 => 4 | 46 => 137 | 5 => 5 | 9 => 9 | n => n, fun | n => n⟩
theorem Tryz.lays129 : Go.Proofs.Lays.n129 Tryz.prog Tryz.lays129_ren := {
 mixed := by kernel_rfl
 f129 := Tryz.func103.trans (congrArg some (by kernel_rfl))
 t3 := Tryz.underlying3
 a3 := Tryz.isAgg3
 z3 := Tryz.sizeOf3
 v3 := Tryz.zeroValue3
 t4 := Tryz.underlying4
 a4 := Tryz.isAgg4
 z4 := Tryz.sizeOf4
 v4 := Tryz.zeroValue4
 t5 := Tryz.underlying5
 a5 := Tryz.isAgg5
 z5 := Tryz.sizeOf5
 v5 := Tryz.zeroValue5
 t9 := Tryz.underlying9
 a9 := Tryz.isAgg9
 z9 := Tryz.sizeOf9
 v9 := Tryz.zeroValue9
 t46 := Tryz.underlying137
 a46 := Tryz.isAgg137
 z46 := Tryz.sizeOf137
 v46 := Tryz.zeroValue137
 t53 := Tryz.underlying37
 a53 := Tryz.isAgg37
 z53 := Tryz.sizeOf37
 v53 := Tryz.zeroValue37 }
def Tryz.lays283_ren : Go.Shelf.Ren := ⟨fun | 283 => 85 | n => n, fun | 3 => 3 | 9 => 9 | 4 => 4 | n => n, fun | n => n⟩
theorem Tryz.lays283 : Go.Proofs.Lays.n283 Tryz.prog Tryz.lays283_ren := {
 mixed := by kernel_rfl
 f283 := Tryz.func85.trans (congrArg some (by kernel_rfl))
 t3 := Tryz.underlying3
 a3 := Tryz.isAgg3
 z3 := Tryz.sizeOf3
 v3 := Tryz.zeroValue3
 t4 := Tryz.underlying4
 a4 := Tryz.isAgg4
 z4 := Tryz.sizeOf4
 v4 := Tryz.zeroValue4
 t9 := Tryz.underlying9
 a9 := Tryz.isAgg9
 z9 := Tryz.sizeOf9
 v9 := Tryz.zeroValue9 }
def Tryz.laysM284_ren : Go.Shelf.Ren := ⟨fun | 284 => 86 | 129 => 103 | 317 => 102 | 318 => 104 | n => n, fun | 53 => 37 | 3 => 3 | 212 => 168 | 0 => 0 | 4 => 4 | 46 => 137 | 5 => 5 | 9 => 9 | n => n, fun | 17 => 1 | n => n⟩
theorem Tryz.laysM284 : Go.Proofs.LaysM.n284 Tryz.prog Tryz.laysM284_ren := {
 mixed := by kernel_rfl
 f129 := Tryz.func103.trans (congrArg some (by kernel_rfl))
 f284 := Tryz.func86.trans (congrArg some (by kernel_rfl))
 f317 := Tryz.func102.trans (congrArg some (by kernel_rfl))
 f318 := Tryz.func104.trans (congrArg some (by kernel_rfl))
 t0 := Tryz.underlying0
 a0 := Tryz.isAgg0
 z0 := Tryz.sizeOf0
 v0 := Tryz.zeroValue0
 t3 := Tryz.underlying3
 a3 := Tryz.isAgg3
 z3 := Tryz.sizeOf3
 v3 := Tryz.zeroValue3
 t4 := Tryz.underlying4
 a4 := Tryz.isAgg4
 z4 := Tryz.sizeOf4
 v4 := Tryz.zeroValue4
 t5 := Tryz.underlying5
 a5 := Tryz.isAgg5
 z5 := Tryz.sizeOf5
 v5 := Tryz.zeroValue5
 t9 := Tryz.underlying9
 a9 := Tryz.isAgg9
 z9 := Tryz.sizeOf9
 v9 := Tryz.zeroValue9
 t46 := Tryz.underlying137
 a46 := Tryz.isAgg137
 z46 := Tryz.sizeOf137
 v46 := Tryz.zeroValue137
 t53 := Tryz.underlying37
 a53 := Tryz.isAgg37
 z53 := Tryz.sizeOf37
 v53 := Tryz.zeroValue37
 t212 := Tryz.underlying168
 a212 := Tryz.isAgg168
 z212 := Tryz.sizeOf168
 v212 := Tryz.zeroValue168
 g17 := by kernel_rfl
 i0 := by kernel_rfl
 i3 := by kernel_rfl
 i4 := by kernel_rfl
 i5 := by kernel_rfl
 i9 := by kernel_rfl
 i46 := by kernel_rfl
 i53 := by kernel_rfl
 i212 := by kernel_rfl
 m17 := by kernel_rfl }
def Tryz.lays285_ren : Go.Shelf.Ren := ⟨fun | 285 => 87 | n => n, fun | 37 => 72 | 53 => 37 | 3 => 3 | 4 => 4 | 51 => 86 | 9 => 9 | 5 => 5 | 0 => 0 | n => n, fun | n => n⟩
theorem Tryz.lays285 : Go.Proofs.Lays.n285 Tryz.prog Tryz.lays285_ren := {
 mixed := by kernel_rfl
 f285 := Tryz.func87.trans (congrArg some (by kernel_rfl))
 t0 := Tryz.underlying0
 a0 := Tryz.isAgg0
 z0 := Tryz.sizeOf0
 v0 := Tryz.zeroValue0
 t3 := Tryz.underlying3
 a3 := Tryz.isAgg3
 z3 := Tryz.sizeOf3
 v3 := Tryz.zeroValue3
 t4 := Tryz.underlying4
 a4 := Tryz.isAgg4
 z4 := Tryz.sizeOf4
 v4 := Tryz.zeroValue4
 t5 := Tryz.underlying5
 a5 := Tryz.isAgg5
 z5 := Tryz.sizeOf5
 v5 := Tryz.zeroValue5
 t9 := Tryz.underlying9
 a9 := Tryz.isAgg9
 z9 := Tryz.sizeOf9
 v9 := Tryz.zeroValue9
 t37 := Tryz.underlying72
 a37 := Tryz.isAgg72
 z37 := Tryz.sizeOf72
 v37 := Tryz.zeroValue72
 t51 := Tryz.underlying86
 a51 := Tryz.isAgg86
 z51 := Tryz.sizeOf86
 v51 := Tryz.zeroValue86
 t53 := Tryz.underlying37
 a53 := Tryz.isAgg37
 z53 := Tryz.sizeOf37
 v53 := Tryz.zeroValue37 }
end Go.Proofs
