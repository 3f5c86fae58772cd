/-
  strings.Join at this program, as the shelf's contract gives it (laid by the kit's tool lay-plain.mjs; this part of what it wrote).
  Condition: the strings lie in a slice; the joined string has at most 2^47 bytes.
-/
import Derived.Shelf.Strings.OnBuilder
import Derived.Test.YtnnclcfklbeocaaProg
namespace Go.Proofs
open Go.Shelf
def Try.lays156_ren : Go.Shelf.Ren := ⟨fun | 156 => 71 | 165 => 83 | 166 => 84 | 169 => 85 | 240 => 88 | 241 => 89 | 276 => 90 | 277 => 91 | n => n, fun | 31 => 27 | 9 => 9 | 3 => 3 | 4 => 4 | 0 => 0 | 20 => 20 | 72 => 148 | 76 => 150 | 70 => 145 | 37 => 146 | 75 => 68 | 127 => 156 | 164 => 157 | 5 => 5 | 80 => 137 | n => n, fun | n => n⟩
theorem Try.lays156 : Go.Proofs.Lays.n156 Try.prog Try.lays156_ren := {
  mixed := by kernel_rfl
  f156 := Try.func71.trans (congrArg some (by kernel_rfl))
  f165 := Try.func83.trans (congrArg some (by kernel_rfl))
  f166 := Try.func84.trans (congrArg some (by kernel_rfl))
  f169 := Try.func85.trans (congrArg some (by kernel_rfl))
  f240 := Try.func88.trans (congrArg some (by kernel_rfl))
  f241 := Try.func89.trans (congrArg some (by kernel_rfl))
  f276 := Try.func90.trans (congrArg some (by kernel_rfl))
  f277 := Try.func91.trans (congrArg some (by kernel_rfl))
  t0 := Try.underlying0
  a0 := Try.isAgg0
  z0 := Try.sizeOf0
  v0 := Try.zeroValue0
  t3 := Try.underlying3
  a3 := Try.isAgg3
  z3 := Try.sizeOf3
  v3 := Try.zeroValue3
  t4 := Try.underlying4
  a4 := Try.isAgg4
  z4 := Try.sizeOf4
  v4 := Try.zeroValue4
  t9 := Try.underlying9
  a9 := Try.isAgg9
  z9 := Try.sizeOf9
  v9 := Try.zeroValue9
  t20 := Try.underlying20
  a20 := Try.isAgg20
  z20 := Try.sizeOf20
  v20 := Try.zeroValue20
  t31 := Try.underlying27
  a31 := Try.isAgg27
  z31 := Try.sizeOf27
  v31 := Try.zeroValue27
  t37 := Try.underlying146
  a37 := Try.isAgg146
  z37 := Try.sizeOf146
  v37 := Try.zeroValue146
  t70 := Try.underlying145
  a70 := Try.isAgg145
  z70 := Try.sizeOf145
  v70 := Try.zeroValue145
  t72 := Try.underlying148
  a72 := Try.isAgg148
  z72 := Try.sizeOf148
  v72 := Try.zeroValue148
  t75 := Try.underlying68
  a75 := Try.isAgg68
  z75 := Try.sizeOf68
  v75 := Try.zeroValue68
  t76 := Try.underlying150
  a76 := Try.isAgg150
  z76 := Try.sizeOf150
  v76 := Try.zeroValue150
  t127 := Try.underlying156
  a127 := Try.isAgg156
  z127 := Try.sizeOf156
  v127 := Try.zeroValue156
  t164 := Try.underlying157
  a164 := Try.isAgg157
  z164 := Try.sizeOf157
  v164 := Try.zeroValue157 }
theorem Try.Builder_Extra_156 : Builder.Extra Try.prog Try.lays156_ren := {
  sizeBuilder := by kernel_rfl
  liesBuilder := by kernel_rfl
  t5 := Try.underlying5
  a5 := Try.isAgg5
  z5 := Try.sizeOf5
  v5 := Try.zeroValue5
  infoByte := by kernel_rfl
  cellsByte := by kernel_rfl
  sizeByte := by kernel_rfl
  neB5 := by decide }
open Go.RowKit in
theorem Try.strings_Join (bk o c : Nat) (xs : List ByteArray) (sep : ByteArray) (w : World) (hcells : ∀ (j : Nat) x, xs[j]? = some x → w.cell? ⟨bk, o + j, none⟩ = some (.string x)) (hbk : bk < w.heap.size) (hN : xs.length ≤ 140737488355328) (hcap : xs.length ≤ c) (hlen : (Lib.join (xs.map (·.data.toList)) sep.data.toList).length ≤ 140737488355328) :
    Calls Try.prog 71 #[.slice (some ⟨bk, o, none⟩) xs.length c, .string sep] w fun e w' => e = .returned (.string ⟨(Lib.join (xs.map (·.data.toList)) sep.data.toList).toArray⟩) ∧ Below w.heap.size w w' := Any.strings_Join Try.lays156 Try.Builder_Extra_156 bk o c xs sep w hcells hbk hN hcap hlen
end Go.Proofs
