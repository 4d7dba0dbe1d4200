/-
  The library's contracts at this program: strings.Builder's Grow, WriteByte, WriteRune, String. The layings of 169 and 165 as the shelf's tools wrote them for this program; those of 167 and 168 laid by hand in the same form (the tool does not find the numbers of two types that no body names).
-/
import Derived.Shelf.Strings.Builder1
import Derived.Shelf.Strings.Builder2
import Derived.Shelf.Strings.BuilderF
import Derived.Shelf.Strings.BuilderK
import Derived.Shelf.Strings.BuilderRune
import Derived.Test.Qxb6627869aRows
namespace Go.Proofs
open Go.Shelf
def Try.lays169_ren : Go.Shelf.Ren := ⟨fun | 169 => 14 | n => n, fun | 70 => 25 | 9 => 9 | 0 => 0 | 72 => 28 | 37 => 26 | 127 => 38 | 3 => 3 | 5 => 5 | n => n, fun | n => n⟩
theorem Try.lays169 : Go.Proofs.Lays.n169 Try.prog Try.lays169_ren := {
  mixed := by kernel_rfl
  f169 := Try.func14.trans (congrArg some (by kernel_rfl))
  t0 := Try.underlying0
  a0 := Try.isAgg0
  z0 := Try.sizeOf0
  v0 := Try.zeroValue0
  t3 := Try.underlying3
  a3 := Try.isAgg3
  z3 := Try.sizeOf3
  v3 := Try.zeroValue3
  t9 := Try.underlying9
  a9 := Try.isAgg9
  z9 := Try.sizeOf9
  v9 := Try.zeroValue9
  t37 := Try.underlying26
  a37 := Try.isAgg26
  z37 := Try.sizeOf26
  v37 := Try.zeroValue26
  t70 := Try.underlying25
  a70 := Try.isAgg25
  z70 := Try.sizeOf25
  v70 := Try.zeroValue25
  t72 := Try.underlying28
  a72 := Try.isAgg28
  z72 := Try.sizeOf28
  v72 := Try.zeroValue28
  t127 := Try.underlying38
  a127 := Try.isAgg38
  z127 := Try.sizeOf38
  v127 := Try.zeroValue38 }
theorem Try.Builder_Extra_169 : Builder.Extra Try.prog Try.lays169_ren := {
  sizeBuilder := by kernel_rfl
  liesBuilder := by kernel_rfl
  t5 := Try.underlying5
  a5 := Try.isAgg5
  z5 := Try.sizeOf5
  v5 := Try.zeroValue5
  infoByte := by kernel_rfl
  cellsByte := by kernel_rfl
  sizeByte := by kernel_rfl
  neB5 := by decide }
def Try.lays165_ren : Go.Shelf.Ren := ⟨fun | 165 => 11 | 240 => 16 | 241 => 17 | 276 => 19 | 277 => 20 | n => n, fun | 70 => 25 | 3 => 3 | 0 => 0 | 4 => 4 | 9 => 9 | 20 => 20 | 72 => 28 | 37 => 26 | 164 => 39 | 5 => 5 | n => n, fun | n => n⟩
theorem Try.lays165 : Go.Proofs.Lays.n165 Try.prog Try.lays165_ren := {
  mixed := by kernel_rfl
  f165 := Try.func11.trans (congrArg some (by kernel_rfl))
  f240 := Try.func16.trans (congrArg some (by kernel_rfl))
  f241 := Try.func17.trans (congrArg some (by kernel_rfl))
  f276 := Try.func19.trans (congrArg some (by kernel_rfl))
  f277 := Try.func20.trans (congrArg some (by kernel_rfl))
  t0 := Try.underlying0
  a0 := Try.isAgg0
  z0 := Try.sizeOf0
  v0 := Try.zeroValue0
  t3 := Try.underlying3
  a3 := Try.isAgg3
  z3 := Try.sizeOf3
  v3 := Try.zeroValue3
  t4 := Try.underlying4
  a4 := Try.isAgg4
  z4 := Try.sizeOf4
  v4 := Try.zeroValue4
  t9 := Try.underlying9
  a9 := Try.isAgg9
  z9 := Try.sizeOf9
  v9 := Try.zeroValue9
  t20 := Try.underlying20
  a20 := Try.isAgg20
  z20 := Try.sizeOf20
  v20 := Try.zeroValue20
  t37 := Try.underlying26
  a37 := Try.isAgg26
  z37 := Try.sizeOf26
  v37 := Try.zeroValue26
  t70 := Try.underlying25
  a70 := Try.isAgg25
  z70 := Try.sizeOf25
  v70 := Try.zeroValue25
  t72 := Try.underlying28
  a72 := Try.isAgg28
  z72 := Try.sizeOf28
  v72 := Try.zeroValue28
  t164 := Try.underlying39
  a164 := Try.isAgg39
  z164 := Try.sizeOf39
  v164 := Try.zeroValue39 }
theorem Try.Builder_Extra_165 : Builder.Extra Try.prog Try.lays165_ren := {
  sizeBuilder := by kernel_rfl
  liesBuilder := by kernel_rfl
  t5 := Try.underlying5
  a5 := Try.isAgg5
  z5 := Try.sizeOf5
  v5 := Try.zeroValue5
  infoByte := by kernel_rfl
  cellsByte := by kernel_rfl
  sizeByte := by kernel_rfl
  neB5 := by decide }
def Try.lays167_ren : Go.Shelf.Ren := ⟨fun | 167 => 12 | 240 => 16 | 276 => 19 | n => n, fun | 0 => 0 | 4 => 4 | 5 => 5 | 9 => 9 | 20 => 20 | 37 => 26 | 70 => 25 | 72 => 28 | 75 => 31 | 80 => 35 | 164 => 39 | n => n, fun | n => n⟩
theorem Try.lays167 : Go.Proofs.Lays.n167 Try.prog Try.lays167_ren := {
  mixed := by kernel_rfl
  f167 := Try.func12.trans (congrArg some (by kernel_rfl))
  f240 := Try.func16.trans (congrArg some (by kernel_rfl))
  f276 := Try.func19.trans (congrArg some (by kernel_rfl))
  t0 := Try.underlying0
  a0 := Try.isAgg0
  z0 := Try.sizeOf0
  v0 := Try.zeroValue0
  t4 := Try.underlying4
  a4 := Try.isAgg4
  z4 := Try.sizeOf4
  v4 := Try.zeroValue4
  t5 := Try.underlying5
  a5 := Try.isAgg5
  z5 := Try.sizeOf5
  v5 := Try.zeroValue5
  t9 := Try.underlying9
  a9 := Try.isAgg9
  z9 := Try.sizeOf9
  v9 := Try.zeroValue9
  t20 := Try.underlying20
  a20 := Try.isAgg20
  z20 := Try.sizeOf20
  v20 := Try.zeroValue20
  t37 := Try.underlying26
  a37 := Try.isAgg26
  z37 := Try.sizeOf26
  v37 := Try.zeroValue26
  t70 := Try.underlying25
  a70 := Try.isAgg25
  z70 := Try.sizeOf25
  v70 := Try.zeroValue25
  t72 := Try.underlying28
  a72 := Try.isAgg28
  z72 := Try.sizeOf28
  v72 := Try.zeroValue28
  t75 := Try.underlying31
  a75 := Try.isAgg31
  z75 := Try.sizeOf31
  v75 := Try.zeroValue31
  t164 := Try.underlying39
  a164 := Try.isAgg39
  z164 := Try.sizeOf39
  v164 := Try.zeroValue39 }
theorem Try.Builder_Extra_167 : Builder.Extra Try.prog Try.lays167_ren := {
  sizeBuilder := by kernel_rfl
  liesBuilder := by kernel_rfl
  t5 := Try.underlying5
  a5 := Try.isAgg5
  z5 := Try.sizeOf5
  v5 := Try.zeroValue5
  infoByte := by kernel_rfl
  cellsByte := by kernel_rfl
  sizeByte := by kernel_rfl
  neB5 := by decide }
def Try.lays168_ren : Go.Shelf.Ren := ⟨fun | 168 => 13 | 240 => 16 | 242 => 18 | 276 => 19 | 278 => 21 | n => n, fun | 0 => 0 | 3 => 3 | 4 => 4 | 5 => 5 | 9 => 9 | 20 => 20 | 21 => 21 | 37 => 26 | 46 => 43 | 51 => 42 | 70 => 25 | 72 => 28 | 75 => 31 | 80 => 35 | 164 => 39 | n => n, fun | n => n⟩
theorem Try.lays168 : Go.Proofs.Lays.n168 Try.prog Try.lays168_ren := {
  mixed := by kernel_rfl
  f168 := Try.func13.trans (congrArg some (by kernel_rfl))
  f240 := Try.func16.trans (congrArg some (by kernel_rfl))
  f242 := Try.func18.trans (congrArg some (by kernel_rfl))
  f276 := Try.func19.trans (congrArg some (by kernel_rfl))
  f278 := Try.func21.trans (congrArg some (by kernel_rfl))
  t0 := Try.underlying0
  a0 := Try.isAgg0
  z0 := Try.sizeOf0
  v0 := Try.zeroValue0
  t3 := Try.underlying3
  a3 := Try.isAgg3
  z3 := Try.sizeOf3
  v3 := Try.zeroValue3
  t4 := Try.underlying4
  a4 := Try.isAgg4
  z4 := Try.sizeOf4
  v4 := Try.zeroValue4
  t5 := Try.underlying5
  a5 := Try.isAgg5
  z5 := Try.sizeOf5
  v5 := Try.zeroValue5
  t9 := Try.underlying9
  a9 := Try.isAgg9
  z9 := Try.sizeOf9
  v9 := Try.zeroValue9
  t20 := Try.underlying20
  a20 := Try.isAgg20
  z20 := Try.sizeOf20
  v20 := Try.zeroValue20
  t21 := Try.underlying21
  a21 := Try.isAgg21
  z21 := Try.sizeOf21
  v21 := Try.zeroValue21
  t37 := Try.underlying26
  a37 := Try.isAgg26
  z37 := Try.sizeOf26
  v37 := Try.zeroValue26
  t46 := Try.underlying43
  a46 := Try.isAgg43
  z46 := Try.sizeOf43
  v46 := Try.zeroValue43
  t51 := Try.underlying42
  a51 := Try.isAgg42
  z51 := Try.sizeOf42
  v51 := Try.zeroValue42
  t70 := Try.underlying25
  a70 := Try.isAgg25
  z70 := Try.sizeOf25
  v70 := Try.zeroValue25
  t72 := Try.underlying28
  a72 := Try.isAgg28
  z72 := Try.sizeOf28
  v72 := Try.zeroValue28
  t75 := Try.underlying31
  a75 := Try.isAgg31
  z75 := Try.sizeOf31
  v75 := Try.zeroValue31
  t164 := Try.underlying39
  a164 := Try.isAgg39
  z164 := Try.sizeOf39
  v164 := Try.zeroValue39 }
theorem Try.Builder_Extra_168 : Builder.Extra Try.prog Try.lays168_ren := {
  sizeBuilder := by kernel_rfl
  liesBuilder := by kernel_rfl
  t5 := Try.underlying5
  a5 := Try.isAgg5
  z5 := Try.sizeOf5
  v5 := Try.zeroValue5
  infoByte := by kernel_rfl
  cellsByte := by kernel_rfl
  sizeByte := by kernel_rfl
  neB5 := by decide }
open Go.RowKit in
theorem Try.Builder_Grow_fresh (B b n : Nat) (w : World) (hB : B ≤ b) (hbk : w.heap[b]? = some (.cells #[.pointer none, .slice none 0 0] 28 (0, 0))) (hBw : B ≤ w.heap.size) (hn : n ≤ 281474976710656) :
    Calls Try.prog 11 #[.pointer (some ⟨b, 0, none⟩), .int .i64 n] w fun e w' => e = .returned (.tuple #[]) ∧ (Lib.BuilderAt 28 5 B b (.pointer (some ⟨b, 0, none⟩)) [] w' ∧ Below B w w') := Any.Builder_Grow_fresh Try.lays165 Try.Builder_Extra_165 B b n w hB hbk hBw hn
open Go.RowKit in
theorem Try.Builder_String_any_k (B b : Nat) (l : List UInt8) (w : World) (h : Lib.IsBuilderF 28 5 B b (Lib.byteCells l) w) (hBw : B ≤ w.heap.size) :
    Calls Try.prog 14 #[.pointer (some ⟨b, 0, none⟩)] w fun e w' => e = .returned (.string ⟨l.toArray⟩) ∧ (Lib.IsBuilderF 28 5 B b (Lib.byteCells l) w' ∧ Below B w w' ∧ Lib.OthersKept 5 (some b) w w') := Any.Builder_String_any_k Try.lays169 Try.Builder_Extra_169 B b l w h hBw
open Go.RowKit in
theorem Try.Builder_WriteByte_k (B b : Nat) (bs : List Value) (c : Int) (w : World) (h : Lib.IsBuilderF 28 5 B b bs w) (hlen : bs.length + 1 ≤ 140737488355328) (hBw : B ≤ w.heap.size) :
    Calls Try.prog 12 #[.pointer (some ⟨b, 0, none⟩), .int .u8 c] w fun e w' => e = .returned .nilIface ∧ (Lib.BuilderAtF 28 5 B b (.pointer (some ⟨b, 0, none⟩)) (bs ++ [.int .u8 c]) w' ∧ Below B w w' ∧ Lib.OthersKept 5 (some b) w w') := Any.Builder_WriteByte_k Try.lays167 Try.Builder_Extra_167 B b bs c w h hlen hBw
open Go.RowKit in
theorem Try.Builder_WriteRune_k (B b : Nat) (bs : List Value) (r : Int) (hr0 : -2147483648 ≤ r) (hr1 : r ≤ 2147483647) (w : World) (h : Lib.IsBuilderF 28 5 B b bs w) (hlen : bs.length + 4 ≤ 140737488355328) (hBw : B ≤ w.heap.size) :
    Calls Try.prog 13 #[.pointer (some ⟨b, 0, none⟩), .int .i32 r] w fun e w' => e = .returned (.tuple #[.int .i64 (Lib.runeCells r).length, .nilIface]) ∧ (Lib.BuilderAtF 28 5 B b (.pointer (some ⟨b, 0, none⟩)) (bs ++ Lib.runeCells r) w' ∧ Below B w w' ∧ Lib.OthersKept 5 (some b) w w') := Any.Builder_WriteRune_k Try.lays168 Try.Builder_Extra_168 B b bs r hr0 hr1 w h hlen hBw
end Go.Proofs
