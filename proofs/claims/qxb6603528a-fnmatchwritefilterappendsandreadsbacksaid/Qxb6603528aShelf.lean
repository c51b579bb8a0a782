/-
  Seat b6603528a: the shelf's contracts of strings.Builder and strings.IndexByte at this dump, in plain words. 'lays169', 'lays137' as the shelf's own tool wrote them; 'lays240', 'lays167', 'lays166' laid by hand after the same pattern (the tool passes them over here).
-/
import Derived.Shelf.Strings.Builder1
import Derived.Shelf.Small.Strs
import Derived.Test.Qxb6603528aProg
namespace Go.Proofs
open Go.Shelf
def Try.renB : Go.Shelf.Ren := ⟨fun | 166 => 17 | 240 => 19 | 276 => 21 | 167 => 20 | n => n, fun | 0 => 0 | 3 => 3 | 4 => 4 | 5 => 5 | 9 => 9 | 20 => 20 | 37 => 27 | 70 => 37 | 72 => 39 | 75 => 45 | 80 => 41 | 164 => 53 | n => n, fun | n => n⟩
theorem Try.lays240 : Go.Proofs.Lays.n240 Try.prog Try.renB := {
  mixed := by kernel_rfl
  f240 := Try.func19.trans (congrArg some (by kernel_rfl))
  f276 := Try.func21.trans (congrArg some (by kernel_rfl))
  t0 := Try.underlying0
  a0 := Try.isAgg0
  z0 := Try.sizeOf0
  v0 := Try.zeroValue0
  t4 := Try.underlying4
  a4 := Try.isAgg4
  z4 := Try.sizeOf4
  v4 := Try.zeroValue4
  t9 := Try.underlying9
  a9 := Try.isAgg9
  z9 := Try.sizeOf9
  v9 := Try.zeroValue9
  t20 := Try.underlying20
  a20 := Try.isAgg20
  z20 := Try.sizeOf20
  v20 := Try.zeroValue20
  t70 := Try.underlying37
  a70 := Try.isAgg37
  z70 := Try.sizeOf37
  v70 := Try.zeroValue37
  t72 := Try.underlying39
  a72 := Try.isAgg39
  z72 := Try.sizeOf39
  v72 := Try.zeroValue39
  t164 := Try.underlying53
  a164 := Try.isAgg53
  z164 := Try.sizeOf53
  v164 := Try.zeroValue53 }
theorem Try.lays167 : Go.Proofs.Lays.n167 Try.prog Try.renB := {
  mixed := by kernel_rfl
  f167 := Try.func20.trans (congrArg some (by kernel_rfl))
  f240 := Try.func19.trans (congrArg some (by kernel_rfl))
  f276 := Try.func21.trans (congrArg some (by kernel_rfl))
  t0 := Try.underlying0
  a0 := Try.isAgg0
  z0 := Try.sizeOf0
  v0 := Try.zeroValue0
  t4 := Try.underlying4
  a4 := Try.isAgg4
  z4 := Try.sizeOf4
  v4 := Try.zeroValue4
  t5 := Try.underlying5
  a5 := Try.isAgg5
  z5 := Try.sizeOf5
  v5 := Try.zeroValue5
  t9 := Try.underlying9
  a9 := Try.isAgg9
  z9 := Try.sizeOf9
  v9 := Try.zeroValue9
  t20 := Try.underlying20
  a20 := Try.isAgg20
  z20 := Try.sizeOf20
  v20 := Try.zeroValue20
  t37 := Try.underlying27
  a37 := Try.isAgg27
  z37 := Try.sizeOf27
  v37 := Try.zeroValue27
  t70 := Try.underlying37
  a70 := Try.isAgg37
  z70 := Try.sizeOf37
  v70 := Try.zeroValue37
  t72 := Try.underlying39
  a72 := Try.isAgg39
  z72 := Try.sizeOf39
  v72 := Try.zeroValue39
  t75 := Try.underlying45
  a75 := Try.isAgg45
  z75 := Try.sizeOf45
  v75 := Try.zeroValue45
  t164 := Try.underlying53
  a164 := Try.isAgg53
  z164 := Try.sizeOf53
  v164 := Try.zeroValue53 }
theorem Try.lays166 : Go.Proofs.Lays.n166 Try.prog Try.renB := {
  mixed := by kernel_rfl
  f166 := Try.func17.trans (congrArg some (by kernel_rfl))
  f240 := Try.func19.trans (congrArg some (by kernel_rfl))
  f276 := Try.func21.trans (congrArg some (by kernel_rfl))
  t0 := Try.underlying0
  a0 := Try.isAgg0
  z0 := Try.sizeOf0
  v0 := Try.zeroValue0
  t3 := Try.underlying3
  a3 := Try.isAgg3
  z3 := Try.sizeOf3
  v3 := Try.zeroValue3
  t4 := Try.underlying4
  a4 := Try.isAgg4
  z4 := Try.sizeOf4
  v4 := Try.zeroValue4
  t9 := Try.underlying9
  a9 := Try.isAgg9
  z9 := Try.sizeOf9
  v9 := Try.zeroValue9
  t20 := Try.underlying20
  a20 := Try.isAgg20
  z20 := Try.sizeOf20
  v20 := Try.zeroValue20
  t37 := Try.underlying27
  a37 := Try.isAgg27
  z37 := Try.sizeOf27
  v37 := Try.zeroValue27
  t70 := Try.underlying37
  a70 := Try.isAgg37
  z70 := Try.sizeOf37
  v70 := Try.zeroValue37
  t72 := Try.underlying39
  a72 := Try.isAgg39
  z72 := Try.sizeOf39
  v72 := Try.zeroValue39
  t75 := Try.underlying45
  a75 := Try.isAgg45
  z75 := Try.sizeOf45
  v75 := Try.zeroValue45
  t164 := Try.underlying53
  a164 := Try.isAgg53
  z164 := Try.sizeOf53
  v164 := Try.zeroValue53 }
theorem Try.Builder_Extra_B : Builder.Extra Try.prog Try.renB := {
  sizeBuilder := by kernel_rfl
  liesBuilder := by kernel_rfl
  t5 := Try.underlying5
  a5 := Try.isAgg5
  z5 := Try.sizeOf5
  v5 := Try.zeroValue5
  infoByte := by kernel_rfl
  cellsByte := by kernel_rfl
  sizeByte := by kernel_rfl
  neB5 := by decide }
open Go.RowKit in
theorem Try.Builder_WriteByte (B b : Nat) (bs : List Value) (c : Int) (w : World) (h : Lib.IsBuilder 39 5 B b bs w) (hlen : bs.length + 1 ≤ 140737488355328) (hBw : B ≤ w.heap.size) :
    Calls Try.prog 20 #[.pointer (some ⟨b, 0, none⟩), .int .u8 c] w fun e w' => e = .returned .nilIface ∧ (Lib.BuilderAt 39 5 B b (.pointer (some ⟨b, 0, none⟩)) (bs ++ [.int .u8 c]) w' ∧ Below B w w') := Any.Builder_WriteByte Try.lays167 Try.Builder_Extra_B B b bs c w h hlen hBw
open Go.RowKit in
theorem Try.Builder_WriteString (B b : Nat) (bs : List Value) (s : ByteArray) (w : World) (h : Lib.IsBuilder 39 5 B b bs w) (hlen : bs.length + s.size ≤ 140737488355328) (hBw : B ≤ w.heap.size) :
    Calls Try.prog 17 #[.pointer (some ⟨b, 0, none⟩), .string s] w fun e w' => e = .returned (.tuple #[.int .i64 s.size, .nilIface]) ∧ (Lib.BuilderAt 39 5 B b (.pointer (some ⟨b, 0, none⟩)) (bs ++ Lib.strCells s) w' ∧ Below B w w') := Any.Builder_WriteString Try.lays166 Try.Builder_Extra_B B b bs s w h hlen hBw
def Try.lays169_ren : Go.Shelf.Ren := ⟨fun | 169 => 14 | n => n, fun | 70 => 37 | 9 => 9 | 0 => 0 | 72 => 39 | 37 => 27 | 127 => 49 | 3 => 3 | 5 => 5 | n => n, fun | n => n⟩
theorem Try.lays169 : Go.Proofs.Lays.n169 Try.prog Try.lays169_ren := {
  mixed := by kernel_rfl
  f169 := Try.func14.trans (congrArg some (by kernel_rfl))
  t0 := Try.underlying0
  a0 := Try.isAgg0
  z0 := Try.sizeOf0
  v0 := Try.zeroValue0
  t3 := Try.underlying3
  a3 := Try.isAgg3
  z3 := Try.sizeOf3
  v3 := Try.zeroValue3
  t9 := Try.underlying9
  a9 := Try.isAgg9
  z9 := Try.sizeOf9
  v9 := Try.zeroValue9
  t37 := Try.underlying27
  a37 := Try.isAgg27
  z37 := Try.sizeOf27
  v37 := Try.zeroValue27
  t70 := Try.underlying37
  a70 := Try.isAgg37
  z70 := Try.sizeOf37
  v70 := Try.zeroValue37
  t72 := Try.underlying39
  a72 := Try.isAgg39
  z72 := Try.sizeOf39
  v72 := Try.zeroValue39
  t127 := Try.underlying49
  a127 := Try.isAgg49
  z127 := Try.sizeOf49
  v127 := Try.zeroValue49 }
theorem Try.Builder_Extra_169 : Builder.Extra Try.prog Try.lays169_ren := {
  sizeBuilder := by kernel_rfl
  liesBuilder := by kernel_rfl
  t5 := Try.underlying5
  a5 := Try.isAgg5
  z5 := Try.sizeOf5
  v5 := Try.zeroValue5
  infoByte := by kernel_rfl
  cellsByte := by kernel_rfl
  sizeByte := by kernel_rfl
  neB5 := by decide }
open Go.RowKit in
theorem Try.Builder_String_any (B b : Nat) (l : List UInt8) (w : World) (h : Lib.IsBuilder 39 5 B b (Lib.byteCells l) w) (hBw : B ≤ w.heap.size) :
    Calls Try.prog 14 #[.pointer (some ⟨b, 0, none⟩)] w fun e w' => e = .returned (.string ⟨l.toArray⟩) ∧ Below B w w' := Any.Builder_String_any Try.lays169 Try.Builder_Extra_169 B b l w h hBw
def Try.lays137_ren : Go.Shelf.Ren := ⟨fun | 137 => 42 | 217 => 43 | 266 => 44 | n => n, fun | 9 => 9 | 5 => 5 | 3 => 3 | n => n, fun | n => n⟩
theorem Try.lays137 : Go.Proofs.Lays.n137 Try.prog Try.lays137_ren := {
  mixed := by kernel_rfl
  f137 := Try.func42.trans (congrArg some (by kernel_rfl))
  f217 := Try.func43.trans (congrArg some (by kernel_rfl))
  f266 := Try.func44.trans (congrArg some (by kernel_rfl))
  t3 := Try.underlying3
  a3 := Try.isAgg3
  z3 := Try.sizeOf3
  v3 := Try.zeroValue3
  t5 := Try.underlying5
  a5 := Try.isAgg5
  z5 := Try.sizeOf5
  v5 := Try.zeroValue5
  t9 := Try.underlying9
  a9 := Try.isAgg9
  z9 := Try.sizeOf9
  v9 := Try.zeroValue9 }
open Go.RowKit in
theorem Try.strings_IndexByte (s : ByteArray) (c : Int) (w : World) :
    Calls Try.prog 42 #[.string s, .int .u8 c] w fun e w' => e = .returned (.int .i64 (Lib.indexByte s.data.toList c.toNat.toUInt8)) ∧ w' = w := Any.strings_IndexByte Try.lays137 s c w
end Go.Proofs
