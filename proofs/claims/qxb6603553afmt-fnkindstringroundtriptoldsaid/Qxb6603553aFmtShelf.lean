/-
  Seat b6603553aF: the shelf's contract of strings.Join at this dump, laid by hand after the pattern of the shelf's own tool.
-/
import Derived.Shelf.Strings.OnBuilder
import Derived.Test.Qxb6603553aFmtProg
namespace Go.Proofs
open Go.Shelf
def Tryf.renJ : Go.Shelf.Ren := ⟨fun | 156 => 15 | 165 => 19 | 166 => 20 | 169 => 21 | 240 => 22 | 241 => 23 | 276 => 24 | 277 => 25 | n => n, fun | 0 => 0 | 3 => 3 | 4 => 4 | 5 => 5 | 9 => 9 | 20 => 20 | 31 => 36 | 37 => 22 | 70 => 45 | 72 => 47 | 75 => 29 | 76 => 49 | 80 => 32 | 127 => 54 | 164 => 55 | n => n, fun | n => n⟩
theorem Tryf.lays156 : Go.Proofs.Lays.n156 Tryf.prog Tryf.renJ := {
  mixed := by kernel_rfl
  f156 := Tryf.func15.trans (congrArg some (by kernel_rfl))
  f165 := Tryf.func19.trans (congrArg some (by kernel_rfl))
  f166 := Tryf.func20.trans (congrArg some (by kernel_rfl))
  f169 := Tryf.func21.trans (congrArg some (by kernel_rfl))
  f240 := Tryf.func22.trans (congrArg some (by kernel_rfl))
  f241 := Tryf.func23.trans (congrArg some (by kernel_rfl))
  f276 := Tryf.func24.trans (congrArg some (by kernel_rfl))
  f277 := Tryf.func25.trans (congrArg some (by kernel_rfl))
  t0 := Tryf.underlying0
  a0 := Tryf.isAgg0
  z0 := Tryf.sizeOf0
  v0 := Tryf.zeroValue0
  t3 := Tryf.underlying3
  a3 := Tryf.isAgg3
  z3 := Tryf.sizeOf3
  v3 := Tryf.zeroValue3
  t4 := Tryf.underlying4
  a4 := Tryf.isAgg4
  z4 := Tryf.sizeOf4
  v4 := Tryf.zeroValue4
  t9 := Tryf.underlying9
  a9 := Tryf.isAgg9
  z9 := Tryf.sizeOf9
  v9 := Tryf.zeroValue9
  t20 := Tryf.underlying20
  a20 := Tryf.isAgg20
  z20 := Tryf.sizeOf20
  v20 := Tryf.zeroValue20
  t31 := Tryf.underlying36
  a31 := Tryf.isAgg36
  z31 := Tryf.sizeOf36
  v31 := Tryf.zeroValue36
  t37 := Tryf.underlying22
  a37 := Tryf.isAgg22
  z37 := Tryf.sizeOf22
  v37 := Tryf.zeroValue22
  t70 := Tryf.underlying45
  a70 := Tryf.isAgg45
  z70 := Tryf.sizeOf45
  v70 := Tryf.zeroValue45
  t72 := Tryf.underlying47
  a72 := Tryf.isAgg47
  z72 := Tryf.sizeOf47
  v72 := Tryf.zeroValue47
  t75 := Tryf.underlying29
  a75 := Tryf.isAgg29
  z75 := Tryf.sizeOf29
  v75 := Tryf.zeroValue29
  t76 := Tryf.underlying49
  a76 := Tryf.isAgg49
  z76 := Tryf.sizeOf49
  v76 := Tryf.zeroValue49
  t127 := Tryf.underlying54
  a127 := Tryf.isAgg54
  z127 := Tryf.sizeOf54
  v127 := Tryf.zeroValue54
  t164 := Tryf.underlying55
  a164 := Tryf.isAgg55
  z164 := Tryf.sizeOf55
  v164 := Tryf.zeroValue55 }
theorem Tryf.Builder_Extra_J : Builder.Extra Tryf.prog Tryf.renJ := {
  sizeBuilder := by kernel_rfl
  liesBuilder := by kernel_rfl
  t5 := Tryf.underlying5
  a5 := Tryf.isAgg5
  z5 := Tryf.sizeOf5
  v5 := Tryf.zeroValue5
  infoByte := by kernel_rfl
  cellsByte := by kernel_rfl
  sizeByte := by kernel_rfl
  neB5 := by decide }
open Go.RowKit in
theorem Tryf.strings_Join (bk o c : Nat) (xs : List ByteArray) (sep : ByteArray) (w : World)
    (hcells : ∀ (j : Nat) x, xs[j]? = some x → w.cell? ⟨bk, o + j, none⟩ = some (.string x))
    (hbk : bk < w.heap.size) (hN : xs.length ≤ 140737488355328) (hcap : xs.length ≤ c)
    (hlen : (Lib.join (xs.map (·.data.toList)) sep.data.toList).length ≤ 140737488355328) :
    Calls Tryf.prog 15 #[.slice (some ⟨bk, o, none⟩) xs.length c, .string sep] w fun e w' => e = .returned (.string ⟨(Lib.join (xs.map (·.data.toList)) sep.data.toList).toArray⟩) ∧ Below w.heap.size w w' :=
  Any.strings_Join Tryf.lays156 Tryf.Builder_Extra_J bk o c xs sep w hcells hbk hN hcap hlen
end Go.Proofs
