/- The shelf's contract of strings.Join at this dump, laid by the kit's tool in plain words. -/
import Derived.Shelf.Strings.Builder1
import Derived.Shelf.Strings.Builder2
import Derived.Shelf.Strings.OnBuilder
import Derived.Test.Qxb6604511aFmtProg
namespace Go.Proofs
open Go.Shelf
def Tryf.lays156_ren : Go.Shelf.Ren := ⟨fun | 156 => 22 | 165 => 25 | 166 => 26 | 169 => 27 | 240 => 29 | 241 => 30 | 276 => 31 | 277 => 32 | n => n, fun | 31 => 22 | 9 => 9 | 3 => 3 | 4 => 4 | 0 => 0 | 20 => 20 | 72 => 50 | 76 => 54 | 70 => 48 | 37 => 45 | 75 => 53 | 127 => 58 | 164 => 59 | 5 => 5 | 80 => 56 | n => n, fun | n => n⟩
theorem Tryf.lays156 : Go.Proofs.Lays.n156 Tryf.prog Tryf.lays156_ren := {
  mixed := by kernel_rfl
  f156 := Tryf.func22.trans (congrArg some (by kernel_rfl))
  f165 := Tryf.func25.trans (congrArg some (by kernel_rfl))
  f166 := Tryf.func26.trans (congrArg some (by kernel_rfl))
  f169 := Tryf.func27.trans (congrArg some (by kernel_rfl))
  f240 := Tryf.func29.trans (congrArg some (by kernel_rfl))
  f241 := Tryf.func30.trans (congrArg some (by kernel_rfl))
  f276 := Tryf.func31.trans (congrArg some (by kernel_rfl))
  f277 := Tryf.func32.trans (congrArg some (by kernel_rfl))
  t0 := Tryf.underlying0
  a0 := Tryf.isAgg0
  z0 := Tryf.sizeOf0
  v0 := Tryf.zeroValue0
  t3 := Tryf.underlying3
  a3 := Tryf.isAgg3
  z3 := Tryf.sizeOf3
  v3 := Tryf.zeroValue3
  t4 := Tryf.underlying4
  a4 := Tryf.isAgg4
  z4 := Tryf.sizeOf4
  v4 := Tryf.zeroValue4
  t9 := Tryf.underlying9
  a9 := Tryf.isAgg9
  z9 := Tryf.sizeOf9
  v9 := Tryf.zeroValue9
  t20 := Tryf.underlying20
  a20 := Tryf.isAgg20
  z20 := Tryf.sizeOf20
  v20 := Tryf.zeroValue20
  t31 := Tryf.underlying22
  a31 := Tryf.isAgg22
  z31 := Tryf.sizeOf22
  v31 := Tryf.zeroValue22
  t37 := Tryf.underlying45
  a37 := Tryf.isAgg45
  z37 := Tryf.sizeOf45
  v37 := Tryf.zeroValue45
  t70 := Tryf.underlying48
  a70 := Tryf.isAgg48
  z70 := Tryf.sizeOf48
  v70 := Tryf.zeroValue48
  t72 := Tryf.underlying50
  a72 := Tryf.isAgg50
  z72 := Tryf.sizeOf50
  v72 := Tryf.zeroValue50
  t75 := Tryf.underlying53
  a75 := Tryf.isAgg53
  z75 := Tryf.sizeOf53
  v75 := Tryf.zeroValue53
  t76 := Tryf.underlying54
  a76 := Tryf.isAgg54
  z76 := Tryf.sizeOf54
  v76 := Tryf.zeroValue54
  t127 := Tryf.underlying58
  a127 := Tryf.isAgg58
  z127 := Tryf.sizeOf58
  v127 := Tryf.zeroValue58
  t164 := Tryf.underlying59
  a164 := Tryf.isAgg59
  z164 := Tryf.sizeOf59
  v164 := Tryf.zeroValue59 }
theorem Tryf.Builder_Extra_156 : Builder.Extra Tryf.prog Tryf.lays156_ren := {
  sizeBuilder := by kernel_rfl
  liesBuilder := by kernel_rfl
  t5 := Tryf.underlying5
  a5 := Tryf.isAgg5
  z5 := Tryf.sizeOf5
  v5 := Tryf.zeroValue5
  infoByte := by kernel_rfl
  cellsByte := by kernel_rfl
  sizeByte := by kernel_rfl
  neB5 := by decide }
open Go.RowKit in
theorem Tryf.strings_Join_none (a : Option Addr) (c : Nat) (sep : ByteArray) (w : World) :
    Calls Tryf.prog 22 #[.slice a 0 c, .string sep] w fun e w' => e = .returned (.string ⟨#[]⟩) ∧ w' = w := Any.strings_Join_none Tryf.lays156 Tryf.Builder_Extra_156 a c sep w
open Go.RowKit in
theorem Tryf.strings_Join (bk o c : Nat) (xs : List ByteArray) (sep : ByteArray) (w : World) (hcells : ∀ (j : Nat) x, xs[j]? = some x → w.cell? ⟨bk, o + j, none⟩ = some (.string x)) (hbk : bk < w.heap.size) (hN : xs.length ≤ 140737488355328) (hcap : xs.length ≤ c) (hlen : (Lib.join (xs.map (·.data.toList)) sep.data.toList).length ≤ 140737488355328) :
    Calls Tryf.prog 22 #[.slice (some ⟨bk, o, none⟩) xs.length c, .string sep] w fun e w' => e = .returned (.string ⟨(Lib.join (xs.map (·.data.toList)) sep.data.toList).toArray⟩) ∧ Below w.heap.size w w' := Any.strings_Join Tryf.lays156 Tryf.Builder_Extra_156 bk o c xs sep w hcells hbk hN hcap hlen
end Go.Proofs
