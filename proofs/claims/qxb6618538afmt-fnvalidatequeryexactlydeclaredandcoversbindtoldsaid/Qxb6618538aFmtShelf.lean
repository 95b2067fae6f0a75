/-
  strings.Join's contract at this dump, in plain words (written by the kit's tools lay-shelf.mjs and lay-plain.mjs; the layings that this seat's proof does not use are struck).
-/
import Derived.Shelf.Strings.OnBuilder
import Derived.Test.Qxb6618538aFmtProg
namespace Go.Proofs
open Go.Shelf
def Tryf.lays156_ren : Go.Shelf.Ren := ⟨fun | 156 => 26 | 165 => 29 | 166 => 30 | 169 => 31 | 240 => 32 | 241 => 33 | 276 => 34 | 277 => 35 | n => n, fun | 31 => 72 | 9 => 9 | 3 => 3 | 4 => 4 | 0 => 0 | 20 => 20 | 72 => 81 | 76 => 83 | 70 => 78 | 37 => 79 | 75 => 37 | 127 => 88 | 164 => 89 | 5 => 5 | 80 => 73 | n => n, fun | n => n⟩
theorem Tryf.lays156 : Go.Proofs.Lays.n156 Tryf.prog Tryf.lays156_ren := {
  mixed := by kernel_rfl
  f156 := Tryf.func26.trans (congrArg some (by kernel_rfl))
  f165 := Tryf.func29.trans (congrArg some (by kernel_rfl))
  f166 := Tryf.func30.trans (congrArg some (by kernel_rfl))
  f169 := Tryf.func31.trans (congrArg some (by kernel_rfl))
  f240 := Tryf.func32.trans (congrArg some (by kernel_rfl))
  f241 := Tryf.func33.trans (congrArg some (by kernel_rfl))
  f276 := Tryf.func34.trans (congrArg some (by kernel_rfl))
  f277 := Tryf.func35.trans (congrArg some (by kernel_rfl))
  t0 := Tryf.underlying0
  a0 := Tryf.isAgg0
  z0 := Tryf.sizeOf0
  v0 := Tryf.zeroValue0
  t3 := Tryf.underlying3
  a3 := Tryf.isAgg3
  z3 := Tryf.sizeOf3
  v3 := Tryf.zeroValue3
  t4 := Tryf.underlying4
  a4 := Tryf.isAgg4
  z4 := Tryf.sizeOf4
  v4 := Tryf.zeroValue4
  t9 := Tryf.underlying9
  a9 := Tryf.isAgg9
  z9 := Tryf.sizeOf9
  v9 := Tryf.zeroValue9
  t20 := Tryf.underlying20
  a20 := Tryf.isAgg20
  z20 := Tryf.sizeOf20
  v20 := Tryf.zeroValue20
  t31 := Tryf.underlying72
  a31 := Tryf.isAgg72
  z31 := Tryf.sizeOf72
  v31 := Tryf.zeroValue72
  t37 := Tryf.underlying79
  a37 := Tryf.isAgg79
  z37 := Tryf.sizeOf79
  v37 := Tryf.zeroValue79
  t70 := Tryf.underlying78
  a70 := Tryf.isAgg78
  z70 := Tryf.sizeOf78
  v70 := Tryf.zeroValue78
  t72 := Tryf.underlying81
  a72 := Tryf.isAgg81
  z72 := Tryf.sizeOf81
  v72 := Tryf.zeroValue81
  t75 := Tryf.underlying37
  a75 := Tryf.isAgg37
  z75 := Tryf.sizeOf37
  v75 := Tryf.zeroValue37
  t76 := Tryf.underlying83
  a76 := Tryf.isAgg83
  z76 := Tryf.sizeOf83
  v76 := Tryf.zeroValue83
  t127 := Tryf.underlying88
  a127 := Tryf.isAgg88
  z127 := Tryf.sizeOf88
  v127 := Tryf.zeroValue88
  t164 := Tryf.underlying89
  a164 := Tryf.isAgg89
  z164 := Tryf.sizeOf89
  v164 := Tryf.zeroValue89 }
theorem Tryf.Builder_Extra_156 : Builder.Extra Tryf.prog Tryf.lays156_ren := {
  sizeBuilder := by kernel_rfl
  liesBuilder := by kernel_rfl
  t5 := Tryf.underlying5
  a5 := Tryf.isAgg5
  z5 := Tryf.sizeOf5
  v5 := Tryf.zeroValue5
  infoByte := by kernel_rfl
  cellsByte := by kernel_rfl
  sizeByte := by kernel_rfl
  neB5 := by decide }
open Go.RowKit in
/-- No element: the empty string; the world is as it was. (Whatever the slice's address and capacity: a nil slice too.) (LAID: no walk: one application.) -/
theorem Tryf.strings_Join_none (a : Option Addr) (c : Nat) (sep : ByteArray) (w : World) :
    Calls Tryf.prog 26 #[.slice a 0 c, .string sep] w fun e w' => e = .returned (.string ⟨#[]⟩) ∧ w' = w := Any.strings_Join_none Tryf.lays156 Tryf.Builder_Extra_156 a c sep w
open Go.RowKit in
/-- strings.Join: "Join concatenates the elements of its first argument to create a single string. The separator string sep is placed between elements in the resulting string.": HOWEVER MANY ELEMENTS. Below the heap's end the world is as it was. (LAID: no walk: one application.) -/
theorem Tryf.strings_Join (bk o c : Nat) (xs : List ByteArray) (sep : ByteArray) (w : World) (hcells : ∀ (j : Nat) x, xs[j]? = some x → w.cell? ⟨bk, o + j, none⟩ = some (.string x)) (hbk : bk < w.heap.size) (hN : xs.length ≤ 140737488355328) (hcap : xs.length ≤ c) (hlen : (Lib.join (xs.map (·.data.toList)) sep.data.toList).length ≤ 140737488355328) :
    Calls Tryf.prog 26 #[.slice (some ⟨bk, o, none⟩) xs.length c, .string sep] w fun e w' => e = .returned (.string ⟨(Lib.join (xs.map (·.data.toList)) sep.data.toList).toArray⟩) ∧ Below w.heap.size w w' := Any.strings_Join Tryf.lays156 Tryf.Builder_Extra_156 bk o c xs sep w hcells hbk hN hcap hlen
end Go.Proofs
