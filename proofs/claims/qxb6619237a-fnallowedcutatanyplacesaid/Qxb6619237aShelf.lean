/-
  THE SHELF's CONTRACT OF strings.Join AT THIS DUMP: laid by the kit's lay-shelf.mjs and lay-plain.mjs for this program, cut down by hand to what the walks use.
-/
import Derived.Shelf.Strings.OnBuilder
import Derived.Test.Qxb6619237aProg
import Derived.Test.Qxb6619237aPlain
namespace Go.Proofs.Qxb6619237a
open Go.Shelf Go.RowKit
def lays156_ren : Go.Shelf.Ren := ⟨fun | 156 => 16 | 165 => 17 | 166 => 18 | 169 => 19 | 240 => 20 | 241 => 21 | 276 => 22 | 277 => 23 | n => n, fun | 31 => 22 | 9 => 9 | 3 => 3 | 4 => 4 | 0 => 0 | 20 => 20 | 72 => 32 | 76 => 36 | 70 => 29 | 37 => 30 | 75 => 35 | 127 => 39 | 164 => 40 | 5 => 5 | 80 => 38 | n => n, fun | n => n⟩
theorem lays156 : Go.Proofs.Lays.n156 Try.prog lays156_ren := {
  mixed := by kernel_rfl
  f156 := Try.func16.trans (congrArg some (by kernel_rfl))
  f165 := Try.func17.trans (congrArg some (by kernel_rfl))
  f166 := Try.func18.trans (congrArg some (by kernel_rfl))
  f169 := Try.func19.trans (congrArg some (by kernel_rfl))
  f240 := Try.func20.trans (congrArg some (by kernel_rfl))
  f241 := Try.func21.trans (congrArg some (by kernel_rfl))
  f276 := Try.func22.trans (congrArg some (by kernel_rfl))
  f277 := Try.func23.trans (congrArg some (by kernel_rfl))
  t0 := Try.underlying0
  a0 := Try.isAgg0
  z0 := Try.sizeOf0
  v0 := Try.zeroValue0
  t3 := Try.underlying3
  a3 := Try.isAgg3
  z3 := Try.sizeOf3
  v3 := Try.zeroValue3
  t4 := Try.underlying4
  a4 := Try.isAgg4
  z4 := Try.sizeOf4
  v4 := Try.zeroValue4
  t9 := Try.underlying9
  a9 := Try.isAgg9
  z9 := Try.sizeOf9
  v9 := Try.zeroValue9
  t20 := Try.underlying20
  a20 := Try.isAgg20
  z20 := Try.sizeOf20
  v20 := Try.zeroValue20
  t31 := Try.underlying22
  a31 := Try.isAgg22
  z31 := Try.sizeOf22
  v31 := Try.zeroValue22
  t37 := Try.underlying30
  a37 := Try.isAgg30
  z37 := Try.sizeOf30
  v37 := Try.zeroValue30
  t70 := Try.underlying29
  a70 := Try.isAgg29
  z70 := Try.sizeOf29
  v70 := Try.zeroValue29
  t72 := Try.underlying32
  a72 := Try.isAgg32
  z72 := Try.sizeOf32
  v72 := Try.zeroValue32
  t75 := Try.underlying35
  a75 := Try.isAgg35
  z75 := Try.sizeOf35
  v75 := Try.zeroValue35
  t76 := Try.underlying36
  a76 := Try.isAgg36
  z76 := Try.sizeOf36
  v76 := Try.zeroValue36
  t127 := Try.underlying39
  a127 := Try.isAgg39
  z127 := Try.sizeOf39
  v127 := Try.zeroValue39
  t164 := Try.underlying40
  a164 := Try.isAgg40
  z164 := Try.sizeOf40
  v164 := Try.zeroValue40 }
theorem extra156 : Builder.Extra Try.prog lays156_ren := {
  sizeBuilder := by kernel_rfl
  liesBuilder := by kernel_rfl
  t5 := Try.underlying5
  a5 := Try.isAgg5
  z5 := Try.sizeOf5
  v5 := Try.zeroValue5
  infoByte := by kernel_rfl
  cellsByte := by kernel_rfl
  sizeByte := by kernel_rfl
  neB5 := by decide }
open Go.RowKit in
/-- No element: the empty string; the world is as it was. (Whatever the slice's address and capacity: a nil slice too.) (LAID: no walk: one application.) -/
theorem stringsJoin_none (a : Option Addr) (c : Nat) (sep : ByteArray) (w : World) :
    Calls Try.prog 16 #[.slice a 0 c, .string sep] w fun e w' => e = .returned (.string ⟨#[]⟩) ∧ w' = w := Any.strings_Join_none lays156 extra156 a c sep w
open Go.RowKit in
/-- strings.Join: "Join concatenates the elements of its first argument to create a single string. The separator string sep is placed between elements in the resulting string.": HOWEVER MANY ELEMENTS. Below the heap's end the world is as it was. (LAID: no walk: one application.) -/
theorem stringsJoin (bk o c : Nat) (xs : List ByteArray) (sep : ByteArray) (w : World) (hcells : ∀ (j : Nat) x, xs[j]? = some x → w.cell? ⟨bk, o + j, none⟩ = some (.string x)) (hbk : bk < w.heap.size) (hN : xs.length ≤ 140737488355328) (hcap : xs.length ≤ c) (hlen : (Lib.join (xs.map (·.data.toList)) sep.data.toList).length ≤ 140737488355328) :
    Calls Try.prog 16 #[.slice (some ⟨bk, o, none⟩) xs.length c, .string sep] w fun e w' => e = .returned (.string ⟨(Lib.join (xs.map (·.data.toList)) sep.data.toList).toArray⟩) ∧ Below w.heap.size w w' := Any.strings_Join lays156 extra156 bk o c xs sep w hcells hbk hN hcap hlen
end Go.Proofs.Qxb6619237a
