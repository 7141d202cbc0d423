/-
  THE SHELF's CONTRACTS AT THIS DUMP, for the functions on this seat's roads: laid by the kit's lay-shelf.mjs and lay-plain.mjs for this program, cut down by hand to what the walks use.
-/
import Derived.Shelf.Small.Wraps
import Derived.Shelf.Pu.ParseUintPublic10
import Derived.Shelf.Strings.Prefix
import Derived.Test.Qxb6618041aDoorProg
import Derived.Test.Qxb6618041aDoorPlain
namespace Go.Proofs.Qxb6618041aDoor
open Go.Shelf Go.RowKit
def lays104_ren : Go.Shelf.Ren := ⟨fun | 104 => 13 | 211 => 17 | 207 => 21 | n => n, fun | 9 => 9 | 4 => 4 | 24 => 31 | 3 => 3 | n => n, fun | n => n⟩
theorem lays104 : Go.Proofs.Lays.n104 Tryd.prog lays104_ren := {
  mixed := by kernel_rfl
  f104 := Tryd.func13.trans (congrArg some (by kernel_rfl))
  f207 := Tryd.func21.trans (congrArg some (by kernel_rfl))
  f211 := Tryd.func17.trans (congrArg some (by kernel_rfl))
  t3 := Tryd.underlying3
  a3 := Tryd.isAgg3
  z3 := Tryd.sizeOf3
  v3 := Tryd.zeroValue3
  t4 := Tryd.underlying4
  a4 := Tryd.isAgg4
  z4 := Tryd.sizeOf4
  v4 := Tryd.zeroValue4
  t9 := Tryd.underlying9
  a9 := Tryd.isAgg9
  z9 := Tryd.sizeOf9
  v9 := Tryd.zeroValue9
  t24 := Tryd.underlying31
  a24 := Tryd.isAgg31
  z24 := Tryd.sizeOf31
  v24 := Tryd.zeroValue31 }
def laysPu14_ren : Go.Shelf.Ren := ⟨fun | 14 => 15 | 16 => 19 | 17 => 20 | 19 => 22 | 20 => 23 | 21 => 24 | 22 => 25 | 23 => 26 | 24 => 27 | 25 => 28 | 27 => 30 | 26 => 29 | 28 => 31 | 29 => 32 | 30 => 33 | 31 => 34 | 32 => 35 | 33 => 36 | 35 => 38 | 34 => 37 | 36 => 39 | 37 => 40 | 38 => 41 | 39 => 42 | 40 => 43 | n => n, fun | 9 => 9 | 3 => 3 | 22 => 22 | 24 => 35 | 25 => 36 | 4 => 4 | 34 => 39 | 5 => 5 | 36 => 41 | 37 => 28 | 0 => 0 | 39 => 43 | 21 => 21 | 44 => 48 | 47 => 51 | 50 => 54 | 48 => 52 | 2 => 2 | 52 => 56 | 55 => 59 | 59 => 63 | 60 => 64 | 20 => 20 | 61 => 65 | 65 => 69 | 66 => 70 | 67 => 73 | n => n, fun | 0 => 0 | 1 => 1 | 2 => 2 | 3 => 3 | 4 => 4 | n => n⟩
theorem laysPu14 : Go.Proofs.LaysPu.n14 Tryd.prog laysPu14_ren := {
  mixed := by kernel_rfl
  f14 := Tryd.func15.trans (congrArg some (by kernel_rfl))
  f16 := Tryd.func19.trans (congrArg some (by kernel_rfl))
  f17 := Tryd.func20.trans (congrArg some (by kernel_rfl))
  f19 := Tryd.func22.trans (congrArg some (by kernel_rfl))
  f20 := Tryd.func23.trans (congrArg some (by kernel_rfl))
  f21 := Tryd.func24.trans (congrArg some (by kernel_rfl))
  f22 := Tryd.func25.trans (congrArg some (by kernel_rfl))
  f23 := Tryd.func26.trans (congrArg some (by kernel_rfl))
  f24 := Tryd.func27.trans (congrArg some (by kernel_rfl))
  f25 := Tryd.func28.trans (congrArg some (by kernel_rfl))
  f26 := Tryd.func29.trans (congrArg some (by kernel_rfl))
  f27 := Tryd.func30.trans (congrArg some (by kernel_rfl))
  f28 := Tryd.func31.trans (congrArg some (by kernel_rfl))
  f29 := Tryd.func32.trans (congrArg some (by kernel_rfl))
  f30 := Tryd.func33.trans (congrArg some (by kernel_rfl))
  f31 := Tryd.func34.trans (congrArg some (by kernel_rfl))
  f32 := Tryd.func35.trans (congrArg some (by kernel_rfl))
  f33 := Tryd.func36.trans (congrArg some (by kernel_rfl))
  f34 := Tryd.func37.trans (congrArg some (by kernel_rfl))
  f35 := Tryd.func38.trans (congrArg some (by kernel_rfl))
  f36 := Tryd.func39.trans (congrArg some (by kernel_rfl))
  f37 := Tryd.func40.trans (congrArg some (by kernel_rfl))
  f38 := Tryd.func41.trans (congrArg some (by kernel_rfl))
  f39 := Tryd.func42.trans (congrArg some (by kernel_rfl))
  f40 := Tryd.func43.trans (congrArg some (by kernel_rfl))
  t0 := Tryd.underlying0
  a0 := Tryd.isAgg0
  z0 := Tryd.sizeOf0
  v0 := Tryd.zeroValue0
  i0 := by kernel_rfl
  t2 := Tryd.underlying2
  a2 := Tryd.isAgg2
  z2 := Tryd.sizeOf2
  v2 := Tryd.zeroValue2
  i2 := by kernel_rfl
  t3 := Tryd.underlying3
  a3 := Tryd.isAgg3
  z3 := Tryd.sizeOf3
  v3 := Tryd.zeroValue3
  i3 := by kernel_rfl
  t4 := Tryd.underlying4
  a4 := Tryd.isAgg4
  z4 := Tryd.sizeOf4
  v4 := Tryd.zeroValue4
  i4 := by kernel_rfl
  t5 := Tryd.underlying5
  a5 := Tryd.isAgg5
  z5 := Tryd.sizeOf5
  v5 := Tryd.zeroValue5
  i5 := by kernel_rfl
  t9 := Tryd.underlying9
  a9 := Tryd.isAgg9
  z9 := Tryd.sizeOf9
  v9 := Tryd.zeroValue9
  i9 := by kernel_rfl
  t20 := Tryd.underlying20
  a20 := Tryd.isAgg20
  z20 := Tryd.sizeOf20
  v20 := Tryd.zeroValue20
  i20 := by kernel_rfl
  t21 := Tryd.underlying21
  a21 := Tryd.isAgg21
  z21 := Tryd.sizeOf21
  v21 := Tryd.zeroValue21
  i21 := by kernel_rfl
  t22 := Tryd.underlying22
  a22 := Tryd.isAgg22
  z22 := Tryd.sizeOf22
  v22 := Tryd.zeroValue22
  i22 := by kernel_rfl
  t24 := Tryd.underlying35
  a24 := Tryd.isAgg35
  z24 := Tryd.sizeOf35
  v24 := Tryd.zeroValue35
  i24 := by kernel_rfl
  t25 := Tryd.underlying36
  a25 := Tryd.isAgg36
  z25 := Tryd.sizeOf36
  v25 := Tryd.zeroValue36
  i25 := by kernel_rfl
  t34 := Tryd.underlying39
  a34 := Tryd.isAgg39
  z34 := Tryd.sizeOf39
  v34 := Tryd.zeroValue39
  i34 := by kernel_rfl
  c34 := by kernel_rfl
  t36 := Tryd.underlying41
  a36 := Tryd.isAgg41
  z36 := Tryd.sizeOf41
  v36 := Tryd.zeroValue41
  i36 := by kernel_rfl
  t37 := Tryd.underlying28
  a37 := Tryd.isAgg28
  z37 := Tryd.sizeOf28
  v37 := Tryd.zeroValue28
  i37 := by kernel_rfl
  t39 := Tryd.underlying43
  a39 := Tryd.isAgg43
  z39 := Tryd.sizeOf43
  v39 := Tryd.zeroValue43
  i39 := by kernel_rfl
  t44 := Tryd.underlying48
  a44 := Tryd.isAgg48
  z44 := Tryd.sizeOf48
  v44 := Tryd.zeroValue48
  i44 := by kernel_rfl
  t47 := Tryd.underlying51
  a47 := Tryd.isAgg51
  z47 := Tryd.sizeOf51
  v47 := Tryd.zeroValue51
  i47 := by kernel_rfl
  t48 := Tryd.underlying52
  a48 := Tryd.isAgg52
  z48 := Tryd.sizeOf52
  v48 := Tryd.zeroValue52
  i48 := by kernel_rfl
  t50 := Tryd.underlying54
  a50 := Tryd.isAgg54
  z50 := Tryd.sizeOf54
  v50 := Tryd.zeroValue54
  i50 := by kernel_rfl
  t52 := Tryd.underlying56
  a52 := Tryd.isAgg56
  z52 := Tryd.sizeOf56
  v52 := Tryd.zeroValue56
  i52 := by kernel_rfl
  t55 := Tryd.underlying59
  a55 := Tryd.isAgg59
  z55 := Tryd.sizeOf59
  v55 := Tryd.zeroValue59
  i55 := by kernel_rfl
  t59 := Tryd.underlying63
  a59 := Tryd.isAgg63
  z59 := Tryd.sizeOf63
  v59 := Tryd.zeroValue63
  i59 := by kernel_rfl
  t60 := Tryd.underlying64
  a60 := Tryd.isAgg64
  z60 := Tryd.sizeOf64
  v60 := Tryd.zeroValue64
  i60 := by kernel_rfl
  t61 := Tryd.underlying65
  a61 := Tryd.isAgg65
  z61 := Tryd.sizeOf65
  t65 := Tryd.underlying69
  a65 := Tryd.isAgg69
  z65 := Tryd.sizeOf69
  v65 := Tryd.zeroValue69
  i65 := by kernel_rfl
  t66 := Tryd.underlying70
  a66 := Tryd.isAgg70
  z66 := Tryd.sizeOf70
  v66 := Tryd.zeroValue70
  i66 := by kernel_rfl
  t67 := Tryd.underlying73
  a67 := Tryd.isAgg73
  z67 := Tryd.sizeOf73
  v67 := Tryd.zeroValue73
  i67 := by kernel_rfl
  g0 := by kernel_rfl
  m0 := by kernel_rfl
  g1 := by kernel_rfl
  m1 := by kernel_rfl
  g2 := by kernel_rfl
  m2 := by kernel_rfl
  g3 := by kernel_rfl
  m3 := by kernel_rfl
  g4 := by kernel_rfl
  m4 := by kernel_rfl }
def lays99_ren : Go.Shelf.Ren := ⟨fun | 99 => 12 | 206 => 16 | n => n, fun | 9 => 9 | 4 => 4 | 3 => 3 | n => n, fun | n => n⟩
theorem lays99 : Go.Proofs.Lays.n99 Tryd.prog lays99_ren := {
  mixed := by kernel_rfl
  f99 := Tryd.func12.trans (congrArg some (by kernel_rfl))
  f206 := Tryd.func16.trans (congrArg some (by kernel_rfl))
  t3 := Tryd.underlying3
  a3 := Tryd.isAgg3
  z3 := Tryd.sizeOf3
  v3 := Tryd.zeroValue3
  t4 := Tryd.underlying4
  a4 := Tryd.isAgg4
  z4 := Tryd.sizeOf4
  v4 := Tryd.zeroValue4
  t9 := Tryd.underlying9
  a9 := Tryd.isAgg9
  z9 := Tryd.sizeOf9
  v9 := Tryd.zeroValue9 }
def lays101_ren : Go.Shelf.Ren := ⟨fun | 101 => 14 | 208 => 18 | 206 => 16 | n => n, fun | 9 => 9 | 4 => 4 | 3 => 3 | n => n, fun | n => n⟩
theorem lays101 : Go.Proofs.Lays.n101 Tryd.prog lays101_ren := {
  mixed := by kernel_rfl
  f101 := Tryd.func14.trans (congrArg some (by kernel_rfl))
  f206 := Tryd.func16.trans (congrArg some (by kernel_rfl))
  f208 := Tryd.func18.trans (congrArg some (by kernel_rfl))
  t3 := Tryd.underlying3
  a3 := Tryd.isAgg3
  z3 := Tryd.sizeOf3
  v3 := Tryd.zeroValue3
  t4 := Tryd.underlying4
  a4 := Tryd.isAgg4
  z4 := Tryd.sizeOf4
  v4 := Tryd.zeroValue4
  t9 := Tryd.underlying9
  a9 := Tryd.isAgg9
  z9 := Tryd.sizeOf9
  v9 := Tryd.zeroValue9 }
theorem cutSuffix (s p : ByteArray) (w : World) (hs : s.size ≤ 9223372036854775807) :
    Calls Tryd.prog 13 #[.string s, .string p] w fun e w' => e = .returned (.tuple #[.string ⟨(Lib.trimSuffix s.data.toList p.data.toList).toArray⟩, .bool (Lib.hasSuffix s.data.toList p.data.toList)]) ∧ w' = w := Any.strings_CutSuffix lays104 s p w hs
theorem parseUint_ok (s : ByteArray) (hmax : s.size ≤ 9223372036854775806) (u : Nat) (h : Lib.parseUintB 64 s.data.toList = .ok u) (w : World) :
    Calls Tryd.prog 15 #[.string s, .int .i64 10, .int .i64 64] w fun e w' => e = .returned (.tuple #[.int .u64 u, .nilIface]) ∧ (w' = w ∨ w' = Lib.bytesWorld w 5 s) := Any.strconv_ParseUint_10_at64_ok laysPu14 s hmax u h w
theorem parseUint_bad (s : ByteArray) (hlim : s.size ≤ 281474976710656) (h : Lib.parseUintB 64 s.data.toList = Jn.bad) (ev : Value) (w : World) (hv : w.cell? ⟨0, 0, none⟩ = some ev) (hev : ev = .nilIface ∨ ∃ te pe, ev = .iface te pe) :
    Calls Tryd.prog 15 #[.string s, .int .i64 10, .int .i64 64] w fun e w' => ∃ N, e = .returned (.tuple #[.int .u64 0, .iface 43 (.pointer (some ⟨N, 0, none⟩))]) ∧ w.heap.size ≤ N ∧ w'.heap[N]? = some (.cells #[.string ⟨#[80, 97, 114, 115, 101, 85, 105, 110, 116]⟩, .string s, ev] 48 (0, 0)) ∧ Below w.heap.size w w' := Any.strconv_ParseUint_10_at64_syntax laysPu14 s hlim h ev w hv hev
theorem parseUint_range (s : ByteArray) (hlim : s.size ≤ 281474976710656) (h : Lib.parseUintB 64 s.data.toList = .range) (ev : Value) (w : World) (hv : w.cell? ⟨1, 0, none⟩ = some ev) (hev : ev = .nilIface ∨ ∃ te pe, ev = .iface te pe) :
    Calls Tryd.prog 15 #[.string s, .int .i64 10, .int .i64 64] w fun e w' => ∃ N, e = .returned (.tuple #[.int .u64 18446744073709551615, .iface 43 (.pointer (some ⟨N, 0, none⟩))]) ∧ w.heap.size ≤ N ∧ w'.heap[N]? = some (.cells #[.string ⟨#[80, 97, 114, 115, 101, 85, 105, 110, 116]⟩, .string s, ev] 48 (0, 0)) ∧ Below w.heap.size w w' := Any.strconv_ParseUint_10_at64_range laysPu14 s hlim h ev w hv hev
theorem hasPrefix (s p : ByteArray) (w : World) :
    Calls Tryd.prog 12 #[.string s, .string p] w fun e w' => e = .returned (.bool (Lib.hasPrefix s.data.toList p.data.toList)) ∧ w' = w := Any.strings_HasPrefix lays99 s p w
theorem trimPrefix (s p : ByteArray) (w : World) :
    Calls Tryd.prog 14 #[.string s, .string p] w fun e w' => e = .returned (.string ⟨(Lib.trimPrefix s.data.toList p.data.toList).toArray⟩) ∧ w' = w := Any.strings_TrimPrefix lays101 s p w

end Go.Proofs.Qxb6618041aDoor
