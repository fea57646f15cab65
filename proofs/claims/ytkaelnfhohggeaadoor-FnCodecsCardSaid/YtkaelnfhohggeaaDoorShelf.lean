/- Contracts of the library at this dump, cut by program (wip/shelfcut.py) out of the text that the kit's tools lay-shelf.mjs and lay-plain.mjs wrote for it. -/
import Derived.Shelf.Pu.ParseUintPublic10
import Derived.Shelf.Strings.Prefix
import Derived.Test.YtkaelnfhohggeaaDoorProg
namespace Go.Proofs
open Go.Shelf
def Tryd.laysPu14_ren : Go.Shelf.Ren := ⟨fun | 14 => 29 | 16 => 38 | 17 => 39 | 19 => 48 | 20 => 49 | 21 => 50 | 22 => 51 | 23 => 52 | 24 => 53 | 25 => 57 | 27 => 59 | 26 => 58 | 28 => 60 | 29 => 61 | 30 => 62 | 31 => 63 | 32 => 64 | 33 => 65 | 35 => 67 | 34 => 66 | 36 => 68 | 37 => 69 | 38 => 70 | 39 => 71 | 40 => 72 | n => n, fun | 9 => 9 | 3 => 3 | 22 => 85 | 24 => 50 | 25 => 98 | 4 => 4 | 34 => 121 | 5 => 5 | 36 => 123 | 37 => 46 | 0 => 0 | 39 => 124 | 21 => 21 | 44 => 131 | 47 => 133 | 50 => 136 | 48 => 134 | 2 => 2 | 52 => 138 | 55 => 141 | 59 => 145 | 60 => 55 | 20 => 20 | 61 => 146 | 65 => 150 | 66 => 151 | 67 => 106 | n => n, fun | 0 => 3 | 1 => 4 | 2 => 5 | 3 => 6 | 4 => 7 | n => n⟩
theorem Tryd.laysPu14 : Go.Proofs.LaysPu.n14 Tryd.prog Tryd.laysPu14_ren := {
  mixed := by kernel_rfl
  f14 := Tryd.func29.trans (congrArg some (by kernel_rfl))
  f16 := Tryd.func38.trans (congrArg some (by kernel_rfl))
  f17 := Tryd.func39.trans (congrArg some (by kernel_rfl))
  f19 := Tryd.func48.trans (congrArg some (by kernel_rfl))
  f20 := Tryd.func49.trans (congrArg some (by kernel_rfl))
  f21 := Tryd.func50.trans (congrArg some (by kernel_rfl))
  f22 := Tryd.func51.trans (congrArg some (by kernel_rfl))
  f23 := Tryd.func52.trans (congrArg some (by kernel_rfl))
  f24 := Tryd.func53.trans (congrArg some (by kernel_rfl))
  f25 := Tryd.func57.trans (congrArg some (by kernel_rfl))
  f26 := Tryd.func58.trans (congrArg some (by kernel_rfl))
  f27 := Tryd.func59.trans (congrArg some (by kernel_rfl))
  f28 := Tryd.func60.trans (congrArg some (by kernel_rfl))
  f29 := Tryd.func61.trans (congrArg some (by kernel_rfl))
  f30 := Tryd.func62.trans (congrArg some (by kernel_rfl))
  f31 := Tryd.func63.trans (congrArg some (by kernel_rfl))
  f32 := Tryd.func64.trans (congrArg some (by kernel_rfl))
  f33 := Tryd.func65.trans (congrArg some (by kernel_rfl))
  f34 := Tryd.func66.trans (congrArg some (by kernel_rfl))
  f35 := Tryd.func67.trans (congrArg some (by kernel_rfl))
  f36 := Tryd.func68.trans (congrArg some (by kernel_rfl))
  f37 := Tryd.func69.trans (congrArg some (by kernel_rfl))
  f38 := Tryd.func70.trans (congrArg some (by kernel_rfl))
  f39 := Tryd.func71.trans (congrArg some (by kernel_rfl))
  f40 := Tryd.func72.trans (congrArg some (by kernel_rfl))
  t0 := Tryd.underlying0
  a0 := Tryd.isAgg0
  z0 := Tryd.sizeOf0
  v0 := Tryd.zeroValue0
  i0 := by kernel_rfl
  t2 := Tryd.underlying2
  a2 := Tryd.isAgg2
  z2 := Tryd.sizeOf2
  v2 := Tryd.zeroValue2
  i2 := by kernel_rfl
  t3 := Tryd.underlying3
  a3 := Tryd.isAgg3
  z3 := Tryd.sizeOf3
  v3 := Tryd.zeroValue3
  i3 := by kernel_rfl
  t4 := Tryd.underlying4
  a4 := Tryd.isAgg4
  z4 := Tryd.sizeOf4
  v4 := Tryd.zeroValue4
  i4 := by kernel_rfl
  t5 := Tryd.underlying5
  a5 := Tryd.isAgg5
  z5 := Tryd.sizeOf5
  v5 := Tryd.zeroValue5
  i5 := by kernel_rfl
  t9 := Tryd.underlying9
  a9 := Tryd.isAgg9
  z9 := Tryd.sizeOf9
  v9 := Tryd.zeroValue9
  i9 := by kernel_rfl
  t20 := Tryd.underlying20
  a20 := Tryd.isAgg20
  z20 := Tryd.sizeOf20
  v20 := Tryd.zeroValue20
  i20 := by kernel_rfl
  t21 := Tryd.underlying21
  a21 := Tryd.isAgg21
  z21 := Tryd.sizeOf21
  v21 := Tryd.zeroValue21
  i21 := by kernel_rfl
  t22 := Tryd.underlying85
  a22 := Tryd.isAgg85
  z22 := Tryd.sizeOf85
  v22 := Tryd.zeroValue85
  i22 := by kernel_rfl
  t24 := Tryd.underlying50
  a24 := Tryd.isAgg50
  z24 := Tryd.sizeOf50
  v24 := Tryd.zeroValue50
  i24 := by kernel_rfl
  t25 := Tryd.underlying98
  a25 := Tryd.isAgg98
  z25 := Tryd.sizeOf98
  v25 := Tryd.zeroValue98
  i25 := by kernel_rfl
  t34 := Tryd.underlying121
  a34 := Tryd.isAgg121
  z34 := Tryd.sizeOf121
  v34 := Tryd.zeroValue121
  i34 := by kernel_rfl
  c34 := by kernel_rfl
  t36 := Tryd.underlying123
  a36 := Tryd.isAgg123
  z36 := Tryd.sizeOf123
  v36 := Tryd.zeroValue123
  i36 := by kernel_rfl
  t37 := Tryd.underlying46
  a37 := Tryd.isAgg46
  z37 := Tryd.sizeOf46
  v37 := Tryd.zeroValue46
  i37 := by kernel_rfl
  t39 := Tryd.underlying124
  a39 := Tryd.isAgg124
  z39 := Tryd.sizeOf124
  v39 := Tryd.zeroValue124
  i39 := by kernel_rfl
  t44 := Tryd.underlying131
  a44 := Tryd.isAgg131
  z44 := Tryd.sizeOf131
  v44 := Tryd.zeroValue131
  i44 := by kernel_rfl
  t47 := Tryd.underlying133
  a47 := Tryd.isAgg133
  z47 := Tryd.sizeOf133
  v47 := Tryd.zeroValue133
  i47 := by kernel_rfl
  t48 := Tryd.underlying134
  a48 := Tryd.isAgg134
  z48 := Tryd.sizeOf134
  v48 := Tryd.zeroValue134
  i48 := by kernel_rfl
  t50 := Tryd.underlying136
  a50 := Tryd.isAgg136
  z50 := Tryd.sizeOf136
  v50 := Tryd.zeroValue136
  i50 := by kernel_rfl
  t52 := Tryd.underlying138
  a52 := Tryd.isAgg138
  z52 := Tryd.sizeOf138
  v52 := Tryd.zeroValue138
  i52 := by kernel_rfl
  t55 := Tryd.underlying141
  a55 := Tryd.isAgg141
  z55 := Tryd.sizeOf141
  v55 := Tryd.zeroValue141
  i55 := by kernel_rfl
  t59 := Tryd.underlying145
  a59 := Tryd.isAgg145
  z59 := Tryd.sizeOf145
  v59 := Tryd.zeroValue145
  i59 := by kernel_rfl
  t60 := Tryd.underlying55
  a60 := Tryd.isAgg55
  z60 := Tryd.sizeOf55
  v60 := Tryd.zeroValue55
  i60 := by kernel_rfl
  t61 := Tryd.underlying146
  a61 := Tryd.isAgg146
  z61 := Tryd.sizeOf146
  t65 := Tryd.underlying150
  a65 := Tryd.isAgg150
  z65 := Tryd.sizeOf150
  v65 := Tryd.zeroValue150
  i65 := by kernel_rfl
  t66 := Tryd.underlying151
  a66 := Tryd.isAgg151
  z66 := Tryd.sizeOf151
  v66 := Tryd.zeroValue151
  i66 := by kernel_rfl
  t67 := Tryd.underlying106
  a67 := Tryd.isAgg106
  z67 := Tryd.sizeOf106
  v67 := Tryd.zeroValue106
  i67 := by kernel_rfl
  g0 := by kernel_rfl
  m0 := by kernel_rfl
  g1 := by kernel_rfl
  m1 := by kernel_rfl
  g2 := by kernel_rfl
  m2 := by kernel_rfl
  g3 := by kernel_rfl
  m3 := by kernel_rfl
  g4 := by kernel_rfl
  m4 := by kernel_rfl }
open Go.RowKit in
theorem Tryd.strconv_ParseUint_10_at32_ok (s : ByteArray) (hmax : s.size ≤ 9223372036854775806) (u : Nat) (h : Lib.parseUintB 32 s.data.toList = .ok u) (w : World) :
    Calls Tryd.prog 29 #[.string s, .int .i64 10, .int .i64 32] w fun e w' => e = .returned (.tuple #[.int .u64 u, .nilIface]) ∧ (w' = w ∨ w' = Lib.bytesWorld w 5 s) := Any.strconv_ParseUint_10_at32_ok Tryd.laysPu14 s hmax u h w
open Go.RowKit in
theorem Tryd.strconv_ParseUint_10_at16_ok (s : ByteArray) (hmax : s.size ≤ 9223372036854775806) (u : Nat) (h : Lib.parseUintB 16 s.data.toList = .ok u) (w : World) :
    Calls Tryd.prog 29 #[.string s, .int .i64 10, .int .i64 16] w fun e w' => e = .returned (.tuple #[.int .u64 u, .nilIface]) ∧ (w' = w ∨ w' = Lib.bytesWorld w 5 s) := Any.strconv_ParseUint_10_at16_ok Tryd.laysPu14 s hmax u h w
open Go.RowKit in
theorem Tryd.strconv_ParseUint_10_at16_empty (ev : Value) (w : World) (hv : w.cell? ⟨3, 0, none⟩ = some ev) (hev : ev = .nilIface ∨ ∃ te pe, ev = .iface te pe) :
    Calls Tryd.prog 29 #[.string ⟨#[]⟩, .int .i64 10, .int .i64 16] w fun e w' => ∃ N, e = .returned (.tuple #[.int .u64 0, .iface 124 (.pointer (some ⟨N, 0, none⟩))]) ∧ w.heap.size ≤ N ∧ w'.heap[N]? = some (.cells #[.string ⟨#[80, 97, 114, 115, 101, 85, 105, 110, 116]⟩, .string ⟨#[]⟩, ev] 131 (0, 0)) ∧ Below w.heap.size w w' := Any.strconv_ParseUint_10_at16_syntax Tryd.laysPu14 ⟨#[]⟩ (by decide) (by decide) ev w hv hev
open Go.RowKit in
theorem Tryd.strconv_ParseUint_10_at8_ok (s : ByteArray) (hmax : s.size ≤ 9223372036854775806) (u : Nat) (h : Lib.parseUintB 8 s.data.toList = .ok u) (w : World) :
    Calls Tryd.prog 29 #[.string s, .int .i64 10, .int .i64 8] w fun e w' => e = .returned (.tuple #[.int .u64 u, .nilIface]) ∧ (w' = w ∨ w' = Lib.bytesWorld w 5 s) := Any.strconv_ParseUint_10_at8_ok Tryd.laysPu14 s hmax u h w
def Tryd.lays99_ren : Go.Shelf.Ren := ⟨fun | 99 => 32 | 206 => 44 | n => n, fun | 9 => 9 | 4 => 4 | 3 => 3 | n => n, fun | n => n⟩
theorem Tryd.lays99 : Go.Proofs.Lays.n99 Tryd.prog Tryd.lays99_ren := {
  mixed := by kernel_rfl
  f99 := Tryd.func32.trans (congrArg some (by kernel_rfl))
  f206 := Tryd.func44.trans (congrArg some (by kernel_rfl))
  t3 := Tryd.underlying3
  a3 := Tryd.isAgg3
  z3 := Tryd.sizeOf3
  v3 := Tryd.zeroValue3
  t4 := Tryd.underlying4
  a4 := Tryd.isAgg4
  z4 := Tryd.sizeOf4
  v4 := Tryd.zeroValue4
  t9 := Tryd.underlying9
  a9 := Tryd.isAgg9
  z9 := Tryd.sizeOf9
  v9 := Tryd.zeroValue9 }
open Go.RowKit Go.Lib in
theorem Tryd.strings_HasPrefix (s p : ByteArray) (w : World) :
    Calls Tryd.prog 32 #[.string s, .string p] w fun e w' => e = .returned (.bool (Lib.hasPrefix s.data.toList p.data.toList)) ∧ w' = w := Any.strings_HasPrefix Tryd.lays99 s p w
end Go.Proofs
