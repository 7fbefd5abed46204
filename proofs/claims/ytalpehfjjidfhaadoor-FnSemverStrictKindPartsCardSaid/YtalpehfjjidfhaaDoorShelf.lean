/-
  THE SHELF's CONTRACTS AT THIS DUMP, of strconv.ParseUint alone (written by the kit's tool, cut down).
-/
import Derived.Ground.MpProg
import Derived.Shelf.Pu.ParseUintPublic10
import Derived.Test.YtalpehfjjidfhaaDoorProg
namespace Go.Proofs
open Go.Shelf
def Tryd.laysPu14_ren : Go.Shelf.Ren := ⟨fun | 14 => 141 | 16 => 167 | 17 => 168 | 19 => 179 | 20 => 180 | 21 => 181 | 22 => 182 | 23 => 183 | 24 => 184 | 25 => 189 | 27 => 190 | 26 => 170 | 28 => 196 | 29 => 199 | 30 => 185 | 31 => 186 | 32 => 187 | 33 => 188 | 35 => 192 | 34 => 191 | 36 => 193 | 37 => 194 | 38 => 195 | 39 => 197 | 40 => 198 | n => n, fun | 9 => 9 | 3 => 3 | 22 => 27 | 24 => 77 | 25 => 127 | 4 => 4 | 34 => 170 | 5 => 5 | 36 => 172 | 37 => 82 | 0 => 0 | 39 => 173 | 21 => 21 | 44 => 186 | 47 => 194 | 50 => 178 | 48 => 176 | 2 => 2 | 52 => 179 | 55 => 182 | 59 => 189 | 60 => 190 | 20 => 20 | 61 => 191 | 65 => 197 | 66 => 198 | 67 => 100 | n => n, fun | 0 => 9 | 1 => 10 | 2 => 11 | 3 => 12 | 4 => 13 | n => n⟩
theorem Tryd.laysPu14 : Go.Proofs.LaysPu.n14 Tryd.prog Tryd.laysPu14_ren := {
  mixed := by kernel_rfl
  f14 := Tryd.func141.trans (congrArg some (by kernel_rfl))
  f16 := Tryd.func167.trans (congrArg some (by kernel_rfl))
  f17 := Tryd.func168.trans (congrArg some (by kernel_rfl))
  f19 := Tryd.func179.trans (congrArg some (by kernel_rfl))
  f20 := Tryd.func180.trans (congrArg some (by kernel_rfl))
  f21 := Tryd.func181.trans (congrArg some (by kernel_rfl))
  f22 := Tryd.func182.trans (congrArg some (by kernel_rfl))
  f23 := Tryd.func183.trans (congrArg some (by kernel_rfl))
  f24 := Tryd.func184.trans (congrArg some (by kernel_rfl))
  f25 := Tryd.func189.trans (congrArg some (by kernel_rfl))
  f26 := Tryd.func170.trans (congrArg some (by kernel_rfl))
  f27 := Tryd.func190.trans (congrArg some (by kernel_rfl))
  f28 := Tryd.func196.trans (congrArg some (by kernel_rfl))
  f29 := Tryd.func199.trans (congrArg some (by kernel_rfl))
  f30 := Tryd.func185.trans (congrArg some (by kernel_rfl))
  f31 := Tryd.func186.trans (congrArg some (by kernel_rfl))
  f32 := Tryd.func187.trans (congrArg some (by kernel_rfl))
  f33 := Tryd.func188.trans (congrArg some (by kernel_rfl))
  f34 := Tryd.func191.trans (congrArg some (by kernel_rfl))
  f35 := Tryd.func192.trans (congrArg some (by kernel_rfl))
  f36 := Tryd.func193.trans (congrArg some (by kernel_rfl))
  f37 := Tryd.func194.trans (congrArg some (by kernel_rfl))
  f38 := Tryd.func195.trans (congrArg some (by kernel_rfl))
  f39 := Tryd.func197.trans (congrArg some (by kernel_rfl))
  f40 := Tryd.func198.trans (congrArg some (by kernel_rfl))
  t0 := Tryd.underlying0
  a0 := Tryd.isAgg0
  z0 := Tryd.sizeOf0
  v0 := Tryd.zeroValue0
  i0 := by kernel_rfl
  t2 := Tryd.underlying2
  a2 := Tryd.isAgg2
  z2 := Tryd.sizeOf2
  v2 := Tryd.zeroValue2
  i2 := by kernel_rfl
  t3 := Tryd.underlying3
  a3 := Tryd.isAgg3
  z3 := Tryd.sizeOf3
  v3 := Tryd.zeroValue3
  i3 := by kernel_rfl
  t4 := Tryd.underlying4
  a4 := Tryd.isAgg4
  z4 := Tryd.sizeOf4
  v4 := Tryd.zeroValue4
  i4 := by kernel_rfl
  t5 := Tryd.underlying5
  a5 := Tryd.isAgg5
  z5 := Tryd.sizeOf5
  v5 := Tryd.zeroValue5
  i5 := by kernel_rfl
  t9 := Tryd.underlying9
  a9 := Tryd.isAgg9
  z9 := Tryd.sizeOf9
  v9 := Tryd.zeroValue9
  i9 := by kernel_rfl
  t20 := Tryd.underlying20
  a20 := Tryd.isAgg20
  z20 := Tryd.sizeOf20
  v20 := Tryd.zeroValue20
  i20 := by kernel_rfl
  t21 := Tryd.underlying21
  a21 := Tryd.isAgg21
  z21 := Tryd.sizeOf21
  v21 := Tryd.zeroValue21
  i21 := by kernel_rfl
  t22 := Tryd.underlying27
  a22 := Tryd.isAgg27
  z22 := Tryd.sizeOf27
  v22 := Tryd.zeroValue27
  i22 := by kernel_rfl
  t24 := Tryd.underlying77
  a24 := Tryd.isAgg77
  z24 := Tryd.sizeOf77
  v24 := Tryd.zeroValue77
  i24 := by kernel_rfl
  t25 := Tryd.underlying127
  a25 := Tryd.isAgg127
  z25 := Tryd.sizeOf127
  v25 := Tryd.zeroValue127
  i25 := by kernel_rfl
  t34 := Tryd.underlying170
  a34 := Tryd.isAgg170
  z34 := Tryd.sizeOf170
  v34 := Tryd.zeroValue170
  i34 := by kernel_rfl
  c34 := by kernel_rfl
  t36 := Tryd.underlying172
  a36 := Tryd.isAgg172
  z36 := Tryd.sizeOf172
  v36 := Tryd.zeroValue172
  i36 := by kernel_rfl
  t37 := Tryd.underlying82
  a37 := Tryd.isAgg82
  z37 := Tryd.sizeOf82
  v37 := Tryd.zeroValue82
  i37 := by kernel_rfl
  t39 := Tryd.underlying173
  a39 := Tryd.isAgg173
  z39 := Tryd.sizeOf173
  v39 := Tryd.zeroValue173
  i39 := by kernel_rfl
  t44 := Tryd.underlying186
  a44 := Tryd.isAgg186
  z44 := Tryd.sizeOf186
  v44 := Tryd.zeroValue186
  i44 := by kernel_rfl
  t47 := Tryd.underlying194
  a47 := Tryd.isAgg194
  z47 := Tryd.sizeOf194
  v47 := Tryd.zeroValue194
  i47 := by kernel_rfl
  t48 := Tryd.underlying176
  a48 := Tryd.isAgg176
  z48 := Tryd.sizeOf176
  v48 := Tryd.zeroValue176
  i48 := by kernel_rfl
  t50 := Tryd.underlying178
  a50 := Tryd.isAgg178
  z50 := Tryd.sizeOf178
  v50 := Tryd.zeroValue178
  i50 := by kernel_rfl
  t52 := Tryd.underlying179
  a52 := Tryd.isAgg179
  z52 := Tryd.sizeOf179
  v52 := Tryd.zeroValue179
  i52 := by kernel_rfl
  t55 := Tryd.underlying182
  a55 := Tryd.isAgg182
  z55 := Tryd.sizeOf182
  v55 := Tryd.zeroValue182
  i55 := by kernel_rfl
  t59 := Tryd.underlying189
  a59 := Tryd.isAgg189
  z59 := Tryd.sizeOf189
  v59 := Tryd.zeroValue189
  i59 := by kernel_rfl
  t60 := Tryd.underlying190
  a60 := Tryd.isAgg190
  z60 := Tryd.sizeOf190
  v60 := Tryd.zeroValue190
  i60 := by kernel_rfl
  t61 := Tryd.underlying191
  a61 := Tryd.isAgg191
  z61 := Tryd.sizeOf191
  t65 := Tryd.underlying197
  a65 := Tryd.isAgg197
  z65 := Tryd.sizeOf197
  v65 := Tryd.zeroValue197
  i65 := by kernel_rfl
  t66 := Tryd.underlying198
  a66 := Tryd.isAgg198
  z66 := Tryd.sizeOf198
  v66 := Tryd.zeroValue198
  i66 := by kernel_rfl
  t67 := Tryd.underlying100
  a67 := Tryd.isAgg100
  z67 := Tryd.sizeOf100
  v67 := Tryd.zeroValue100
  i67 := by kernel_rfl
  g0 := by kernel_rfl
  m0 := by kernel_rfl
  g1 := by kernel_rfl
  m1 := by kernel_rfl
  g2 := by kernel_rfl
  m2 := by kernel_rfl
  g3 := by kernel_rfl
  m3 := by kernel_rfl
  g4 := by kernel_rfl
  m4 := by kernel_rfl }
open Go.RowKit in
/-- strconv.ParseUint(s, 10, 64), AT EVERY STRING THAT SPELLS A uint64 ('Lib.parseUintB 64 s.data.toList = .ok u'): u, AND NO ERROR. (LAID: no walk: one application.) -/
theorem Tryd.strconv_ParseUint_10_at64_ok (s : ByteArray) (hmax : s.size ≤ 9223372036854775806) (u : Nat) (h : Lib.parseUintB 64 s.data.toList = .ok u) (w : World) :
    Calls Tryd.prog 141 #[.string s, .int .i64 10, .int .i64 64] w fun e w' => e = .returned (.tuple #[.int .u64 u, .nilIface]) ∧ (w' = w ∨ w' = Lib.bytesWorld w 5 s) := Any.strconv_ParseUint_10_at64_ok Tryd.laysPu14 s hmax u h w
open Go.RowKit in
/-- strconv.ParseUint(s, 10, 64), AT EVERY STRING THAT IS NO ROW OF DECIMAL DIGITS (a sign is a fault): 0, AND AN ERROR THAT IS NOT nil: a *NumError in a new block N: {Func: "ParseUint", Num: s's bytes, Err: what the variable ErrSyntax holds}. Of what was there nothing has turned. (LAID: no walk: one application.) -/
theorem Tryd.strconv_ParseUint_10_at64_syntax (s : ByteArray) (hlim : s.size ≤ 281474976710656) (h : Lib.parseUintB 64 s.data.toList = Lib.parseUintB 64 []) (ev : Value) (w : World) (hv : w.cell? ⟨9, 0, none⟩ = some ev) (hev : ev = .nilIface ∨ ∃ te pe, ev = .iface te pe) :
    Calls Tryd.prog 141 #[.string s, .int .i64 10, .int .i64 64] w fun e w' => ∃ N, e = .returned (.tuple #[.int .u64 0, .iface 173 (.pointer (some ⟨N, 0, none⟩))]) ∧ w.heap.size ≤ N ∧ w'.heap[N]? = some (.cells #[.string ⟨#[80, 97, 114, 115, 101, 85, 105, 110, 116]⟩, .string s, ev] 186 (0, 0)) ∧ Below w.heap.size w w' := Any.strconv_ParseUint_10_at64_syntax Tryd.laysPu14 s hlim h ev w hv hev
open Go.RowKit in
/-- strconv.ParseUint(s, 10, 64), AT EVERY NUMERAL THAT NO uint64 HOLDS: THE GREATEST uint64, AND AN ERROR THAT IS NOT nil: a *NumError in a new block N: {Func: "ParseUint", Num: s's bytes, Err: what the variable ErrRange holds}. Of what was there nothing has turned. (LAID: no walk: one application.) -/
theorem Tryd.strconv_ParseUint_10_at64_range (s : ByteArray) (hlim : s.size ≤ 281474976710656) (h : Lib.parseUintB 64 s.data.toList = .range) (ev : Value) (w : World) (hv : w.cell? ⟨10, 0, none⟩ = some ev) (hev : ev = .nilIface ∨ ∃ te pe, ev = .iface te pe) :
    Calls Tryd.prog 141 #[.string s, .int .i64 10, .int .i64 64] w fun e w' => ∃ N, e = .returned (.tuple #[.int .u64 18446744073709551615, .iface 173 (.pointer (some ⟨N, 0, none⟩))]) ∧ w.heap.size ≤ N ∧ w'.heap[N]? = some (.cells #[.string ⟨#[80, 97, 114, 115, 101, 85, 105, 110, 116]⟩, .string s, ev] 186 (0, 0)) ∧ Below w.heap.size w w' := Any.strconv_ParseUint_10_at64_range Tryd.laysPu14 s hlim h ev w hv hev
end Go.Proofs
