/-
  The shelf's contracts that this proof takes, at this dump, in plain words: written by the kit's own tools (lay-shelf.mjs, lay-plain.mjs); what is not used is left out.
-/
import Derived.Shelf.Strconv.ToError
import Derived.Shelf.Strconv.ToErrorRange
import Derived.Shelf.Strings.LastIndex
import Derived.Shelf.Strings.LastIndexAll
import Derived.Test.Qxb6617422aDoorProg
namespace Go.Proofs
open Go.Shelf
def Tryd.laysC245_ren : Go.Shelf.Ren := ⟨fun | 245 => 18 | 279 => 22 | 280 => 23 | 281 => 24 | 282 => 25 | 316 => 26 | 171 => 28 | 205 => 27 | 243 => 29 | 246 => 30 | 283 => 31 | 284 => 32 | 285 => 33 | 286 => 34 | 129 => 36 | 317 => 35 | 318 => 37 | 319 => 38 | 320 => 39 | 337 => 40 | 338 => 41 | n => n, fun | 9 => 9 | 3 => 3 | 75 => 35 | 167 => 41 | 4 => 4 | 168 => 45 | 210 => 50 | 37 => 31 | 0 => 0 | 127 => 53 | 145 => 56 | 143 => 54 | 2 => 2 | 171 => 58 | 53 => 28 | 5 => 5 | 173 => 61 | 212 => 65 | 51 => 25 | 20 => 20 | 213 => 66 | 46 => 43 | 232 => 70 | 233 => 71 | 80 => 74 | n => n, fun | 15 => 1 | 16 => 2 | 17 => 3 | 18 => 4 | 19 => 5 | n => n⟩
theorem Tryd.laysC245 : Go.Proofs.LaysC.n245 Tryd.prog Tryd.laysC245_ren := {
  mixed := by kernel_rfl
  f129 := Tryd.func36.trans (congrArg some (by kernel_rfl))
  f171 := Tryd.func28.trans (congrArg some (by kernel_rfl))
  f205 := Tryd.func27.trans (congrArg some (by kernel_rfl))
  f243 := Tryd.func29.trans (congrArg some (by kernel_rfl))
  f245 := Tryd.func18.trans (congrArg some (by kernel_rfl))
  f246 := Tryd.func30.trans (congrArg some (by kernel_rfl))
  f279 := Tryd.func22.trans (congrArg some (by kernel_rfl))
  f280 := Tryd.func23.trans (congrArg some (by kernel_rfl))
  f281 := Tryd.func24.trans (congrArg some (by kernel_rfl))
  f282 := Tryd.func25.trans (congrArg some (by kernel_rfl))
  f283 := Tryd.func31.trans (congrArg some (by kernel_rfl))
  f284 := Tryd.func32.trans (congrArg some (by kernel_rfl))
  f285 := Tryd.func33.trans (congrArg some (by kernel_rfl))
  f286 := Tryd.func34.trans (congrArg some (by kernel_rfl))
  f316 := Tryd.func26.trans (congrArg some (by kernel_rfl))
  f317 := Tryd.func35.trans (congrArg some (by kernel_rfl))
  f318 := Tryd.func37.trans (congrArg some (by kernel_rfl))
  f319 := Tryd.func38.trans (congrArg some (by kernel_rfl))
  f320 := Tryd.func39.trans (congrArg some (by kernel_rfl))
  f337 := Tryd.func40.trans (congrArg some (by kernel_rfl))
  f338 := Tryd.func41.trans (congrArg some (by kernel_rfl))
  t0 := Tryd.underlying0
  a0 := Tryd.isAgg0
  z0 := Tryd.sizeOf0
  v0 := Tryd.zeroValue0
  t2 := Tryd.underlying2
  a2 := Tryd.isAgg2
  z2 := Tryd.sizeOf2
  v2 := Tryd.zeroValue2
  t3 := Tryd.underlying3
  a3 := Tryd.isAgg3
  z3 := Tryd.sizeOf3
  v3 := Tryd.zeroValue3
  t4 := Tryd.underlying4
  a4 := Tryd.isAgg4
  z4 := Tryd.sizeOf4
  v4 := Tryd.zeroValue4
  t5 := Tryd.underlying5
  a5 := Tryd.isAgg5
  z5 := Tryd.sizeOf5
  v5 := Tryd.zeroValue5
  t9 := Tryd.underlying9
  a9 := Tryd.isAgg9
  z9 := Tryd.sizeOf9
  v9 := Tryd.zeroValue9
  t20 := Tryd.underlying20
  a20 := Tryd.isAgg20
  z20 := Tryd.sizeOf20
  v20 := Tryd.zeroValue20
  t37 := Tryd.underlying31
  a37 := Tryd.isAgg31
  z37 := Tryd.sizeOf31
  v37 := Tryd.zeroValue31
  t46 := Tryd.underlying43
  a46 := Tryd.isAgg43
  z46 := Tryd.sizeOf43
  v46 := Tryd.zeroValue43
  t51 := Tryd.underlying25
  a51 := Tryd.isAgg25
  z51 := Tryd.sizeOf25
  v51 := Tryd.zeroValue25
  t53 := Tryd.underlying28
  a53 := Tryd.isAgg28
  z53 := Tryd.sizeOf28
  v53 := Tryd.zeroValue28
  t75 := Tryd.underlying35
  a75 := Tryd.isAgg35
  z75 := Tryd.sizeOf35
  v75 := Tryd.zeroValue35
  t127 := Tryd.underlying53
  a127 := Tryd.isAgg53
  z127 := Tryd.sizeOf53
  v127 := Tryd.zeroValue53
  t143 := Tryd.underlying54
  a143 := Tryd.isAgg54
  z143 := Tryd.sizeOf54
  v143 := Tryd.zeroValue54
  t145 := Tryd.underlying56
  a145 := Tryd.isAgg56
  z145 := Tryd.sizeOf56
  v145 := Tryd.zeroValue56
  t167 := Tryd.underlying41
  a167 := Tryd.isAgg41
  z167 := Tryd.sizeOf41
  v167 := Tryd.zeroValue41
  t168 := Tryd.underlying45
  a168 := Tryd.isAgg45
  z168 := Tryd.sizeOf45
  v168 := Tryd.zeroValue45
  t171 := Tryd.underlying58
  a171 := Tryd.isAgg58
  z171 := Tryd.sizeOf58
  v171 := Tryd.zeroValue58
  t173 := Tryd.underlying61
  a173 := Tryd.isAgg61
  z173 := Tryd.sizeOf61
  v173 := Tryd.zeroValue61
  t210 := Tryd.underlying50
  a210 := Tryd.isAgg50
  z210 := Tryd.sizeOf50
  v210 := Tryd.zeroValue50
  t212 := Tryd.underlying65
  a212 := Tryd.isAgg65
  z212 := Tryd.sizeOf65
  v212 := Tryd.zeroValue65
  t213 := Tryd.underlying66
  a213 := Tryd.isAgg66
  z213 := Tryd.sizeOf66
  t232 := Tryd.underlying70
  a232 := Tryd.isAgg70
  z232 := Tryd.sizeOf70
  v232 := Tryd.zeroValue70
  t233 := Tryd.underlying71
  a233 := Tryd.isAgg71
  z233 := Tryd.sizeOf71
  v233 := Tryd.zeroValue71
  g15 := by kernel_rfl
  g16 := by kernel_rfl
  g17 := by kernel_rfl
  g18 := by kernel_rfl
  g19 := by kernel_rfl
  t80 := Tryd.underlying74
  a80 := Tryd.isAgg74
  z80 := Tryd.sizeOf74
  v80 := Tryd.zeroValue74
  i0 := by kernel_rfl
  i2 := by kernel_rfl
  i3 := by kernel_rfl
  i4 := by kernel_rfl
  i5 := by kernel_rfl
  i9 := by kernel_rfl
  i20 := by kernel_rfl
  i37 := by kernel_rfl
  i46 := by kernel_rfl
  i51 := by kernel_rfl
  i53 := by kernel_rfl
  i75 := by kernel_rfl
  i80 := by kernel_rfl
  i127 := by kernel_rfl
  i143 := by kernel_rfl
  i145 := by kernel_rfl
  i167 := by kernel_rfl
  i168 := by kernel_rfl
  i171 := by kernel_rfl
  i173 := by kernel_rfl
  i210 := by kernel_rfl
  i212 := by kernel_rfl
  i232 := by kernel_rfl
  i233 := by kernel_rfl
  m15 := by kernel_rfl
  m16 := by kernel_rfl
  m17 := by kernel_rfl
  m18 := by kernel_rfl
  m19 := by kernel_rfl
  c0 := by kernel_rfl
  c2 := by kernel_rfl
  c3 := by kernel_rfl
  c4 := by kernel_rfl
  c5 := by kernel_rfl
  c9 := by kernel_rfl
  c20 := by kernel_rfl
  c37 := by kernel_rfl
  c46 := by kernel_rfl
  c51 := by kernel_rfl
  c53 := by kernel_rfl
  c75 := by kernel_rfl
  c80 := by kernel_rfl
  c127 := by kernel_rfl
  c143 := by kernel_rfl
  c145 := by kernel_rfl
  c167 := by kernel_rfl
  c168 := by kernel_rfl
  c171 := by kernel_rfl
  c173 := by kernel_rfl
  c210 := by kernel_rfl
  c212 := by kernel_rfl
  c213 := by kernel_rfl
  c232 := by kernel_rfl
  c233 := by kernel_rfl }
def Tryd.lays149_ren : Go.Shelf.Ren := ⟨fun | 149 => 12 | 222 => 15 | n => n, fun | 9 => 9 | 5 => 5 | 3 => 3 | 4 => 4 | n => n, fun | n => n⟩
theorem Tryd.lays149 : Go.Proofs.Lays.n149 Tryd.prog Tryd.lays149_ren := {
  mixed := by kernel_rfl
  f149 := Tryd.func12.trans (congrArg some (by kernel_rfl))
  f222 := Tryd.func15.trans (congrArg some (by kernel_rfl))
  t3 := Tryd.underlying3
  a3 := Tryd.isAgg3
  z3 := Tryd.sizeOf3
  v3 := Tryd.zeroValue3
  t4 := Tryd.underlying4
  a4 := Tryd.isAgg4
  z4 := Tryd.sizeOf4
  v4 := Tryd.zeroValue4
  t5 := Tryd.underlying5
  a5 := Tryd.isAgg5
  z5 := Tryd.sizeOf5
  v5 := Tryd.zeroValue5
  t9 := Tryd.underlying9
  a9 := Tryd.isAgg9
  z9 := Tryd.sizeOf9
  v9 := Tryd.zeroValue9 }
open Go.RowKit Go.Lib in
def Tryd.lays148_ren : Go.Shelf.Ren := ⟨fun | 148 => 13 | 222 => 15 | 223 => 16 | 269 => 19 | n => n, fun | 9 => 9 | 3 => 3 | 4 => 4 | 5 => 5 | 146 => 39 | 51 => 25 | 46 => 43 | n => n, fun | n => n⟩
theorem Tryd.lays148 : Go.Proofs.Lays.n148 Tryd.prog Tryd.lays148_ren := {
  mixed := by kernel_rfl
  f148 := Tryd.func13.trans (congrArg some (by kernel_rfl))
  f222 := Tryd.func15.trans (congrArg some (by kernel_rfl))
  f223 := Tryd.func16.trans (congrArg some (by kernel_rfl))
  f269 := Tryd.func19.trans (congrArg some (by kernel_rfl))
  t3 := Tryd.underlying3
  a3 := Tryd.isAgg3
  z3 := Tryd.sizeOf3
  v3 := Tryd.zeroValue3
  t4 := Tryd.underlying4
  a4 := Tryd.isAgg4
  z4 := Tryd.sizeOf4
  v4 := Tryd.zeroValue4
  t5 := Tryd.underlying5
  a5 := Tryd.isAgg5
  z5 := Tryd.sizeOf5
  v5 := Tryd.zeroValue5
  t9 := Tryd.underlying9
  a9 := Tryd.isAgg9
  z9 := Tryd.sizeOf9
  v9 := Tryd.zeroValue9
  t46 := Tryd.underlying43
  a46 := Tryd.isAgg43
  z46 := Tryd.sizeOf43
  v46 := Tryd.zeroValue43
  t51 := Tryd.underlying25
  a51 := Tryd.isAgg25
  z51 := Tryd.sizeOf25
  v51 := Tryd.zeroValue25
  t146 := Tryd.underlying39
  a146 := Tryd.isAgg39
  z146 := Tryd.sizeOf39
  v146 := Tryd.zeroValue39 }
open Go.RowKit Go.Lib in
open Go.RowKit in
theorem Tryd.strconv_toError_syntax (fn s : ByteArray) (base bits : Int) (ev : Value) (w : World) (hlim : s.size ≤ 281474976710656) (hv : w.cell? ⟨1, 0, none⟩ = some ev) (hev : ev = .nilIface ∨ ∃ te pe, ev = .iface te pe) :
    Calls Tryd.prog 18 #[.string fn, .string s, .int .i64 base, .int .i64 bits, .iface 41 (.int .i64 2)] w fun e w' => ∃ N, e = .returned (.iface 45 (.pointer (some ⟨N, 0, none⟩))) ∧ w.heap.size ≤ N ∧ w'.heap[N]? = some (.cells #[.string fn, .string s, ev] 50 (0, 0)) ∧ Below w.heap.size w w' := Any.strconv_toError_syntax Tryd.laysC245 fn s base bits ev w hlim hv hev
open Go.RowKit in
theorem Tryd.strconv_toError_range (fn s : ByteArray) (base bits : Int) (ev : Value) (w : World) (hlim : s.size ≤ 281474976710656) (hv : w.cell? ⟨2, 0, none⟩ = some ev) (hev : ev = .nilIface ∨ ∃ te pe, ev = .iface te pe) :
    Calls Tryd.prog 18 #[.string fn, .string s, .int .i64 base, .int .i64 bits, .iface 41 (.int .i64 1)] w fun e w' => ∃ N, e = .returned (.iface 45 (.pointer (some ⟨N, 0, none⟩))) ∧ w.heap.size ≤ N ∧ w'.heap[N]? = some (.cells #[.string fn, .string s, ev] 50 (0, 0)) ∧ Below w.heap.size w w' := Any.strconv_toError_range Tryd.laysC245 fn s base bits ev w hlim hv hev
open Go.RowKit in
theorem Tryd.strings_LastIndexByte (s : ByteArray) (c : Int) (hs : s.size < 4611686018427387904) (w : World) :
    Calls Tryd.prog 12 #[.string s, .int .u8 c] w fun e w' => e = .returned (.int .i64 (Lib.lastIndexByte s c)) ∧ w' = w := Any.strings_LastIndexByte Tryd.lays149 s c hs w
open Go.RowKit in
theorem Tryd.strings_LastIndex (s sub : ByteArray) (hs : s.size < 4611686018427387904) (w : World) :
    Calls Tryd.prog 13 #[.string s, .string sub] w fun e w' => e = .returned (.int .i64 (Lib.lastIndex s.data.toList sub.data.toList)) ∧ w' = w := Any.strings_LastIndex Tryd.lays148 s sub hs w
#print axioms Tryd.strings_LastIndex
#print axioms Tryd.strconv_toError_range
end Go.Proofs
