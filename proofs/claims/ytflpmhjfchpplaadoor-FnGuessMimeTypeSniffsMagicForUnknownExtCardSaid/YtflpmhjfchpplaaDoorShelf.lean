/-
  Proved: contracts of library functions at this program, laid from the shelf (what a tool of the kit has written for this program). No statement of the seat stands here.
-/
import Derived.Shelf.Strings.Builder1
import Derived.Shelf.Strings.Builder2
import Derived.Shelf.Strings.OnBuilder
import Derived.Shelf.Strings.BuilderRune
import Derived.Shelf.Strings.CaseAny
import Derived.Shelf.Bytes.SlSmallAll
import Derived.Test.YtflpmhjfchpplaaDoorProg
namespace Go.Proofs
open Go.Shelf
def Tryd.lays159_ren : Go.Shelf.Ren := ⟨fun | 159 => 14 | 165 => 18 | 166 => 19 | 167 => 20 | 169 => 21 | 230 => 22 | 204 => 23 | 240 => 24 | 241 => 25 | 197 => 26 | 118 => 27 | 168 => 28 | 270 => 29 | 262 => 30 | 276 => 31 | 277 => 32 | 260 => 33 | 242 => 34 | 313 => 35 | 278 => 36 | 274 => 37 | 275 => 38 | n => n, fun | 9 => 9 | 4 => 4 | 3 => 3 | 5 => 5 | 72 => 40 | 0 => 0 | 76 => 44 | 75 => 43 | 107 => 49 | 70 => 38 | 20 => 20 | 37 => 28 | 127 => 60 | 21 => 21 | 105 => 61 | 164 => 67 | 162 => 73 | 203 => 71 | 119 => 74 | 46 => 75 | 139 => 78 | 138 => 77 | 51 => 79 | 160 => 80 | 208 => 86 | 206 => 84 | 80 => 47 | n => n, fun | 13 => 1 | 3 => 3 | 4 => 4 | n => n⟩
theorem Tryd.lays159 : Go.Proofs.Lays.n159 Tryd.prog Tryd.lays159_ren := {
  mixed := by kernel_rfl
  f118 := Tryd.func27.trans (congrArg some (by kernel_rfl))
  f159 := Tryd.func14.trans (congrArg some (by kernel_rfl))
  f165 := Tryd.func18.trans (congrArg some (by kernel_rfl))
  f166 := Tryd.func19.trans (congrArg some (by kernel_rfl))
  f167 := Tryd.func20.trans (congrArg some (by kernel_rfl))
  f168 := Tryd.func28.trans (congrArg some (by kernel_rfl))
  f169 := Tryd.func21.trans (congrArg some (by kernel_rfl))
  f197 := Tryd.func26.trans (congrArg some (by kernel_rfl))
  f204 := Tryd.func23.trans (congrArg some (by kernel_rfl))
  f230 := Tryd.func22.trans (congrArg some (by kernel_rfl))
  f240 := Tryd.func24.trans (congrArg some (by kernel_rfl))
  f241 := Tryd.func25.trans (congrArg some (by kernel_rfl))
  f242 := Tryd.func34.trans (congrArg some (by kernel_rfl))
  f260 := Tryd.func33.trans (congrArg some (by kernel_rfl))
  f262 := Tryd.func30.trans (congrArg some (by kernel_rfl))
  f270 := Tryd.func29.trans (congrArg some (by kernel_rfl))
  f274 := Tryd.func37.trans (congrArg some (by kernel_rfl))
  f275 := Tryd.func38.trans (congrArg some (by kernel_rfl))
  f276 := Tryd.func31.trans (congrArg some (by kernel_rfl))
  f277 := Tryd.func32.trans (congrArg some (by kernel_rfl))
  f278 := Tryd.func36.trans (congrArg some (by kernel_rfl))
  f313 := Tryd.func35.trans (congrArg some (by kernel_rfl))
  t0 := Tryd.underlying0
  a0 := Tryd.isAgg0
  z0 := Tryd.sizeOf0
  v0 := Tryd.zeroValue0
  t3 := Tryd.underlying3
  a3 := Tryd.isAgg3
  z3 := Tryd.sizeOf3
  v3 := Tryd.zeroValue3
  t4 := Tryd.underlying4
  a4 := Tryd.isAgg4
  z4 := Tryd.sizeOf4
  v4 := Tryd.zeroValue4
  t5 := Tryd.underlying5
  a5 := Tryd.isAgg5
  z5 := Tryd.sizeOf5
  v5 := Tryd.zeroValue5
  t9 := Tryd.underlying9
  a9 := Tryd.isAgg9
  z9 := Tryd.sizeOf9
  v9 := Tryd.zeroValue9
  t20 := Tryd.underlying20
  a20 := Tryd.isAgg20
  z20 := Tryd.sizeOf20
  v20 := Tryd.zeroValue20
  t21 := Tryd.underlying21
  a21 := Tryd.isAgg21
  z21 := Tryd.sizeOf21
  v21 := Tryd.zeroValue21
  t37 := Tryd.underlying28
  a37 := Tryd.isAgg28
  z37 := Tryd.sizeOf28
  v37 := Tryd.zeroValue28
  t46 := Tryd.underlying75
  a46 := Tryd.isAgg75
  z46 := Tryd.sizeOf75
  v46 := Tryd.zeroValue75
  t51 := Tryd.underlying79
  a51 := Tryd.isAgg79
  z51 := Tryd.sizeOf79
  v51 := Tryd.zeroValue79
  t70 := Tryd.underlying38
  a70 := Tryd.isAgg38
  z70 := Tryd.sizeOf38
  v70 := Tryd.zeroValue38
  t72 := Tryd.underlying40
  a72 := Tryd.isAgg40
  z72 := Tryd.sizeOf40
  v72 := Tryd.zeroValue40
  t75 := Tryd.underlying43
  a75 := Tryd.isAgg43
  z75 := Tryd.sizeOf43
  v75 := Tryd.zeroValue43
  t76 := Tryd.underlying44
  a76 := Tryd.isAgg44
  z76 := Tryd.sizeOf44
  v76 := Tryd.zeroValue44
  t105 := Tryd.underlying61
  a105 := Tryd.isAgg61
  z105 := Tryd.sizeOf61
  v105 := Tryd.zeroValue61
  t107 := Tryd.underlying49
  a107 := Tryd.isAgg49
  z107 := Tryd.sizeOf49
  v107 := Tryd.zeroValue49
  t119 := Tryd.underlying74
  a119 := Tryd.isAgg74
  z119 := Tryd.sizeOf74
  t127 := Tryd.underlying60
  a127 := Tryd.isAgg60
  z127 := Tryd.sizeOf60
  v127 := Tryd.zeroValue60
  t138 := Tryd.underlying77
  a138 := Tryd.isAgg77
  z138 := Tryd.sizeOf77
  v138 := Tryd.zeroValue77
  t139 := Tryd.underlying78
  a139 := Tryd.isAgg78
  z139 := Tryd.sizeOf78
  v139 := Tryd.zeroValue78
  t160 := Tryd.underlying80
  a160 := Tryd.isAgg80
  z160 := Tryd.sizeOf80
  v160 := Tryd.zeroValue80
  t162 := Tryd.underlying73
  a162 := Tryd.isAgg73
  z162 := Tryd.sizeOf73
  v162 := Tryd.zeroValue73
  t164 := Tryd.underlying67
  a164 := Tryd.isAgg67
  z164 := Tryd.sizeOf67
  v164 := Tryd.zeroValue67
  t203 := Tryd.underlying71
  a203 := Tryd.isAgg71
  z203 := Tryd.sizeOf71
  v203 := Tryd.zeroValue71
  t206 := Tryd.underlying84
  a206 := Tryd.isAgg84
  z206 := Tryd.sizeOf84
  v206 := Tryd.zeroValue84
  t208 := Tryd.underlying86
  a208 := Tryd.isAgg86
  z208 := Tryd.sizeOf86
  v208 := Tryd.zeroValue86
  g3 := by kernel_rfl
  g4 := by kernel_rfl
  g13 := by kernel_rfl }
theorem Tryd.Builder_Extra_159 : Builder.Extra Tryd.prog Tryd.lays159_ren := {
  sizeBuilder := by kernel_rfl
  liesBuilder := by kernel_rfl
  t5 := Tryd.underlying5
  a5 := Tryd.isAgg5
  z5 := Tryd.sizeOf5
  v5 := Tryd.zeroValue5
  infoByte := by kernel_rfl
  cellsByte := by kernel_rfl
  sizeByte := by kernel_rfl
  neB5 := by decide }
open Go.RowKit Go.Lib in
/-- **strings.ToLower AT EVERY STRING, VALID UTF-8 OR NOT.** (LAID: no walk: one application.) -/
theorem Tryd.strings_ToLower_any (s : ByteArray) (w : World) (hs : s.size < 35184372088832) (hV : CaseVar 1 caseA w) (hT : Lib.Utf8Tabs 3 4 w) :
    Calls Tryd.prog 14 #[.string s] w fun e w' => e = .returned (.string ⟨(Lib.toLowerD s.data.toList).toArray⟩) ∧ Below w.heap.size w w' := Any.strings_ToLower_any Tryd.lays159 Tryd.Builder_Extra_159 s w hs hV hT
def Tryd.laysnb116_ren : Go.Shelf.Ren := ⟨fun | 116 => 59 | 115 => 60 | n => n, fun | 37 => 28 | 4 => 4 | 3 => 3 | 9 => 9 | 5 => 5 | n => n, fun | n => n⟩
theorem Tryd.laysnb116 : Go.Proofs.Lays.nb116 Tryd.prog Tryd.laysnb116_ren := {
  mixed := by kernel_rfl
  f115 := Tryd.func60.trans (congrArg some (by kernel_rfl))
  f116 := Tryd.func59.trans (congrArg some (by kernel_rfl))
  t3 := Tryd.underlying3
  a3 := Tryd.isAgg3
  z3 := Tryd.sizeOf3
  v3 := Tryd.zeroValue3
  t4 := Tryd.underlying4
  a4 := Tryd.isAgg4
  z4 := Tryd.sizeOf4
  v4 := Tryd.zeroValue4
  t9 := Tryd.underlying9
  a9 := Tryd.isAgg9
  z9 := Tryd.sizeOf9
  v9 := Tryd.zeroValue9
  t37 := Tryd.underlying28
  a37 := Tryd.isAgg28
  z37 := Tryd.sizeOf28
  v37 := Tryd.zeroValue28
  t5 := Tryd.underlying5
  a5 := Tryd.isAgg5
  z5 := Tryd.sizeOf5
  v5 := Tryd.zeroValue5 }
/-- bytes.HasPrefix: WHOLE: each argument nil, or of no byte at whatever address, or at an address with its cells. (LAID: no walk: one application.) -/
theorem Tryd.bytes_HasPrefix_all (p1 p2 : Option Addr) (n c m d : Nat) (xs ys : List Int) (w : World) (hx : xs.length = n) (hy : ys.length = m) (hnc : n ≤ c) (h1 : Lib.BytesIn w p1 n xs) (h2 : Lib.BytesIn w p2 m ys) :
    Calls Tryd.prog 59 #[.slice p1 n c, .slice p2 m d] w fun e w' => e = .returned (.bool (Lib.hasPrefix (Lib.bytesOf xs) (Lib.bytesOf ys))) ∧ w' = w := Any.bytes_HasPrefix_all Tryd.laysnb116 p1 p2 n c m d xs ys w hx hy hnc h1 h2
end Go.Proofs
