/- Sj: joined by merge.py for the claim. -/
import Derived.Shelf.Strconv.Clone
import Derived.Shelf.Strings.CaseAny
import Derived.Shelf.Strings.Prefix
import Derived.Shelf.Unicode.CaseConvert
import Derived.Shelf.Unicode.CaseLaid
import Derived.Shelf.Unicode.CaseLookup
import Derived.Shelf.Unicode.DecodeAny
import Derived.Test.YtknjgopapbemcaaGreatDoorProg
namespace Go.Proofs
open Go.Shelf
def Tryz.lays159_ren : Go.Shelf.Ren := ⟨fun | 159 => 11 | 165 => 18 | 166 => 19 | 167 => 20 | 169 => 21 | 230 => 22 | 204 => 23 | 240 => 36 | 241 => 37 | 197 => 25 | 118 => 38 | 168 => 39 | 270 => 40 | 262 => 41 | 276 => 52 | 277 => 53 | 260 => 44 | 242 => 54 | 313 => 55 | 278 => 74 | 274 => 45 | 275 => 46 | n => n, fun | 9 => 9 | 4 => 4 | 3 => 3 | 5 => 5 | 72 => 72 | 0 => 0 | 76 => 76 | 75 => 75 | 107 => 81 | 70 => 69 | 20 => 20 | 37 => 70 | 127 => 89 | 21 => 21 | 105 => 84 | 164 => 107 | 162 => 103 | 203 => 111 | 119 => 119 | 46 => 98 | 139 => 122 | 138 => 121 | 51 => 123 | 160 => 101 | 208 => 127 | 206 => 125 | 80 => 79 | n => n, fun | 13 => 2 | 3 => 3 | 4 => 4 | n => n⟩
theorem Tryz.lays159 : Go.Proofs.Lays.n159 Tryz.prog Tryz.lays159_ren := {
  mixed := by kernel_rfl
  f118 := Tryz.func38.trans (congrArg some (by kernel_rfl))
  f159 := Tryz.func11.trans (congrArg some (by kernel_rfl))
  f165 := Tryz.func18.trans (congrArg some (by kernel_rfl))
  f166 := Tryz.func19.trans (congrArg some (by kernel_rfl))
  f167 := Tryz.func20.trans (congrArg some (by kernel_rfl))
  f168 := Tryz.func39.trans (congrArg some (by kernel_rfl))
  f169 := Tryz.func21.trans (congrArg some (by kernel_rfl))
  f197 := Tryz.func25.trans (congrArg some (by kernel_rfl))
  f204 := Tryz.func23.trans (congrArg some (by kernel_rfl))
  f230 := Tryz.func22.trans (congrArg some (by kernel_rfl))
  f240 := Tryz.func36.trans (congrArg some (by kernel_rfl))
  f241 := Tryz.func37.trans (congrArg some (by kernel_rfl))
  f242 := Tryz.func54.trans (congrArg some (by kernel_rfl))
  f260 := Tryz.func44.trans (congrArg some (by kernel_rfl))
  f262 := Tryz.func41.trans (congrArg some (by kernel_rfl))
  f270 := Tryz.func40.trans (congrArg some (by kernel_rfl))
  f274 := Tryz.func45.trans (congrArg some (by kernel_rfl))
  f275 := Tryz.func46.trans (congrArg some (by kernel_rfl))
  f276 := Tryz.func52.trans (congrArg some (by kernel_rfl))
  f277 := Tryz.func53.trans (congrArg some (by kernel_rfl))
  f278 := Tryz.func74.trans (congrArg some (by kernel_rfl))
  f313 := Tryz.func55.trans (congrArg some (by kernel_rfl))
  t0 := Tryz.underlying0
  a0 := Tryz.isAgg0
  z0 := Tryz.sizeOf0
  v0 := Tryz.zeroValue0
  t3 := Tryz.underlying3
  a3 := Tryz.isAgg3
  z3 := Tryz.sizeOf3
  v3 := Tryz.zeroValue3
  t4 := Tryz.underlying4
  a4 := Tryz.isAgg4
  z4 := Tryz.sizeOf4
  v4 := Tryz.zeroValue4
  t5 := Tryz.underlying5
  a5 := Tryz.isAgg5
  z5 := Tryz.sizeOf5
  v5 := Tryz.zeroValue5
  t9 := Tryz.underlying9
  a9 := Tryz.isAgg9
  z9 := Tryz.sizeOf9
  v9 := Tryz.zeroValue9
  t20 := Tryz.underlying20
  a20 := Tryz.isAgg20
  z20 := Tryz.sizeOf20
  v20 := Tryz.zeroValue20
  t21 := Tryz.underlying21
  a21 := Tryz.isAgg21
  z21 := Tryz.sizeOf21
  v21 := Tryz.zeroValue21
  t37 := Tryz.underlying70
  a37 := Tryz.isAgg70
  z37 := Tryz.sizeOf70
  v37 := Tryz.zeroValue70
  t46 := Tryz.underlying98
  a46 := Tryz.isAgg98
  z46 := Tryz.sizeOf98
  v46 := Tryz.zeroValue98
  t51 := Tryz.underlying123
  a51 := Tryz.isAgg123
  z51 := Tryz.sizeOf123
  v51 := Tryz.zeroValue123
  t70 := Tryz.underlying69
  a70 := Tryz.isAgg69
  z70 := Tryz.sizeOf69
  v70 := Tryz.zeroValue69
  t72 := Tryz.underlying72
  a72 := Tryz.isAgg72
  z72 := Tryz.sizeOf72
  v72 := Tryz.zeroValue72
  t75 := Tryz.underlying75
  a75 := Tryz.isAgg75
  z75 := Tryz.sizeOf75
  v75 := Tryz.zeroValue75
  t76 := Tryz.underlying76
  a76 := Tryz.isAgg76
  z76 := Tryz.sizeOf76
  v76 := Tryz.zeroValue76
  t105 := Tryz.underlying84
  a105 := Tryz.isAgg84
  z105 := Tryz.sizeOf84
  v105 := Tryz.zeroValue84
  t107 := Tryz.underlying81
  a107 := Tryz.isAgg81
  z107 := Tryz.sizeOf81
  v107 := Tryz.zeroValue81
  t119 := Tryz.underlying119
  a119 := Tryz.isAgg119
  z119 := Tryz.sizeOf119
  t127 := Tryz.underlying89
  a127 := Tryz.isAgg89
  z127 := Tryz.sizeOf89
  v127 := Tryz.zeroValue89
  t138 := Tryz.underlying121
  a138 := Tryz.isAgg121
  z138 := Tryz.sizeOf121
  v138 := Tryz.zeroValue121
  t139 := Tryz.underlying122
  a139 := Tryz.isAgg122
  z139 := Tryz.sizeOf122
  v139 := Tryz.zeroValue122
  t160 := Tryz.underlying101
  a160 := Tryz.isAgg101
  z160 := Tryz.sizeOf101
  v160 := Tryz.zeroValue101
  t162 := Tryz.underlying103
  a162 := Tryz.isAgg103
  z162 := Tryz.sizeOf103
  v162 := Tryz.zeroValue103
  t164 := Tryz.underlying107
  a164 := Tryz.isAgg107
  z164 := Tryz.sizeOf107
  v164 := Tryz.zeroValue107
  t203 := Tryz.underlying111
  a203 := Tryz.isAgg111
  z203 := Tryz.sizeOf111
  v203 := Tryz.zeroValue111
  t206 := Tryz.underlying125
  a206 := Tryz.isAgg125
  z206 := Tryz.sizeOf125
  v206 := Tryz.zeroValue125
  t208 := Tryz.underlying127
  a208 := Tryz.isAgg127
  z208 := Tryz.sizeOf127
  v208 := Tryz.zeroValue127
  g3 := by kernel_rfl
  g4 := by kernel_rfl
  g13 := by kernel_rfl }
theorem Tryz.Builder_Extra_159 : Builder.Extra Tryz.prog Tryz.lays159_ren := {
  sizeBuilder := by kernel_rfl
  liesBuilder := by kernel_rfl
  t5 := Tryz.underlying5
  a5 := Tryz.isAgg5
  z5 := Tryz.sizeOf5
  v5 := Tryz.zeroValue5
  infoByte := by kernel_rfl
  cellsByte := by kernel_rfl
  sizeByte := by kernel_rfl
  neB5 := by decide }
def Tryz.laysM316_ren : Go.Shelf.Ren := ⟨fun | 316 => 77 | n => n, fun | 9 => 9 | 3 => 3 | 4 => 4 | 37 => 70 | 0 => 0 | 127 => 89 | 5 => 5 | n => n, fun | n => n⟩
theorem Tryz.laysM316 : Go.Proofs.LaysM.n316 Tryz.prog Tryz.laysM316_ren := {
  mixed := by kernel_rfl
  f316 := Tryz.func77.trans (congrArg some (by kernel_rfl))
  t0 := Tryz.underlying0
  a0 := Tryz.isAgg0
  z0 := Tryz.sizeOf0
  v0 := Tryz.zeroValue0
  t3 := Tryz.underlying3
  a3 := Tryz.isAgg3
  z3 := Tryz.sizeOf3
  v3 := Tryz.zeroValue3
  t4 := Tryz.underlying4
  a4 := Tryz.isAgg4
  z4 := Tryz.sizeOf4
  v4 := Tryz.zeroValue4
  t9 := Tryz.underlying9
  a9 := Tryz.isAgg9
  z9 := Tryz.sizeOf9
  v9 := Tryz.zeroValue9
  t37 := Tryz.underlying70
  a37 := Tryz.isAgg70
  z37 := Tryz.sizeOf70
  v37 := Tryz.zeroValue70
  t127 := Tryz.underlying89
  a127 := Tryz.isAgg89
  z127 := Tryz.sizeOf89
  v127 := Tryz.zeroValue89
  t5 := Tryz.underlying5
  a5 := Tryz.isAgg5
  z5 := Tryz.sizeOf5
  v5 := Tryz.zeroValue5
  i0 := by kernel_rfl
  i3 := by kernel_rfl
  i4 := by kernel_rfl
  i5 := by kernel_rfl
  i9 := by kernel_rfl
  i37 := by kernel_rfl
  i127 := by kernel_rfl }
open Go.RowKit in
theorem Tryz.stringslite_Clone (s : ByteArray) (w : World) (hlim : s.size ≤ 281474976710656) :
    Calls Tryz.prog 77 #[.string s] w fun e w' => e = .returned (.string s) ∧ Below w.heap.size w w' := Any.stringslite_Clone Tryz.laysM316 s w hlim
def Tryz.lays99_ren : Go.Shelf.Ren := ⟨fun | 99 => 50 | 206 => 72 | n => n, fun | 9 => 9 | 4 => 4 | 3 => 3 | n => n, fun | n => n⟩
theorem Tryz.lays99 : Go.Proofs.Lays.n99 Tryz.prog Tryz.lays99_ren := {
  mixed := by kernel_rfl
  f99 := Tryz.func50.trans (congrArg some (by kernel_rfl))
  f206 := Tryz.func72.trans (congrArg some (by kernel_rfl))
  t3 := Tryz.underlying3
  a3 := Tryz.isAgg3
  z3 := Tryz.sizeOf3
  v3 := Tryz.zeroValue3
  t4 := Tryz.underlying4
  a4 := Tryz.isAgg4
  z4 := Tryz.sizeOf4
  v4 := Tryz.zeroValue4
  t9 := Tryz.underlying9
  a9 := Tryz.isAgg9
  z9 := Tryz.sizeOf9
  v9 := Tryz.zeroValue9 }
open Go.RowKit Go.Lib in
theorem Tryz.strings_HasPrefix (s p : ByteArray) (w : World) :
    Calls Tryz.prog 50 #[.string s, .string p] w fun e w' => e = .returned (.bool (Lib.hasPrefix s.data.toList p.data.toList)) ∧ w' = w := Any.strings_HasPrefix Tryz.lays99 s p w
def Tryz.lays100_ren : Go.Shelf.Ren := ⟨fun | 100 => 51 | 207 => 73 | n => n, fun | 9 => 9 | 4 => 4 | 3 => 3 | n => n, fun | n => n⟩
theorem Tryz.lays100 : Go.Proofs.Lays.n100 Tryz.prog Tryz.lays100_ren := {
  mixed := by kernel_rfl
  f100 := Tryz.func51.trans (congrArg some (by kernel_rfl))
  f207 := Tryz.func73.trans (congrArg some (by kernel_rfl))
  t3 := Tryz.underlying3
  a3 := Tryz.isAgg3
  z3 := Tryz.sizeOf3
  v3 := Tryz.zeroValue3
  t4 := Tryz.underlying4
  a4 := Tryz.isAgg4
  z4 := Tryz.sizeOf4
  v4 := Tryz.zeroValue4
  t9 := Tryz.underlying9
  a9 := Tryz.isAgg9
  z9 := Tryz.sizeOf9
  v9 := Tryz.zeroValue9 }
open Go.RowKit Go.Lib in
theorem Tryz.strings_HasSuffix (s p : ByteArray) (w : World) (hs : s.size ≤ 9223372036854775807) :
    Calls Tryz.prog 51 #[.string s, .string p] w fun e w' => e = .returned (.bool (Lib.hasSuffix s.data.toList p.data.toList)) ∧ w' = w := Any.strings_HasSuffix Tryz.lays100 s p w hs
def Tryz.lays197_ren : Go.Shelf.Ren := ⟨fun | 197 => 25 | 260 => 44 | n => n, fun | 9 => 9 | 21 => 21 | 3 => 3 | 4 => 4 | 5 => 5 | 105 => 84 | 119 => 119 | 0 => 0 | 46 => 98 | 139 => 122 | 138 => 121 | n => n, fun | 3 => 3 | 4 => 4 | n => n⟩
theorem Tryz.lays197 : Go.Proofs.Lays.n197 Tryz.prog Tryz.lays197_ren := {
  mixed := by kernel_rfl
  f197 := Tryz.func25.trans (congrArg some (by kernel_rfl))
  f260 := Tryz.func44.trans (congrArg some (by kernel_rfl))
  t0 := Tryz.underlying0
  a0 := Tryz.isAgg0
  z0 := Tryz.sizeOf0
  v0 := Tryz.zeroValue0
  t3 := Tryz.underlying3
  a3 := Tryz.isAgg3
  z3 := Tryz.sizeOf3
  v3 := Tryz.zeroValue3
  t4 := Tryz.underlying4
  a4 := Tryz.isAgg4
  z4 := Tryz.sizeOf4
  v4 := Tryz.zeroValue4
  t5 := Tryz.underlying5
  a5 := Tryz.isAgg5
  z5 := Tryz.sizeOf5
  v5 := Tryz.zeroValue5
  t9 := Tryz.underlying9
  a9 := Tryz.isAgg9
  z9 := Tryz.sizeOf9
  v9 := Tryz.zeroValue9
  t21 := Tryz.underlying21
  a21 := Tryz.isAgg21
  z21 := Tryz.sizeOf21
  v21 := Tryz.zeroValue21
  t46 := Tryz.underlying98
  a46 := Tryz.isAgg98
  z46 := Tryz.sizeOf98
  v46 := Tryz.zeroValue98
  t105 := Tryz.underlying84
  a105 := Tryz.isAgg84
  z105 := Tryz.sizeOf84
  v105 := Tryz.zeroValue84
  t119 := Tryz.underlying119
  a119 := Tryz.isAgg119
  z119 := Tryz.sizeOf119
  t138 := Tryz.underlying121
  a138 := Tryz.isAgg121
  z138 := Tryz.sizeOf121
  v138 := Tryz.zeroValue121
  t139 := Tryz.underlying122
  a139 := Tryz.isAgg122
  z139 := Tryz.sizeOf122
  v139 := Tryz.zeroValue122
  g3 := by kernel_rfl
  g4 := by kernel_rfl }
open Go.RowKit Go.Lib in
theorem Tryz.utf8_DecodeRuneInString (s : ByteArray) (w : World) (hT : Lib.Utf8Tabs 3 4 w) :
    Calls Tryz.prog 25 #[.string s] w fun e w' => e = .returned (.tuple #[.int .i32 (Lib.decodeGo s).1, .int .i64 (Lib.decodeGo s).2]) ∧ Below w.heap.size w w' := Any.utf8_DecodeRuneInString Tryz.lays197 s w hT
def Tryz.lays274_ren : Go.Shelf.Ren := ⟨fun | 274 => 45 | n => n, fun | 21 => 21 | 162 => 103 | 160 => 101 | 3 => 3 | 4 => 4 | 46 => 98 | 0 => 0 | 208 => 127 | 51 => 123 | 206 => 125 | n => n, fun | n => n⟩
theorem Tryz.lays274 : Go.Proofs.Lays.n274 Tryz.prog Tryz.lays274_ren := {
  mixed := by kernel_rfl
  f274 := Tryz.func45.trans (congrArg some (by kernel_rfl))
  t0 := Tryz.underlying0
  a0 := Tryz.isAgg0
  z0 := Tryz.sizeOf0
  v0 := Tryz.zeroValue0
  t3 := Tryz.underlying3
  a3 := Tryz.isAgg3
  z3 := Tryz.sizeOf3
  v3 := Tryz.zeroValue3
  t4 := Tryz.underlying4
  a4 := Tryz.isAgg4
  z4 := Tryz.sizeOf4
  v4 := Tryz.zeroValue4
  t21 := Tryz.underlying21
  a21 := Tryz.isAgg21
  z21 := Tryz.sizeOf21
  v21 := Tryz.zeroValue21
  t46 := Tryz.underlying98
  a46 := Tryz.isAgg98
  z46 := Tryz.sizeOf98
  v46 := Tryz.zeroValue98
  t51 := Tryz.underlying123
  a51 := Tryz.isAgg123
  z51 := Tryz.sizeOf123
  v51 := Tryz.zeroValue123
  t160 := Tryz.underlying101
  a160 := Tryz.isAgg101
  z160 := Tryz.sizeOf101
  v160 := Tryz.zeroValue101
  t162 := Tryz.underlying103
  a162 := Tryz.isAgg103
  z162 := Tryz.sizeOf103
  v162 := Tryz.zeroValue103
  t208 := Tryz.underlying127
  a208 := Tryz.isAgg127
  z208 := Tryz.sizeOf127
  v208 := Tryz.zeroValue127 }
open Go.RowKit Go.Lib in
theorem Tryz.unicode_lookupCaseRange (T : Array CaseRow) (R oR cap : Nat) (r : Int) (w : World) (hT : CaseTab R oR T w) (hok : CaseOk T) (hn : T.size ≤ 1000000000) :
    Calls Tryz.prog 45 #[.int .i32 r, .slice (some ⟨R, oR, none⟩) T.size cap] w fun e w' =>
      e = .returned (match lookupIdx T r (T.size + 1) 0 T.size with | some i => .pointer (some ⟨R, oR + i * 5, none⟩) | none => .pointer none) ∧ w' = w := Any.unicode_lookupCaseRange Tryz.lays274 T R oR cap r w hT hok hn
def Tryz.lays275_ren : Go.Shelf.Ren := ⟨fun | 275 => 46 | n => n, fun | 3 => 3 | 21 => 21 | 160 => 101 | 0 => 0 | 208 => 127 | 206 => 125 | 4 => 4 | 51 => 123 | n => n, fun | n => n⟩
theorem Tryz.lays275 : Go.Proofs.Lays.n275 Tryz.prog Tryz.lays275_ren := {
  mixed := by kernel_rfl
  f275 := Tryz.func46.trans (congrArg some (by kernel_rfl))
  t0 := Tryz.underlying0
  a0 := Tryz.isAgg0
  z0 := Tryz.sizeOf0
  v0 := Tryz.zeroValue0
  t3 := Tryz.underlying3
  a3 := Tryz.isAgg3
  z3 := Tryz.sizeOf3
  v3 := Tryz.zeroValue3
  t4 := Tryz.underlying4
  a4 := Tryz.isAgg4
  z4 := Tryz.sizeOf4
  v4 := Tryz.zeroValue4
  t21 := Tryz.underlying21
  a21 := Tryz.isAgg21
  z21 := Tryz.sizeOf21
  v21 := Tryz.zeroValue21
  t51 := Tryz.underlying123
  a51 := Tryz.isAgg123
  z51 := Tryz.sizeOf123
  v51 := Tryz.zeroValue123
  t160 := Tryz.underlying101
  a160 := Tryz.isAgg101
  z160 := Tryz.sizeOf101
  v160 := Tryz.zeroValue101
  t206 := Tryz.underlying125
  a206 := Tryz.isAgg125
  z206 := Tryz.sizeOf125
  v206 := Tryz.zeroValue125
  t208 := Tryz.underlying127
  a208 := Tryz.isAgg127
  z208 := Tryz.sizeOf127
  v208 := Tryz.zeroValue127 }
open Go.RowKit Go.Lib in
theorem Tryz.unicode_convertCase (c : Nat) (hc : c < 3) (r : Int) (A o : Nat) (x : CaseRow) (w : World) (hlo : (x.1 : Int) ≤ r) (hhi : r ≤ (x.2.1 : Int)) (hH : x.2.1 < 2147483647) (c0 : w.cell? ⟨A, o, none⟩ = some (.int .u32 x.1)) (cD : w.cell? ⟨A, o + 2 + c, none⟩ = some (.int .i32 (x.delta c))) :
    Calls Tryz.prog 46 #[.int .i64 c, .int .i32 r, .pointer (some ⟨A, o, none⟩)] w fun e w' => e = .returned (.int .i32 (wrap32 (convertR c r x))) ∧ ∃ q, w' = w.drewN q := Any.unicode_convertCase Tryz.lays275 c hc r A o x w hlo hhi hH c0 cD
open Go.RowKit Go.Lib in
theorem Tryz.strings_ToLower_any (s : ByteArray) (w : World) (hs : s.size < 35184372088832) (hV : CaseVar 2 caseA w) (hT : Lib.Utf8Tabs 3 4 w) :
    Calls Tryz.prog 11 #[.string s] w fun e w' => e = .returned (.string ⟨(Lib.toLowerD s.data.toList).toArray⟩) ∧ Below w.heap.size w w' := Any.strings_ToLower_any Tryz.lays159 Tryz.Builder_Extra_159 s w hs hV hT
end Go.Proofs
