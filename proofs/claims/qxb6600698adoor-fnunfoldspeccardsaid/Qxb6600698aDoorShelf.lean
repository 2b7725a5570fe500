/- The library contracts of the shelf, laid at this dump by the kit's tools, in plain words. -/
import Derived.Shelf.Strings.Builder1
import Derived.Shelf.Strings.Search2
import Derived.Shelf.Strings.Prefix
import Derived.Shelf.Strings.SlTrimAscii
import Derived.Test.Qxb6600698aDoorProg
namespace Go.Proofs
open Go.Shelf
def Tryd.lays170_ren : Go.Shelf.Ren := ⟨fun | 170 => 30 | n => n, fun | 70 => 35 | 3 => 3 | 0 => 0 | 72 => 37 | 37 => 32 | 5 => 5 | n => n, fun | n => n⟩
theorem Tryd.lays170 : Go.Proofs.Lays.n170 Tryd.prog Tryd.lays170_ren := {
  mixed := by kernel_rfl
  f170 := Tryd.func30.trans (congrArg some (by kernel_rfl))
  t0 := Tryd.underlying0
  a0 := Tryd.isAgg0
  z0 := Tryd.sizeOf0
  v0 := Tryd.zeroValue0
  t3 := Tryd.underlying3
  a3 := Tryd.isAgg3
  z3 := Tryd.sizeOf3
  v3 := Tryd.zeroValue3
  t37 := Tryd.underlying32
  a37 := Tryd.isAgg32
  z37 := Tryd.sizeOf32
  v37 := Tryd.zeroValue32
  t70 := Tryd.underlying35
  a70 := Tryd.isAgg35
  z70 := Tryd.sizeOf35
  v70 := Tryd.zeroValue35
  t72 := Tryd.underlying37
  a72 := Tryd.isAgg37
  z72 := Tryd.sizeOf37
  v72 := Tryd.zeroValue37 }
open Go.RowKit in
/-- (*strings.Builder).Len -/
theorem Tryd.Builder_Len (B b : Nat) (bs : List Value) (w : World) (h : Lib.IsBuilder 37 5 B b bs w) :
    Calls Tryd.prog 30 #[.pointer (some ⟨b, 0, none⟩)] w fun e w' => e = .returned (.int .i64 bs.length) ∧ w' = w := Any.Builder_Len Tryd.lays170 B b bs w h
def Tryd.lays169_ren : Go.Shelf.Ren := ⟨fun | 169 => 32 | n => n, fun | 70 => 35 | 9 => 9 | 0 => 0 | 72 => 37 | 37 => 32 | 127 => 54 | 3 => 3 | 5 => 5 | n => n, fun | n => n⟩
theorem Tryd.lays169 : Go.Proofs.Lays.n169 Tryd.prog Tryd.lays169_ren := {
  mixed := by kernel_rfl
  f169 := Tryd.func32.trans (congrArg some (by kernel_rfl))
  t0 := Tryd.underlying0
  a0 := Tryd.isAgg0
  z0 := Tryd.sizeOf0
  v0 := Tryd.zeroValue0
  t3 := Tryd.underlying3
  a3 := Tryd.isAgg3
  z3 := Tryd.sizeOf3
  v3 := Tryd.zeroValue3
  t9 := Tryd.underlying9
  a9 := Tryd.isAgg9
  z9 := Tryd.sizeOf9
  v9 := Tryd.zeroValue9
  t37 := Tryd.underlying32
  a37 := Tryd.isAgg32
  z37 := Tryd.sizeOf32
  v37 := Tryd.zeroValue32
  t70 := Tryd.underlying35
  a70 := Tryd.isAgg35
  z70 := Tryd.sizeOf35
  v70 := Tryd.zeroValue35
  t72 := Tryd.underlying37
  a72 := Tryd.isAgg37
  z72 := Tryd.sizeOf37
  v72 := Tryd.zeroValue37
  t127 := Tryd.underlying54
  a127 := Tryd.isAgg54
  z127 := Tryd.sizeOf54
  v127 := Tryd.zeroValue54 }
theorem Tryd.Builder_Extra_169 : Builder.Extra Tryd.prog Tryd.lays169_ren := {
  sizeBuilder := by kernel_rfl
  liesBuilder := by kernel_rfl
  t5 := Tryd.underlying5
  a5 := Tryd.isAgg5
  z5 := Tryd.sizeOf5
  v5 := Tryd.zeroValue5
  infoByte := by kernel_rfl
  cellsByte := by kernel_rfl
  sizeByte := by kernel_rfl
  neB5 := by decide }
open Go.RowKit in
/-- (*strings.Builder).String -/
theorem Tryd.Builder_String_any (B b : Nat) (l : List UInt8) (w : World) (h : Lib.IsBuilder 37 5 B b (Lib.byteCells l) w) (hBw : B ≤ w.heap.size) :
    Calls Tryd.prog 32 #[.pointer (some ⟨b, 0, none⟩)] w fun e w' => e = .returned (.string ⟨l.toArray⟩) ∧ Below B w w' := Any.Builder_String_any Tryd.lays169 Tryd.Builder_Extra_169 B b l w h hBw
def Tryd.lays219_ren : Go.Shelf.Ren := ⟨fun | 219 => 54 | 217 => 60 | 225 => 59 | 224 => 58 | 267 => 61 | 266 => 62 | 314 => 63 | n => n, fun | 9 => 9 | 3 => 3 | 4 => 4 | 5 => 5 | 46 => 63 | 146 => 71 | 51 => 70 | n => n, fun | 1 => 2 | n => n⟩
theorem Tryd.lays219 : Go.Proofs.Lays.n219 Tryd.prog Tryd.lays219_ren := {
  mixed := by kernel_rfl
  f217 := Tryd.func60.trans (congrArg some (by kernel_rfl))
  f219 := Tryd.func54.trans (congrArg some (by kernel_rfl))
  f224 := Tryd.func58.trans (congrArg some (by kernel_rfl))
  f225 := Tryd.func59.trans (congrArg some (by kernel_rfl))
  f266 := Tryd.func62.trans (congrArg some (by kernel_rfl))
  f267 := Tryd.func61.trans (congrArg some (by kernel_rfl))
  f314 := Tryd.func63.trans (congrArg some (by kernel_rfl))
  t3 := Tryd.underlying3
  a3 := Tryd.isAgg3
  z3 := Tryd.sizeOf3
  v3 := Tryd.zeroValue3
  t4 := Tryd.underlying4
  a4 := Tryd.isAgg4
  z4 := Tryd.sizeOf4
  v4 := Tryd.zeroValue4
  t5 := Tryd.underlying5
  a5 := Tryd.isAgg5
  z5 := Tryd.sizeOf5
  v5 := Tryd.zeroValue5
  t9 := Tryd.underlying9
  a9 := Tryd.isAgg9
  z9 := Tryd.sizeOf9
  v9 := Tryd.zeroValue9
  t46 := Tryd.underlying63
  a46 := Tryd.isAgg63
  z46 := Tryd.sizeOf63
  v46 := Tryd.zeroValue63
  t51 := Tryd.underlying70
  a51 := Tryd.isAgg70
  z51 := Tryd.sizeOf70
  v51 := Tryd.zeroValue70
  t146 := Tryd.underlying71
  a146 := Tryd.isAgg71
  z146 := Tryd.sizeOf71
  v146 := Tryd.zeroValue71
  g1 := by kernel_rfl }
open Go.RowKit in
/-- internal/stringslite.Index at one byte -/
theorem Tryd.stringslite_Index_one (s : ByteArray) (c : UInt8) (w : World) :
    Calls Tryd.prog 54 #[.string s, .string ⟨#[c]⟩] w fun e w' => e = .returned (.int .i64 (Lib.indexByte s.data.toList c)) ∧ w' = w := Any.stringslite_Index_one Tryd.lays219 s c w
def Tryd.lays102_ren : Go.Shelf.Ren := ⟨fun | 102 => 43 | 209 => 50 | 207 => 55 | n => n, fun | 9 => 9 | 4 => 4 | 3 => 3 | n => n, fun | n => n⟩
theorem Tryd.lays102 : Go.Proofs.Lays.n102 Tryd.prog Tryd.lays102_ren := {
  mixed := by kernel_rfl
  f102 := Tryd.func43.trans (congrArg some (by kernel_rfl))
  f207 := Tryd.func55.trans (congrArg some (by kernel_rfl))
  f209 := Tryd.func50.trans (congrArg some (by kernel_rfl))
  t3 := Tryd.underlying3
  a3 := Tryd.isAgg3
  z3 := Tryd.sizeOf3
  v3 := Tryd.zeroValue3
  t4 := Tryd.underlying4
  a4 := Tryd.isAgg4
  z4 := Tryd.sizeOf4
  v4 := Tryd.zeroValue4
  t9 := Tryd.underlying9
  a9 := Tryd.isAgg9
  z9 := Tryd.sizeOf9
  v9 := Tryd.zeroValue9 }
open Go.RowKit in
/-- strings.TrimSuffix -/
theorem Tryd.strings_TrimSuffix (s p : ByteArray) (w : World) (hs : s.size ≤ 9223372036854775807) :
    Calls Tryd.prog 43 #[.string s, .string p] w fun e w' => e = .returned (.string ⟨(Lib.trimSuffix s.data.toList p.data.toList).toArray⟩) ∧ w' = w := Any.strings_TrimSuffix Tryd.lays102 s p w hs
def Tryd.lays160_ren : Go.Shelf.Ren := ⟨fun | 160 => 26 | 232 => 35 | 231 => 34 | 227 => 36 | 234 => 38 | 233 => 37 | 236 => 40 | 235 => 39 | 228 => 44 | 271 => 47 | 151 => 46 | 197 => 45 | 120 => 53 | 152 => 52 | 260 => 51 | 137 => 56 | 119 => 57 | 224 => 58 | 225 => 59 | 217 => 60 | 266 => 62 | n => n, fun | 9 => 9 | 4 => 4 | 3 => 3 | 5 => 5 | 117 => 50 | 116 => 49 | 0 => 0 | 124 => 53 | 21 => 21 | 105 => 55 | 46 => 63 | 119 => 62 | 139 => 66 | 138 => 65 | n => n, fun | 3 => 0 | 4 => 1 | n => n⟩
theorem Tryd.lays160 : Go.Proofs.Lays.n160 Tryd.prog Tryd.lays160_ren := {
  mixed := by kernel_rfl
  f119 := Tryd.func57.trans (congrArg some (by kernel_rfl))
  f120 := Tryd.func53.trans (congrArg some (by kernel_rfl))
  f137 := Tryd.func56.trans (congrArg some (by kernel_rfl))
  f151 := Tryd.func46.trans (congrArg some (by kernel_rfl))
  f152 := Tryd.func52.trans (congrArg some (by kernel_rfl))
  f160 := Tryd.func26.trans (congrArg some (by kernel_rfl))
  f197 := Tryd.func45.trans (congrArg some (by kernel_rfl))
  f217 := Tryd.func60.trans (congrArg some (by kernel_rfl))
  f224 := Tryd.func58.trans (congrArg some (by kernel_rfl))
  f225 := Tryd.func59.trans (congrArg some (by kernel_rfl))
  f227 := Tryd.func36.trans (congrArg some (by kernel_rfl))
  f228 := Tryd.func44.trans (congrArg some (by kernel_rfl))
  f231 := Tryd.func34.trans (congrArg some (by kernel_rfl))
  f232 := Tryd.func35.trans (congrArg some (by kernel_rfl))
  f233 := Tryd.func37.trans (congrArg some (by kernel_rfl))
  f234 := Tryd.func38.trans (congrArg some (by kernel_rfl))
  f235 := Tryd.func39.trans (congrArg some (by kernel_rfl))
  f236 := Tryd.func40.trans (congrArg some (by kernel_rfl))
  f260 := Tryd.func51.trans (congrArg some (by kernel_rfl))
  f266 := Tryd.func62.trans (congrArg some (by kernel_rfl))
  f271 := Tryd.func47.trans (congrArg some (by kernel_rfl))
  t0 := Tryd.underlying0
  a0 := Tryd.isAgg0
  z0 := Tryd.sizeOf0
  v0 := Tryd.zeroValue0
  t3 := Tryd.underlying3
  a3 := Tryd.isAgg3
  z3 := Tryd.sizeOf3
  v3 := Tryd.zeroValue3
  t4 := Tryd.underlying4
  a4 := Tryd.isAgg4
  z4 := Tryd.sizeOf4
  v4 := Tryd.zeroValue4
  t5 := Tryd.underlying5
  a5 := Tryd.isAgg5
  z5 := Tryd.sizeOf5
  v5 := Tryd.zeroValue5
  t9 := Tryd.underlying9
  a9 := Tryd.isAgg9
  z9 := Tryd.sizeOf9
  v9 := Tryd.zeroValue9
  t21 := Tryd.underlying21
  a21 := Tryd.isAgg21
  z21 := Tryd.sizeOf21
  v21 := Tryd.zeroValue21
  t46 := Tryd.underlying63
  a46 := Tryd.isAgg63
  z46 := Tryd.sizeOf63
  v46 := Tryd.zeroValue63
  t105 := Tryd.underlying55
  a105 := Tryd.isAgg55
  z105 := Tryd.sizeOf55
  v105 := Tryd.zeroValue55
  t116 := Tryd.underlying49
  a116 := Tryd.isAgg49
  z116 := Tryd.sizeOf49
  t117 := Tryd.underlying50
  a117 := Tryd.isAgg50
  z117 := Tryd.sizeOf50
  v117 := Tryd.zeroValue50
  t119 := Tryd.underlying62
  a119 := Tryd.isAgg62
  z119 := Tryd.sizeOf62
  t124 := Tryd.underlying53
  a124 := Tryd.isAgg53
  z124 := Tryd.sizeOf53
  v124 := Tryd.zeroValue53
  t138 := Tryd.underlying65
  a138 := Tryd.isAgg65
  z138 := Tryd.sizeOf65
  v138 := Tryd.zeroValue65
  t139 := Tryd.underlying66
  a139 := Tryd.isAgg66
  z139 := Tryd.sizeOf66
  v139 := Tryd.zeroValue66
  g3 := by kernel_rfl
  g4 := by kernel_rfl }
open Go.RowKit in
/-- strings.Trim at an ASCII cutset -/
theorem Tryd.strings_Trim_laid (s cutset : ByteArray) (w : World) (hs : s.size ≤ 9223372036854775807) (hcs : cutset.size < 4294967281) (hascii : ∀ (j : Nat) b, cutset.data.toList[j]? = some b → b.toNat < 128) :
    Calls Tryd.prog 26 #[.string s, .string cutset] w fun e w' => e = .returned (.string ⟨(Lib.trimS s.data.toList cutset.data.toList).toArray⟩) ∧ Below w.heap.size w w' := Any.strings_Trim_laid Tryd.lays160 (by kernel_rfl) s cutset w hs hcs hascii
end Go.Proofs
