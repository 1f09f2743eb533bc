/-
  Contracts of the library at this program, laid by the kit's shelf tools.
-/
import Derived.Shelf.Small.Strs
import Derived.Shelf.Strings.Search1
import Derived.Shelf.Strings.IndexAnyAll
import Derived.Shelf.Strings.Repeat
import Derived.Test.YtfhkkpfkkhpohabFmtProg
namespace Go.Proofs
open Go.Shelf
def Tryf.lays137_ren : Go.Shelf.Ren := ⟨fun | 137 => 14 | 217 => 18 | 266 => 29 | n => n, fun | 9 => 9 | 5 => 5 | 3 => 3 | n => n, fun | n => n⟩
theorem Tryf.lays137 : Go.Proofs.Lays.n137 Tryf.prog Tryf.lays137_ren := {
  mixed := by kernel_rfl
  f137 := Tryf.func14.trans (congrArg some (by kernel_rfl))
  f217 := Tryf.func18.trans (congrArg some (by kernel_rfl))
  f266 := Tryf.func29.trans (congrArg some (by kernel_rfl))
  t3 := Tryf.underlying3
  a3 := Tryf.isAgg3
  z3 := Tryf.sizeOf3
  v3 := Tryf.zeroValue3
  t5 := Tryf.underlying5
  a5 := Tryf.isAgg5
  z5 := Tryf.sizeOf5
  v5 := Tryf.zeroValue5
  t9 := Tryf.underlying9
  a9 := Tryf.isAgg9
  z9 := Tryf.sizeOf9
  v9 := Tryf.zeroValue9 }
open Go.RowKit in
theorem Tryf.strings_IndexByte (s : ByteArray) (c : Int) (w : World) :
    Calls Tryf.prog 14 #[.string s, .int .u8 c] w fun e w' => e = .returned (.int .i64 (Lib.indexByte s.data.toList c.toNat.toUInt8)) ∧ w' = w := Any.strings_IndexByte Tryf.lays137 s c w
def Tryf.lays217_ren : Go.Shelf.Ren := ⟨fun | 217 => 18 | 266 => 29 | n => n, fun | 9 => 9 | 5 => 5 | 3 => 3 | n => n, fun | n => n⟩
theorem Tryf.lays217 : Go.Proofs.Lays.n217 Tryf.prog Tryf.lays217_ren := {
  mixed := by kernel_rfl
  f217 := Tryf.func18.trans (congrArg some (by kernel_rfl))
  f266 := Tryf.func29.trans (congrArg some (by kernel_rfl))
  t3 := Tryf.underlying3
  a3 := Tryf.isAgg3
  z3 := Tryf.sizeOf3
  v3 := Tryf.zeroValue3
  t5 := Tryf.underlying5
  a5 := Tryf.isAgg5
  z5 := Tryf.sizeOf5
  v5 := Tryf.zeroValue5
  t9 := Tryf.underlying9
  a9 := Tryf.isAgg9
  z9 := Tryf.sizeOf9
  v9 := Tryf.zeroValue9 }
open Go.RowKit Go.Lib in
theorem Tryf.stringslite_IndexByte (s : ByteArray) (c : Int) (w : World) :
    Calls Tryf.prog 18 #[.string s, .int .u8 c] w fun e w' => e = .returned (.int .i64 (Lib.indexByte s.data.toList c.toNat.toUInt8)) ∧ w' = w := Any.stringslite_IndexByte Tryf.lays217 s c w
def Tryf.lays150_ren : Go.Shelf.Ren := ⟨fun | 150 => 13 | 153 => 17 | 152 => 25 | 226 => 26 | 227 => 27 | 228 => 28 | 137 => 14 | 119 => 35 | 224 => 36 | 225 => 37 | 217 => 18 | 266 => 29 | n => n, fun | 9 => 9 | 4 => 4 | 3 => 3 | 5 => 5 | 21 => 21 | 117 => 63 | 116 => 62 | 0 => 0 | 46 => 47 | 124 => 74 | n => n, fun | n => n⟩
theorem Tryf.lays150 : Go.Proofs.Lays.n150 Tryf.prog Tryf.lays150_ren := {
  mixed := by kernel_rfl
  f119 := Tryf.func35.trans (congrArg some (by kernel_rfl))
  f137 := Tryf.func14.trans (congrArg some (by kernel_rfl))
  f150 := Tryf.func13.trans (congrArg some (by kernel_rfl))
  f152 := Tryf.func25.trans (congrArg some (by kernel_rfl))
  f153 := Tryf.func17.trans (congrArg some (by kernel_rfl))
  f217 := Tryf.func18.trans (congrArg some (by kernel_rfl))
  f224 := Tryf.func36.trans (congrArg some (by kernel_rfl))
  f225 := Tryf.func37.trans (congrArg some (by kernel_rfl))
  f226 := Tryf.func26.trans (congrArg some (by kernel_rfl))
  f227 := Tryf.func27.trans (congrArg some (by kernel_rfl))
  f228 := Tryf.func28.trans (congrArg some (by kernel_rfl))
  f266 := Tryf.func29.trans (congrArg some (by kernel_rfl))
  t0 := Tryf.underlying0
  a0 := Tryf.isAgg0
  z0 := Tryf.sizeOf0
  v0 := Tryf.zeroValue0
  t3 := Tryf.underlying3
  a3 := Tryf.isAgg3
  z3 := Tryf.sizeOf3
  v3 := Tryf.zeroValue3
  t4 := Tryf.underlying4
  a4 := Tryf.isAgg4
  z4 := Tryf.sizeOf4
  v4 := Tryf.zeroValue4
  t5 := Tryf.underlying5
  a5 := Tryf.isAgg5
  z5 := Tryf.sizeOf5
  v5 := Tryf.zeroValue5
  t9 := Tryf.underlying9
  a9 := Tryf.isAgg9
  z9 := Tryf.sizeOf9
  v9 := Tryf.zeroValue9
  t21 := Tryf.underlying21
  a21 := Tryf.isAgg21
  z21 := Tryf.sizeOf21
  v21 := Tryf.zeroValue21
  t46 := Tryf.underlying47
  a46 := Tryf.isAgg47
  z46 := Tryf.sizeOf47
  v46 := Tryf.zeroValue47
  t116 := Tryf.underlying62
  a116 := Tryf.isAgg62
  z116 := Tryf.sizeOf62
  t117 := Tryf.underlying63
  a117 := Tryf.isAgg63
  z117 := Tryf.sizeOf63
  v117 := Tryf.zeroValue63
  t124 := Tryf.underlying74
  a124 := Tryf.isAgg74
  z124 := Tryf.sizeOf74
  v124 := Tryf.zeroValue74 }
open Go.RowKit Go.Lib in
theorem Tryf.strings_ContainsAny_laid (s chars : ByteArray) (w : World) (hs : s.size < 4294967281) (hcs : chars.size < 4294967281) (has : ∀ (j : Nat) b, s.data.toList[j]? = some b → b.toNat < 128) (hac : ∀ (j : Nat) b, chars.data.toList[j]? = some b → b.toNat < 128) :
    Calls Tryf.prog 13 #[.string s, .string chars] w fun e w' => e = .returned (.bool (Lib.containsAny s.data.toList chars.data.toList)) ∧ Below w.heap.size w w' := Any.strings_ContainsAny_laid Tryf.lays150 (by kernel_rfl) s chars w hs hcs has hac
def Tryf.lays105_ren : Go.Shelf.Ren := ⟨fun | 105 => 15 | 212 => 19 | 99 => 20 | 165 => 21 | 166 => 22 | 170 => 23 | 169 => 24 | 263 => 30 | 264 => 31 | 206 => 32 | 240 => 33 | 241 => 34 | 276 => 38 | 277 => 39 | n => n, fun | 9 => 9 | 3 => 3 | 4 => 4 | 20 => 20 | 0 => 0 | 46 => 47 | 109 => 48 | 5 => 5 | 72 => 52 | 76 => 56 | 51 => 30 | 146 => 66 | 53 => 68 | 148 => 69 | 70 => 50 | 37 => 41 | 75 => 55 | 127 => 71 | 164 => 75 | 80 => 40 | n => n, fun | n => n⟩
theorem Tryf.lays105 : Go.Proofs.Lays.n105 Tryf.prog Tryf.lays105_ren := {
  mixed := by kernel_rfl
  f99 := Tryf.func20.trans (congrArg some (by kernel_rfl))
  f105 := Tryf.func15.trans (congrArg some (by kernel_rfl))
  f165 := Tryf.func21.trans (congrArg some (by kernel_rfl))
  f166 := Tryf.func22.trans (congrArg some (by kernel_rfl))
  f169 := Tryf.func24.trans (congrArg some (by kernel_rfl))
  f170 := Tryf.func23.trans (congrArg some (by kernel_rfl))
  f206 := Tryf.func32.trans (congrArg some (by kernel_rfl))
  f212 := Tryf.func19.trans (congrArg some (by kernel_rfl))
  f240 := Tryf.func33.trans (congrArg some (by kernel_rfl))
  f241 := Tryf.func34.trans (congrArg some (by kernel_rfl))
  f263 := Tryf.func30.trans (congrArg some (by kernel_rfl))
  f264 := Tryf.func31.trans (congrArg some (by kernel_rfl))
  f276 := Tryf.func38.trans (congrArg some (by kernel_rfl))
  f277 := Tryf.func39.trans (congrArg some (by kernel_rfl))
  t0 := Tryf.underlying0
  a0 := Tryf.isAgg0
  z0 := Tryf.sizeOf0
  v0 := Tryf.zeroValue0
  t3 := Tryf.underlying3
  a3 := Tryf.isAgg3
  z3 := Tryf.sizeOf3
  v3 := Tryf.zeroValue3
  t4 := Tryf.underlying4
  a4 := Tryf.isAgg4
  z4 := Tryf.sizeOf4
  v4 := Tryf.zeroValue4
  t5 := Tryf.underlying5
  a5 := Tryf.isAgg5
  z5 := Tryf.sizeOf5
  v5 := Tryf.zeroValue5
  t9 := Tryf.underlying9
  a9 := Tryf.isAgg9
  z9 := Tryf.sizeOf9
  v9 := Tryf.zeroValue9
  t20 := Tryf.underlying20
  a20 := Tryf.isAgg20
  z20 := Tryf.sizeOf20
  v20 := Tryf.zeroValue20
  t37 := Tryf.underlying41
  a37 := Tryf.isAgg41
  z37 := Tryf.sizeOf41
  v37 := Tryf.zeroValue41
  t46 := Tryf.underlying47
  a46 := Tryf.isAgg47
  z46 := Tryf.sizeOf47
  v46 := Tryf.zeroValue47
  t51 := Tryf.underlying30
  a51 := Tryf.isAgg30
  z51 := Tryf.sizeOf30
  v51 := Tryf.zeroValue30
  t53 := Tryf.underlying68
  a53 := Tryf.isAgg68
  z53 := Tryf.sizeOf68
  v53 := Tryf.zeroValue68
  t70 := Tryf.underlying50
  a70 := Tryf.isAgg50
  z70 := Tryf.sizeOf50
  v70 := Tryf.zeroValue50
  t72 := Tryf.underlying52
  a72 := Tryf.isAgg52
  z72 := Tryf.sizeOf52
  v72 := Tryf.zeroValue52
  t75 := Tryf.underlying55
  a75 := Tryf.isAgg55
  z75 := Tryf.sizeOf55
  v75 := Tryf.zeroValue55
  t76 := Tryf.underlying56
  a76 := Tryf.isAgg56
  z76 := Tryf.sizeOf56
  v76 := Tryf.zeroValue56
  t109 := Tryf.underlying48
  a109 := Tryf.isAgg48
  z109 := Tryf.sizeOf48
  v109 := Tryf.zeroValue48
  t127 := Tryf.underlying71
  a127 := Tryf.isAgg71
  z127 := Tryf.sizeOf71
  v127 := Tryf.zeroValue71
  t146 := Tryf.underlying66
  a146 := Tryf.isAgg66
  z146 := Tryf.sizeOf66
  v146 := Tryf.zeroValue66
  t148 := Tryf.underlying69
  a148 := Tryf.isAgg69
  z148 := Tryf.sizeOf69
  v148 := Tryf.zeroValue69
  t164 := Tryf.underlying75
  a164 := Tryf.isAgg75
  z164 := Tryf.sizeOf75
  v164 := Tryf.zeroValue75 }
theorem Tryf.Builder_Extra_105 : Builder.Extra Tryf.prog Tryf.lays105_ren := {
  sizeBuilder := by kernel_rfl
  liesBuilder := by kernel_rfl
  t5 := Tryf.underlying5
  a5 := Tryf.isAgg5
  z5 := Tryf.sizeOf5
  v5 := Tryf.zeroValue5
  infoByte := by kernel_rfl
  cellsByte := by kernel_rfl
  sizeByte := by kernel_rfl
  neB5 := by decide }
open Go.RowKit Go.Lib in
theorem Tryf.strings_Repeat (s : ByteArray) (c : Nat) (w : World) (hc : c ≤ 9223372036854775807) (hlen : s.size * c ≤ 140737488355328) :
    Calls Tryf.prog 15 #[.string s, .int .i64 c] w fun e w' => e = .returned (.string ⟨(Lib.repeatL s.data.toList c).toArray⟩) ∧ Below w.heap.size w w' := Any.strings_Repeat Tryf.lays105 Tryf.Builder_Extra_105 s c w hc hlen
end Go.Proofs
