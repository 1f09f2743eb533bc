/-
  Contracts of the library at this program, laid by the kit's shelf tools.
-/
import Derived.Shelf.Small.Strs
import Derived.Shelf.Strings.IndexAnyAll
import Derived.Shelf.Strings.Repeat
import Derived.Test.YtfhkkpfkkhpohaaFmtProg
namespace Go.Proofs
open Go.Shelf
def Tryf.lays137_ren : Go.Shelf.Ren := ⟨fun | 137 => 18 | 217 => 25 | 266 => 36 | n => n, fun | 9 => 9 | 5 => 5 | 3 => 3 | n => n, fun | n => n⟩
theorem Tryf.lays137 : Go.Proofs.Lays.n137 Tryf.prog Tryf.lays137_ren := {
  mixed := by kernel_rfl
  f137 := Tryf.func18.trans (congrArg some (by kernel_rfl))
  f217 := Tryf.func25.trans (congrArg some (by kernel_rfl))
  f266 := Tryf.func36.trans (congrArg some (by kernel_rfl))
  t3 := Tryf.underlying3
  a3 := Tryf.isAgg3
  z3 := Tryf.sizeOf3
  v3 := Tryf.zeroValue3
  t5 := Tryf.underlying5
  a5 := Tryf.isAgg5
  z5 := Tryf.sizeOf5
  v5 := Tryf.zeroValue5
  t9 := Tryf.underlying9
  a9 := Tryf.isAgg9
  z9 := Tryf.sizeOf9
  v9 := Tryf.zeroValue9 }
open Go.RowKit in
theorem Tryf.strings_IndexByte (s : ByteArray) (c : Int) (w : World) :
    Calls Tryf.prog 18 #[.string s, .int .u8 c] w fun e w' => e = .returned (.int .i64 (Lib.indexByte s.data.toList c.toNat.toUInt8)) ∧ w' = w := Any.strings_IndexByte Tryf.lays137 s c w
def Tryf.lays150_ren : Go.Shelf.Ren := ⟨fun | 150 => 17 | 153 => 24 | 152 => 32 | 226 => 33 | 227 => 34 | 228 => 35 | 137 => 18 | 119 => 42 | 224 => 43 | 225 => 44 | 217 => 25 | 266 => 36 | n => n, fun | 9 => 9 | 4 => 4 | 3 => 3 | 5 => 5 | 21 => 21 | 117 => 76 | 116 => 75 | 0 => 0 | 46 => 43 | 124 => 87 | n => n, fun | n => n⟩
theorem Tryf.lays150 : Go.Proofs.Lays.n150 Tryf.prog Tryf.lays150_ren := {
  mixed := by kernel_rfl
  f119 := Tryf.func42.trans (congrArg some (by kernel_rfl))
  f137 := Tryf.func18.trans (congrArg some (by kernel_rfl))
  f150 := Tryf.func17.trans (congrArg some (by kernel_rfl))
  f152 := Tryf.func32.trans (congrArg some (by kernel_rfl))
  f153 := Tryf.func24.trans (congrArg some (by kernel_rfl))
  f217 := Tryf.func25.trans (congrArg some (by kernel_rfl))
  f224 := Tryf.func43.trans (congrArg some (by kernel_rfl))
  f225 := Tryf.func44.trans (congrArg some (by kernel_rfl))
  f226 := Tryf.func33.trans (congrArg some (by kernel_rfl))
  f227 := Tryf.func34.trans (congrArg some (by kernel_rfl))
  f228 := Tryf.func35.trans (congrArg some (by kernel_rfl))
  f266 := Tryf.func36.trans (congrArg some (by kernel_rfl))
  t0 := Tryf.underlying0
  a0 := Tryf.isAgg0
  z0 := Tryf.sizeOf0
  v0 := Tryf.zeroValue0
  t3 := Tryf.underlying3
  a3 := Tryf.isAgg3
  z3 := Tryf.sizeOf3
  v3 := Tryf.zeroValue3
  t4 := Tryf.underlying4
  a4 := Tryf.isAgg4
  z4 := Tryf.sizeOf4
  v4 := Tryf.zeroValue4
  t5 := Tryf.underlying5
  a5 := Tryf.isAgg5
  z5 := Tryf.sizeOf5
  v5 := Tryf.zeroValue5
  t9 := Tryf.underlying9
  a9 := Tryf.isAgg9
  z9 := Tryf.sizeOf9
  v9 := Tryf.zeroValue9
  t21 := Tryf.underlying21
  a21 := Tryf.isAgg21
  z21 := Tryf.sizeOf21
  v21 := Tryf.zeroValue21
  t46 := Tryf.underlying43
  a46 := Tryf.isAgg43
  z46 := Tryf.sizeOf43
  v46 := Tryf.zeroValue43
  t116 := Tryf.underlying75
  a116 := Tryf.isAgg75
  z116 := Tryf.sizeOf75
  t117 := Tryf.underlying76
  a117 := Tryf.isAgg76
  z117 := Tryf.sizeOf76
  v117 := Tryf.zeroValue76
  t124 := Tryf.underlying87
  a124 := Tryf.isAgg87
  z124 := Tryf.sizeOf87
  v124 := Tryf.zeroValue87 }
open Go.RowKit Go.Lib in
theorem Tryf.strings_ContainsAny_laid (s chars : ByteArray) (w : World) (hs : s.size < 4294967281) (hcs : chars.size < 4294967281) (has : ∀ (j : Nat) b, s.data.toList[j]? = some b → b.toNat < 128) (hac : ∀ (j : Nat) b, chars.data.toList[j]? = some b → b.toNat < 128) :
    Calls Tryf.prog 17 #[.string s, .string chars] w fun e w' => e = .returned (.bool (Lib.containsAny s.data.toList chars.data.toList)) ∧ Below w.heap.size w w' := Any.strings_ContainsAny_laid Tryf.lays150 (by kernel_rfl) s chars w hs hcs has hac
def Tryf.lays105_ren : Go.Shelf.Ren := ⟨fun | 105 => 19 | 212 => 26 | 99 => 27 | 165 => 28 | 166 => 29 | 170 => 30 | 169 => 31 | 263 => 37 | 264 => 38 | 206 => 39 | 240 => 40 | 241 => 41 | 276 => 45 | 277 => 46 | n => n, fun | 9 => 9 | 3 => 3 | 4 => 4 | 20 => 20 | 0 => 0 | 46 => 43 | 109 => 51 | 5 => 5 | 72 => 55 | 76 => 59 | 51 => 67 | 146 => 79 | 53 => 81 | 148 => 82 | 70 => 53 | 37 => 23 | 75 => 58 | 127 => 84 | 164 => 88 | 80 => 62 | n => n, fun | n => n⟩
theorem Tryf.lays105 : Go.Proofs.Lays.n105 Tryf.prog Tryf.lays105_ren := {
  mixed := by kernel_rfl
  f99 := Tryf.func27.trans (congrArg some (by kernel_rfl))
  f105 := Tryf.func19.trans (congrArg some (by kernel_rfl))
  f165 := Tryf.func28.trans (congrArg some (by kernel_rfl))
  f166 := Tryf.func29.trans (congrArg some (by kernel_rfl))
  f169 := Tryf.func31.trans (congrArg some (by kernel_rfl))
  f170 := Tryf.func30.trans (congrArg some (by kernel_rfl))
  f206 := Tryf.func39.trans (congrArg some (by kernel_rfl))
  f212 := Tryf.func26.trans (congrArg some (by kernel_rfl))
  f240 := Tryf.func40.trans (congrArg some (by kernel_rfl))
  f241 := Tryf.func41.trans (congrArg some (by kernel_rfl))
  f263 := Tryf.func37.trans (congrArg some (by kernel_rfl))
  f264 := Tryf.func38.trans (congrArg some (by kernel_rfl))
  f276 := Tryf.func45.trans (congrArg some (by kernel_rfl))
  f277 := Tryf.func46.trans (congrArg some (by kernel_rfl))
  t0 := Tryf.underlying0
  a0 := Tryf.isAgg0
  z0 := Tryf.sizeOf0
  v0 := Tryf.zeroValue0
  t3 := Tryf.underlying3
  a3 := Tryf.isAgg3
  z3 := Tryf.sizeOf3
  v3 := Tryf.zeroValue3
  t4 := Tryf.underlying4
  a4 := Tryf.isAgg4
  z4 := Tryf.sizeOf4
  v4 := Tryf.zeroValue4
  t5 := Tryf.underlying5
  a5 := Tryf.isAgg5
  z5 := Tryf.sizeOf5
  v5 := Tryf.zeroValue5
  t9 := Tryf.underlying9
  a9 := Tryf.isAgg9
  z9 := Tryf.sizeOf9
  v9 := Tryf.zeroValue9
  t20 := Tryf.underlying20
  a20 := Tryf.isAgg20
  z20 := Tryf.sizeOf20
  v20 := Tryf.zeroValue20
  t37 := Tryf.underlying23
  a37 := Tryf.isAgg23
  z37 := Tryf.sizeOf23
  v37 := Tryf.zeroValue23
  t46 := Tryf.underlying43
  a46 := Tryf.isAgg43
  z46 := Tryf.sizeOf43
  v46 := Tryf.zeroValue43
  t51 := Tryf.underlying67
  a51 := Tryf.isAgg67
  z51 := Tryf.sizeOf67
  v51 := Tryf.zeroValue67
  t53 := Tryf.underlying81
  a53 := Tryf.isAgg81
  z53 := Tryf.sizeOf81
  v53 := Tryf.zeroValue81
  t70 := Tryf.underlying53
  a70 := Tryf.isAgg53
  z70 := Tryf.sizeOf53
  v70 := Tryf.zeroValue53
  t72 := Tryf.underlying55
  a72 := Tryf.isAgg55
  z72 := Tryf.sizeOf55
  v72 := Tryf.zeroValue55
  t75 := Tryf.underlying58
  a75 := Tryf.isAgg58
  z75 := Tryf.sizeOf58
  v75 := Tryf.zeroValue58
  t76 := Tryf.underlying59
  a76 := Tryf.isAgg59
  z76 := Tryf.sizeOf59
  v76 := Tryf.zeroValue59
  t109 := Tryf.underlying51
  a109 := Tryf.isAgg51
  z109 := Tryf.sizeOf51
  v109 := Tryf.zeroValue51
  t127 := Tryf.underlying84
  a127 := Tryf.isAgg84
  z127 := Tryf.sizeOf84
  v127 := Tryf.zeroValue84
  t146 := Tryf.underlying79
  a146 := Tryf.isAgg79
  z146 := Tryf.sizeOf79
  v146 := Tryf.zeroValue79
  t148 := Tryf.underlying82
  a148 := Tryf.isAgg82
  z148 := Tryf.sizeOf82
  v148 := Tryf.zeroValue82
  t164 := Tryf.underlying88
  a164 := Tryf.isAgg88
  z164 := Tryf.sizeOf88
  v164 := Tryf.zeroValue88 }
theorem Tryf.Builder_Extra_105 : Builder.Extra Tryf.prog Tryf.lays105_ren := {
  sizeBuilder := by kernel_rfl
  liesBuilder := by kernel_rfl
  t5 := Tryf.underlying5
  a5 := Tryf.isAgg5
  z5 := Tryf.sizeOf5
  v5 := Tryf.zeroValue5
  infoByte := by kernel_rfl
  cellsByte := by kernel_rfl
  sizeByte := by kernel_rfl
  neB5 := by decide }
open Go.RowKit Go.Lib in
theorem Tryf.strings_Repeat (s : ByteArray) (c : Nat) (w : World) (hc : c ≤ 9223372036854775807) (hlen : s.size * c ≤ 140737488355328) :
    Calls Tryf.prog 19 #[.string s, .int .i64 c] w fun e w' => e = .returned (.string ⟨(Lib.repeatL s.data.toList c).toArray⟩) ∧ Below w.heap.size w w' := Any.strings_Repeat Tryf.lays105 Tryf.Builder_Extra_105 s c w hc hlen
end Go.Proofs
