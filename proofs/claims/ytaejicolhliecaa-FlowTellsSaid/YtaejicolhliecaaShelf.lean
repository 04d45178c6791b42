/- The library's contracts that these laws use, as the shelf's plain mode lays them at this program. -/
import Derived.Shelf.Small.Strs
import Derived.Shelf.Strings.Search1
import Derived.Shelf.Strings.Repeat
import Derived.Test.YtaejicolhliecaaProg
namespace Go.Proofs
open Go.Shelf
def Try.lays137_ren : Go.Shelf.Ren := ⟨fun | 137 => 47 | 217 => 60 | 266 => 68 | n => n, fun | 9 => 9 | 5 => 5 | 3 => 3 | n => n, fun | n => n⟩
theorem Try.lays137 : Go.Proofs.Lays.n137 Try.prog Try.lays137_ren := {
  mixed := by kernel_rfl
  f137 := Try.func47.trans (congrArg some (by kernel_rfl))
  f217 := Try.func60.trans (congrArg some (by kernel_rfl))
  f266 := Try.func68.trans (congrArg some (by kernel_rfl))
  t3 := Try.underlying3
  a3 := Try.isAgg3
  z3 := Try.sizeOf3
  v3 := Try.zeroValue3
  t5 := Try.underlying5
  a5 := Try.isAgg5
  z5 := Try.sizeOf5
  v5 := Try.zeroValue5
  t9 := Try.underlying9
  a9 := Try.isAgg9
  z9 := Try.sizeOf9
  v9 := Try.zeroValue9 }
open Go.RowKit in
/-- strings.IndexByte: "IndexByte returns the index of the first instance of c in s, or -1 if c is not present in s.": IT RETURNS 'Lib.indexByte s c'; the world is as it was. (LAID: no walk: one application.) -/
theorem Try.strings_IndexByte (s : ByteArray) (c : Int) (w : World) :
    Calls Try.prog 47 #[.string s, .int .u8 c] w fun e w' => e = .returned (.int .i64 (Lib.indexByte s.data.toList c.toNat.toUInt8)) ∧ w' = w := Any.strings_IndexByte Try.lays137 s c w
def Try.lays105_ren : Go.Shelf.Ren := ⟨fun | 105 => 50 | 212 => 62 | 99 => 63 | 165 => 64 | 166 => 49 | 170 => 48 | 169 => 33 | 263 => 70 | 264 => 71 | 206 => 72 | 240 => 61 | 241 => 73 | 276 => 69 | 277 => 74 | n => n, fun | 9 => 9 | 3 => 3 | 4 => 4 | 20 => 20 | 0 => 0 | 46 => 92 | 109 => 93 | 5 => 5 | 72 => 60 | 76 => 81 | 51 => 100 | 146 => 101 | 53 => 103 | 148 => 104 | 70 => 58 | 37 => 36 | 75 => 80 | 127 => 76 | 164 => 98 | 80 => 34 | n => n, fun | n => n⟩
theorem Try.lays105 : Go.Proofs.Lays.n105 Try.prog Try.lays105_ren := {
  mixed := by kernel_rfl
  f99 := Try.func63.trans (congrArg some (by kernel_rfl))
  f105 := Try.func50.trans (congrArg some (by kernel_rfl))
  f165 := Try.func64.trans (congrArg some (by kernel_rfl))
  f166 := Try.func49.trans (congrArg some (by kernel_rfl))
  f169 := Try.func33.trans (congrArg some (by kernel_rfl))
  f170 := Try.func48.trans (congrArg some (by kernel_rfl))
  f206 := Try.func72.trans (congrArg some (by kernel_rfl))
  f212 := Try.func62.trans (congrArg some (by kernel_rfl))
  f240 := Try.func61.trans (congrArg some (by kernel_rfl))
  f241 := Try.func73.trans (congrArg some (by kernel_rfl))
  f263 := Try.func70.trans (congrArg some (by kernel_rfl))
  f264 := Try.func71.trans (congrArg some (by kernel_rfl))
  f276 := Try.func69.trans (congrArg some (by kernel_rfl))
  f277 := Try.func74.trans (congrArg some (by kernel_rfl))
  t0 := Try.underlying0
  a0 := Try.isAgg0
  z0 := Try.sizeOf0
  v0 := Try.zeroValue0
  t3 := Try.underlying3
  a3 := Try.isAgg3
  z3 := Try.sizeOf3
  v3 := Try.zeroValue3
  t4 := Try.underlying4
  a4 := Try.isAgg4
  z4 := Try.sizeOf4
  v4 := Try.zeroValue4
  t5 := Try.underlying5
  a5 := Try.isAgg5
  z5 := Try.sizeOf5
  v5 := Try.zeroValue5
  t9 := Try.underlying9
  a9 := Try.isAgg9
  z9 := Try.sizeOf9
  v9 := Try.zeroValue9
  t20 := Try.underlying20
  a20 := Try.isAgg20
  z20 := Try.sizeOf20
  v20 := Try.zeroValue20
  t37 := Try.underlying36
  a37 := Try.isAgg36
  z37 := Try.sizeOf36
  v37 := Try.zeroValue36
  t46 := Try.underlying92
  a46 := Try.isAgg92
  z46 := Try.sizeOf92
  v46 := Try.zeroValue92
  t51 := Try.underlying100
  a51 := Try.isAgg100
  z51 := Try.sizeOf100
  v51 := Try.zeroValue100
  t53 := Try.underlying103
  a53 := Try.isAgg103
  z53 := Try.sizeOf103
  v53 := Try.zeroValue103
  t70 := Try.underlying58
  a70 := Try.isAgg58
  z70 := Try.sizeOf58
  v70 := Try.zeroValue58
  t72 := Try.underlying60
  a72 := Try.isAgg60
  z72 := Try.sizeOf60
  v72 := Try.zeroValue60
  t75 := Try.underlying80
  a75 := Try.isAgg80
  z75 := Try.sizeOf80
  v75 := Try.zeroValue80
  t76 := Try.underlying81
  a76 := Try.isAgg81
  z76 := Try.sizeOf81
  v76 := Try.zeroValue81
  t109 := Try.underlying93
  a109 := Try.isAgg93
  z109 := Try.sizeOf93
  v109 := Try.zeroValue93
  t127 := Try.underlying76
  a127 := Try.isAgg76
  z127 := Try.sizeOf76
  v127 := Try.zeroValue76
  t146 := Try.underlying101
  a146 := Try.isAgg101
  z146 := Try.sizeOf101
  v146 := Try.zeroValue101
  t148 := Try.underlying104
  a148 := Try.isAgg104
  z148 := Try.sizeOf104
  v148 := Try.zeroValue104
  t164 := Try.underlying98
  a164 := Try.isAgg98
  z164 := Try.sizeOf98
  v164 := Try.zeroValue98 }
theorem Try.Builder_Extra_105 : Builder.Extra Try.prog Try.lays105_ren := {
  sizeBuilder := by kernel_rfl
  liesBuilder := by kernel_rfl
  t5 := Try.underlying5
  a5 := Try.isAgg5
  z5 := Try.sizeOf5
  v5 := Try.zeroValue5
  infoByte := by kernel_rfl
  cellsByte := by kernel_rfl
  sizeByte := by kernel_rfl
  neB5 := by decide }
open Go.RowKit Go.Lib in
/-- THE MAIN CASE: at least two copies of a string that is not empty. (LAID: no walk: one application.) -/
theorem Try.strings_Repeat_main (s : ByteArray) (c : Nat) (w : World) (hc2 : 2 ≤ c) (hc : c ≤ 9223372036854775807) (hlen : s.size * c ≤ 140737488355328) (h0 : 0 < s.size) :
    Calls Try.prog 50 #[.string s, .int .i64 c] w fun e w' => e = .returned (.string ⟨(Lib.repeatL s.data.toList c).toArray⟩) ∧ Below w.heap.size w w' := Any.strings_Repeat_main Try.lays105 Try.Builder_Extra_105 s c w hc2 hc hlen h0
open Go.RowKit Go.Lib in
theorem Try.strings_Repeat_zero (s : ByteArray) (w : World) :
    Calls Try.prog 50 #[.string s, .int .i64 0] w fun e w' => e = .returned (.string ⟨#[]⟩) ∧ w' = w := Any.strings_Repeat_zero Try.lays105 s w
open Go.RowKit Go.Lib in
theorem Try.strings_Repeat_one (s : ByteArray) (w : World) :
    Calls Try.prog 50 #[.string s, .int .i64 1] w fun e w' => e = .returned (.string s) ∧ w' = w := Any.strings_Repeat_one Try.lays105 s w
open Go.RowKit Go.Lib in
/-- Copies of the empty string. (LAID: no walk: one application.) -/
theorem Try.strings_Repeat_empty (s : ByteArray) (c : Nat) (w : World) (hc2 : 2 ≤ c) (hc : c ≤ 9223372036854775807) (h0 : s.size = 0) :
    Calls Try.prog 50 #[.string s, .int .i64 c] w fun e w' => e = .returned (.string ⟨#[]⟩) ∧ w' = w := Any.strings_Repeat_empty Try.lays105 s c w hc2 hc h0
open Go.RowKit Go.Lib in
/-- count < 0: "It panics if count is negative". (LAID: no walk: one application.) -/
theorem Try.strings_Repeat_negative (s : ByteArray) (c : Int) (w : World) (hc : c < 0) :
    Calls Try.prog 50 #[.string s, .int .i64 c] w fun e w' => e = .panicked [{ v := repeatPanic Try.lays105_ren "strings: negative Repeat count", recovered := false }] ∧ w' = w := Any.strings_Repeat_negative Try.lays105 s c w hc
open Go.RowKit Go.Lib in
/-- len(s) * count is no int: ".. or if the result of (len(s) * count) overflows". (LAID: no walk: one application.) -/
theorem Try.strings_Repeat_overflow (s : ByteArray) (c : Nat) (w : World) (hc : c ≤ 9223372036854775807) (hs : s.size ≤ 9223372036854775807) (hbig : 9223372036854775807 < s.size * c) :
    Calls Try.prog 50 #[.string s, .int .i64 c] w fun e w' => e = .panicked [{ v := repeatPanic Try.lays105_ren "strings: Repeat output length overflow", recovered := false }] ∧ w' = w := Any.strings_Repeat_overflow Try.lays105 s c w hc hs hbig
open Go.RowKit Go.Lib in
/-- **strings.Repeat: count ≥ 0, the result within one allocation: count copies of s.** (LAID: no walk: one application.) -/
theorem Try.strings_Repeat (s : ByteArray) (c : Nat) (w : World) (hc : c ≤ 9223372036854775807) (hlen : s.size * c ≤ 140737488355328) :
    Calls Try.prog 50 #[.string s, .int .i64 c] w fun e w' => e = .returned (.string ⟨(Lib.repeatL s.data.toList c).toArray⟩) ∧ Below w.heap.size w w' := Any.strings_Repeat Try.lays105 Try.Builder_Extra_105 s c w hc hlen
end Go.Proofs
