/-
  A part of the proof (my own): of the texts that the claim's last text rests on: parts Types.
-/
import Derived.Test.YtigjokkakcmmdaaGreatDoorChecked
import Derived.Test.YtigjokkakcmmdaaGreatDoorT04
set_option linter.unusedSimpArgs false
set_option linter.unusedVariables false
section
namespace Go.Tb
open Go Go.Proofs
set_option maxRecDepth 10000
theorem sz2 : tSz Tryz.prog 2 = some (false, 1) := by kernel_rfl
theorem ti2 : tInt Tryz.prog 2 = some .i64 := by kernel_rfl
theorem un2 : Tryz.prog.underlying 2 = some (.int .i64) := by kernel_rfl
theorem tz2 : tZero Tryz.prog 2 = some [.int .i64 0] := by kernel_rfl
theorem sz3 : tSz Tryz.prog 3 = some (false, 1) := by kernel_rfl
theorem ti3 : tInt Tryz.prog 3 = some .i64 := by kernel_rfl
theorem un3 : Tryz.prog.underlying 3 = some (.int .i64) := by kernel_rfl
theorem tz3 : tZero Tryz.prog 3 = some [.int .i64 0] := by kernel_rfl
theorem sz4 : tSz Tryz.prog 4 = some (false, 1) := by kernel_rfl
theorem un4 : Tryz.prog.underlying 4 = some (.bool) := by kernel_rfl
theorem tz4 : tZero Tryz.prog 4 = some [.bool false] := by kernel_rfl
theorem sz5 : tSz Tryz.prog 5 = some (false, 1) := by kernel_rfl
theorem ti5 : tInt Tryz.prog 5 = some .u8 := by kernel_rfl
theorem un5 : Tryz.prog.underlying 5 = some (.int .u8) := by kernel_rfl
theorem tz5 : tZero Tryz.prog 5 = some [.int .u8 0] := by kernel_rfl
theorem sz6 : tSz Tryz.prog 6 = some (false, 1) := by kernel_rfl
theorem ti6 : tInt Tryz.prog 6 = some .u8 := by kernel_rfl
theorem un6 : Tryz.prog.underlying 6 = some (.int .u8) := by kernel_rfl
theorem tz6 : tZero Tryz.prog 6 = some [.int .u8 0] := by kernel_rfl
theorem sz7 : tSz Tryz.prog 7 = some (true, 4) := by kernel_rfl
theorem ta7 : tArr Tryz.prog 7 = none := by kernel_rfl
theorem tp7 : tPl Tryz.prog 7 = some [(0, 1), (1, 1), (2, 1), (3, 1)] := by kernel_rfl
theorem tf7_0 : tFld Tryz.prog 7 0 = some (0, false, 1) := by kernel_rfl
theorem tf7_1 : tFld Tryz.prog 7 1 = some (1, false, 1) := by kernel_rfl
theorem tf7_2 : tFld Tryz.prog 7 2 = some (2, false, 1) := by kernel_rfl
theorem tf7_3 : tFld Tryz.prog 7 3 = some (3, false, 1) := by kernel_rfl
theorem tz7 : tZero Tryz.prog 7 = some [.int .i64 0, .int .i64 0, .bool false, .int .u8 0] := by kernel_rfl
theorem sz8 : tSz Tryz.prog 8 = some (true, 4) := by kernel_rfl
theorem ta8 : tArr Tryz.prog 8 = none := by kernel_rfl
theorem tp8 : tPl Tryz.prog 8 = some [(0, 1), (1, 1), (2, 1), (3, 1)] := by kernel_rfl
theorem tf8_0 : tFld Tryz.prog 8 0 = some (0, false, 1) := by kernel_rfl
theorem tf8_1 : tFld Tryz.prog 8 1 = some (1, false, 1) := by kernel_rfl
theorem tf8_2 : tFld Tryz.prog 8 2 = some (2, false, 1) := by kernel_rfl
theorem tf8_3 : tFld Tryz.prog 8 3 = some (3, false, 1) := by kernel_rfl
theorem tz8 : tZero Tryz.prog 8 = some [.int .i64 0, .int .i64 0, .bool false, .int .u8 0] := by kernel_rfl
theorem sz9 : tSz Tryz.prog 9 = some (false, 1) := by kernel_rfl
theorem un9 : Tryz.prog.underlying 9 = some (.string) := by kernel_rfl
theorem ts9 : tStr Tryz.prog 9 = true := by kernel_rfl
theorem tz9 : tZero Tryz.prog 9 = some [.string ⟨#[]⟩] := by kernel_rfl
theorem sz10 : tSz Tryz.prog 10 = some (false, 1) := by kernel_rfl
theorem un10 : Tryz.prog.underlying 10 = some (.string) := by kernel_rfl
theorem ts10 : tStr Tryz.prog 10 = true := by kernel_rfl
theorem tz10 : tZero Tryz.prog 10 = some [.string ⟨#[]⟩] := by kernel_rfl
theorem sz11 : tSz Tryz.prog 11 = some (false, 1) := by kernel_rfl
theorem un11 : Tryz.prog.underlying 11 = some (.string) := by kernel_rfl
theorem ts11 : tStr Tryz.prog 11 = true := by kernel_rfl
theorem tz11 : tZero Tryz.prog 11 = some [.string ⟨#[]⟩] := by kernel_rfl
theorem sz12 : tSz Tryz.prog 12 = some (false, 1) := by kernel_rfl
theorem ti12 : tInt Tryz.prog 12 = some .u64 := by kernel_rfl
theorem un12 : Tryz.prog.underlying 12 = some (.int .u64) := by kernel_rfl
theorem tz12 : tZero Tryz.prog 12 = some [.int .u64 0] := by kernel_rfl
theorem sz13 : tSz Tryz.prog 13 = some (true, 2) := by kernel_rfl
theorem ta13 : tArr Tryz.prog 13 = none := by kernel_rfl
theorem tp13 : tPl Tryz.prog 13 = some [(0, 1), (1, 1)] := by kernel_rfl
theorem tf13_0 : tFld Tryz.prog 13 0 = some (0, false, 1) := by kernel_rfl
theorem tf13_1 : tFld Tryz.prog 13 1 = some (1, false, 1) := by kernel_rfl
theorem tz13 : tZero Tryz.prog 13 = some [.string ⟨#[]⟩, .int .u64 0] := by kernel_rfl
theorem sz14 : tSz Tryz.prog 14 = some (true, 2) := by kernel_rfl
theorem ta14 : tArr Tryz.prog 14 = none := by kernel_rfl
theorem tp14 : tPl Tryz.prog 14 = some [(0, 1), (1, 1)] := by kernel_rfl
theorem tf14_0 : tFld Tryz.prog 14 0 = some (0, false, 1) := by kernel_rfl
theorem tf14_1 : tFld Tryz.prog 14 1 = some (1, false, 1) := by kernel_rfl
theorem tz14 : tZero Tryz.prog 14 = some [.string ⟨#[]⟩, .int .u64 0] := by kernel_rfl
theorem sz15 : tSz Tryz.prog 15 = some (false, 1) := by kernel_rfl
theorem un15 : Tryz.prog.underlying 15 = some (.pointer 193) := by kernel_rfl
theorem tz15 : tZero Tryz.prog 15 = some [.pointer none] := by kernel_rfl
theorem sz16 : tSz Tryz.prog 16 = some (false, 1) := by kernel_rfl
theorem un16 : Tryz.prog.underlying 16 = some (.pointer 196) := by kernel_rfl
theorem tz16 : tZero Tryz.prog 16 = some [.pointer none] := by kernel_rfl
theorem sz17 : tSz Tryz.prog 17 = some (false, 1) := by kernel_rfl
theorem un17 : Tryz.prog.underlying 17 = some (.pointer 203) := by kernel_rfl
theorem tz17 : tZero Tryz.prog 17 = some [.pointer none] := by kernel_rfl
theorem sz18 : tSz Tryz.prog 18 = some (true, 1) := by kernel_rfl
theorem ta18 : tArr Tryz.prog 18 = none := by kernel_rfl
theorem tp18 : tPl Tryz.prog 18 = some [(0, 1)] := by kernel_rfl
theorem tf18_0 : tFld Tryz.prog 18 0 = some (0, false, 1) := by kernel_rfl
theorem tz18 : tZero Tryz.prog 18 = some [.pointer none] := by kernel_rfl
theorem sz19 : tSz Tryz.prog 19 = some (true, 1) := by kernel_rfl
theorem ta19 : tArr Tryz.prog 19 = none := by kernel_rfl
theorem tp19 : tPl Tryz.prog 19 = some [(0, 1)] := by kernel_rfl
theorem tf19_0 : tFld Tryz.prog 19 0 = some (0, false, 1) := by kernel_rfl
theorem tz19 : tZero Tryz.prog 19 = some [.pointer none] := by kernel_rfl
theorem sz20 : tSz Tryz.prog 20 = some (false, 1) := by kernel_rfl
theorem tz20 : tZero Tryz.prog 20 = some [.nilIface] := by kernel_rfl
theorem sz21 : tSz Tryz.prog 21 = some (false, 1) := by kernel_rfl
theorem ti21 : tInt Tryz.prog 21 = some .i32 := by kernel_rfl
theorem un21 : Tryz.prog.underlying 21 = some (.int .i32) := by kernel_rfl
theorem tz21 : tZero Tryz.prog 21 = some [.int .i32 0] := by kernel_rfl
theorem sz22 : tSz Tryz.prog 22 = some (true, 64) := by kernel_rfl
theorem un22 : Tryz.prog.underlying 22 = some (.array 64 3) := by kernel_rfl
theorem te22 : tElem Tryz.prog 22 = some (some 64, 3, false, 1) := by kernel_rfl
theorem ta22 : tArr Tryz.prog 22 = some 1 := by kernel_rfl
theorem tz22 : tZero Tryz.prog 22 = some (List.replicate 64 (.int .i64 0)) := by kernel_rfl
theorem sz23 : tSz Tryz.prog 23 = some (true, 69) := by kernel_rfl
theorem ta23 : tArr Tryz.prog 23 = none := by kernel_rfl
theorem tp23 : tPl Tryz.prog 23 = some [(0, 64), (64, 1), (65, 1), (66, 1), (67, 1), (68, 1)] := by kernel_rfl
theorem tf23_0 : tFld Tryz.prog 23 0 = some (0, true, 64) := by kernel_rfl
theorem tf23_1 : tFld Tryz.prog 23 1 = some (64, false, 1) := by kernel_rfl
theorem tf23_2 : tFld Tryz.prog 23 2 = some (65, false, 1) := by kernel_rfl
theorem tf23_3 : tFld Tryz.prog 23 3 = some (66, false, 1) := by kernel_rfl
theorem tf23_4 : tFld Tryz.prog 23 4 = some (67, false, 1) := by kernel_rfl
theorem tf23_5 : tFld Tryz.prog 23 5 = some (68, false, 1) := by kernel_rfl
theorem tz23 : tZero Tryz.prog 23 = some (List.replicate 69 (.int .i64 0)) := by kernel_rfl
theorem sz24 : tSz Tryz.prog 24 = some (true, 69) := by kernel_rfl
theorem ta24 : tArr Tryz.prog 24 = none := by kernel_rfl
theorem tp24 : tPl Tryz.prog 24 = some [(0, 64), (64, 1), (65, 1), (66, 1), (67, 1), (68, 1)] := by kernel_rfl
theorem tf24_0 : tFld Tryz.prog 24 0 = some (0, true, 64) := by kernel_rfl
theorem tf24_1 : tFld Tryz.prog 24 1 = some (64, false, 1) := by kernel_rfl
theorem tf24_2 : tFld Tryz.prog 24 2 = some (65, false, 1) := by kernel_rfl
theorem tf24_3 : tFld Tryz.prog 24 3 = some (66, false, 1) := by kernel_rfl
theorem tf24_4 : tFld Tryz.prog 24 4 = some (67, false, 1) := by kernel_rfl
theorem tf24_5 : tFld Tryz.prog 24 5 = some (68, false, 1) := by kernel_rfl
theorem tz24 : tZero Tryz.prog 24 = some (List.replicate 69 (.int .i64 0)) := by kernel_rfl
theorem sz28 : tSz Tryz.prog 28 = some (true, 8) := by kernel_rfl
theorem un28 : Tryz.prog.underlying 28 = some (.array 8 3) := by kernel_rfl
theorem te28 : tElem Tryz.prog 28 = some (some 8, 3, false, 1) := by kernel_rfl
theorem ta28 : tArr Tryz.prog 28 = some 1 := by kernel_rfl
theorem tz28 : tZero Tryz.prog 28 = some [.int .i64 0, .int .i64 0, .int .i64 0, .int .i64 0, .int .i64 0, .int .i64 0, .int .i64 0, .int .i64 0] := by kernel_rfl
theorem sz32 : tSz Tryz.prog 32 = some (false, 1) := by kernel_rfl
theorem un32 : Tryz.prog.underlying 32 = some (.slice 38) := by kernel_rfl
theorem te32 : tElem Tryz.prog 32 = some (none, 38, true, 3) := by kernel_rfl
theorem sl32 : tSl Tryz.prog 32 = some (38, 3, 24) := by kernel_rfl
theorem is32 : isSl Tryz.prog 32 = true := by kernel_rfl
theorem tz32 : tZero Tryz.prog 32 = some [.slice none 0 0] := by kernel_rfl
theorem sz33 : tSz Tryz.prog 33 = some (false, 1) := by kernel_rfl
theorem un33 : Tryz.prog.underlying 33 = some (.slice 3) := by kernel_rfl
theorem te33 : tElem Tryz.prog 33 = some (none, 3, false, 1) := by kernel_rfl
theorem sl33 : tSl Tryz.prog 33 = some (3, 1, 8) := by kernel_rfl
theorem is33 : isSl Tryz.prog 33 = true := by kernel_rfl
theorem tz33 : tZero Tryz.prog 33 = some [.slice none 0 0] := by kernel_rfl
theorem sz37 : tSz Tryz.prog 37 = some (true, 3) := by kernel_rfl
theorem ta37 : tArr Tryz.prog 37 = none := by kernel_rfl
theorem tp37 : tPl Tryz.prog 37 = some [(0, 1), (1, 1), (2, 1)] := by kernel_rfl
theorem tf37_0 : tFld Tryz.prog 37 0 = some (0, false, 1) := by kernel_rfl
theorem tf37_1 : tFld Tryz.prog 37 1 = some (1, false, 1) := by kernel_rfl
theorem tf37_2 : tFld Tryz.prog 37 2 = some (2, false, 1) := by kernel_rfl
theorem tz37 : tZero Tryz.prog 37 = some [.int .i64 0, .int .i64 0, .int .i64 0] := by kernel_rfl
theorem sz38 : tSz Tryz.prog 38 = some (true, 3) := by kernel_rfl
theorem ta38 : tArr Tryz.prog 38 = none := by kernel_rfl
theorem tp38 : tPl Tryz.prog 38 = some [(0, 1), (1, 1), (2, 1)] := by kernel_rfl
theorem tf38_0 : tFld Tryz.prog 38 0 = some (0, false, 1) := by kernel_rfl
theorem tf38_1 : tFld Tryz.prog 38 1 = some (1, false, 1) := by kernel_rfl
theorem tf38_2 : tFld Tryz.prog 38 2 = some (2, false, 1) := by kernel_rfl
theorem tz38 : tZero Tryz.prog 38 = some [.int .i64 0, .int .i64 0, .int .i64 0] := by kernel_rfl
theorem sz42 : tSz Tryz.prog 42 = some (false, 1) := by kernel_rfl
theorem un42 : Tryz.prog.underlying 42 = some (.pointer 82) := by kernel_rfl
theorem tz42 : tZero Tryz.prog 42 = some [.pointer none] := by kernel_rfl
theorem sz45 : tSz Tryz.prog 45 = some (false, 1) := by kernel_rfl
theorem un45 : Tryz.prog.underlying 45 = some (.pointer 3) := by kernel_rfl
theorem tz45 : tZero Tryz.prog 45 = some [.pointer none] := by kernel_rfl
theorem sz47 : tSz Tryz.prog 47 = some (false, 1) := by kernel_rfl
theorem un47 : Tryz.prog.underlying 47 = some (.pointer 28) := by kernel_rfl
theorem tz47 : tZero Tryz.prog 47 = some [.pointer none] := by kernel_rfl
theorem sz48 : tSz Tryz.prog 48 = some (false, 1) := by kernel_rfl
theorem un48 : Tryz.prog.underlying 48 = some (.slice 60) := by kernel_rfl
theorem te48 : tElem Tryz.prog 48 = some (none, 60, true, 11) := by kernel_rfl
theorem sl48 : tSl Tryz.prog 48 = some (60, 11, 96) := by kernel_rfl
theorem is48 : isSl Tryz.prog 48 = true := by kernel_rfl
theorem tz48 : tZero Tryz.prog 48 = some [.slice none 0 0] := by kernel_rfl
theorem sz50 : tSz Tryz.prog 50 = some (false, 1) := by kernel_rfl
theorem un50 : Tryz.prog.underlying 50 = some (.pointer 60) := by kernel_rfl
theorem tz50 : tZero Tryz.prog 50 = some [.pointer none] := by kernel_rfl
theorem sz51 : tSz Tryz.prog 51 = some (false, 1) := by kernel_rfl
theorem un51 : Tryz.prog.underlying 51 = some (.map 9 9) := by kernel_rfl
theorem tz51 : tZero Tryz.prog 51 = some [.map none] := by kernel_rfl
theorem sz52 : tSz Tryz.prog 52 = some (false, 1) := by kernel_rfl
theorem un52 : Tryz.prog.underlying 52 = some (.slice 50) := by kernel_rfl
theorem te52 : tElem Tryz.prog 52 = some (none, 50, false, 1) := by kernel_rfl
theorem sl52 : tSl Tryz.prog 52 = some (50, 1, 8) := by kernel_rfl
theorem is52 : isSl Tryz.prog 52 = true := by kernel_rfl
theorem tz52 : tZero Tryz.prog 52 = some [.slice none 0 0] := by kernel_rfl
theorem sz53 : tSz Tryz.prog 53 = some (false, 1) := by kernel_rfl
theorem ti53 : tInt Tryz.prog 53 = some .u64 := by kernel_rfl
theorem un53 : Tryz.prog.underlying 53 = some (.int .u64) := by kernel_rfl
theorem tz53 : tZero Tryz.prog 53 = some [.int .u64 0] := by kernel_rfl
theorem sz54 : tSz Tryz.prog 54 = some (false, 1) := by kernel_rfl
theorem ti54 : tInt Tryz.prog 54 = some .u16 := by kernel_rfl
theorem un54 : Tryz.prog.underlying 54 = some (.int .u16) := by kernel_rfl
theorem tz54 : tZero Tryz.prog 54 = some [.int .u16 0] := by kernel_rfl
theorem sz55 : tSz Tryz.prog 55 = some (false, 1) := by kernel_rfl
theorem ti55 : tInt Tryz.prog 55 = some .u16 := by kernel_rfl
theorem un55 : Tryz.prog.underlying 55 = some (.int .u16) := by kernel_rfl
theorem tz55 : tZero Tryz.prog 55 = some [.int .u16 0] := by kernel_rfl
theorem sz56 : tSz Tryz.prog 56 = some (false, 1) := by kernel_rfl
theorem ti56 : tInt Tryz.prog 56 = some .i8 := by kernel_rfl
theorem un56 : Tryz.prog.underlying 56 = some (.int .i8) := by kernel_rfl
theorem tz56 : tZero Tryz.prog 56 = some [.int .i8 0] := by kernel_rfl
theorem sz57 : tSz Tryz.prog 57 = some (false, 1) := by kernel_rfl
theorem ti57 : tInt Tryz.prog 57 = some .i8 := by kernel_rfl
theorem un57 : Tryz.prog.underlying 57 = some (.int .i8) := by kernel_rfl
theorem tz57 : tZero Tryz.prog 57 = some [.int .i8 0] := by kernel_rfl
theorem sz58 : tSz Tryz.prog 58 = some (false, 1) := by kernel_rfl
theorem ti58 : tInt Tryz.prog 58 = some .i8 := by kernel_rfl
theorem un58 : Tryz.prog.underlying 58 = some (.int .i8) := by kernel_rfl
theorem tz58 : tZero Tryz.prog 58 = some [.int .i8 0] := by kernel_rfl
theorem sz59 : tSz Tryz.prog 59 = some (true, 11) := by kernel_rfl
theorem ta59 : tArr Tryz.prog 59 = none := by kernel_rfl
theorem tp59 : tPl Tryz.prog 59 = some [(0, 1), (1, 1), (2, 1), (3, 1), (4, 1), (5, 1), (6, 1), (7, 1), (8, 1), (9, 1), (10, 1)] := by kernel_rfl
theorem tf59_0 : tFld Tryz.prog 59 0 = some (0, false, 1) := by kernel_rfl
theorem tf59_1 : tFld Tryz.prog 59 1 = some (1, false, 1) := by kernel_rfl
theorem tf59_2 : tFld Tryz.prog 59 2 = some (2, false, 1) := by kernel_rfl
theorem tf59_3 : tFld Tryz.prog 59 3 = some (3, false, 1) := by kernel_rfl
theorem tf59_4 : tFld Tryz.prog 59 4 = some (4, false, 1) := by kernel_rfl
theorem tf59_5 : tFld Tryz.prog 59 5 = some (5, false, 1) := by kernel_rfl
theorem tf59_6 : tFld Tryz.prog 59 6 = some (6, false, 1) := by kernel_rfl
theorem tf59_7 : tFld Tryz.prog 59 7 = some (7, false, 1) := by kernel_rfl
theorem tf59_8 : tFld Tryz.prog 59 8 = some (8, false, 1) := by kernel_rfl
theorem tf59_9 : tFld Tryz.prog 59 9 = some (9, false, 1) := by kernel_rfl
theorem tf59_10 : tFld Tryz.prog 59 10 = some (10, false, 1) := by kernel_rfl
theorem tz59 : tZero Tryz.prog 59 = some [.pointer none, .pointer none, .string ⟨#[]⟩, .string ⟨#[]⟩, .map none, .slice none 0 0, .int .u64 0, .int .u16 0, .int .i8 0, .int .i8 0, .int .i8 0] := by kernel_rfl
theorem sz60 : tSz Tryz.prog 60 = some (true, 11) := by kernel_rfl
theorem ta60 : tArr Tryz.prog 60 = none := by kernel_rfl
theorem tp60 : tPl Tryz.prog 60 = some [(0, 1), (1, 1), (2, 1), (3, 1), (4, 1), (5, 1), (6, 1), (7, 1), (8, 1), (9, 1), (10, 1)] := by kernel_rfl
theorem tf60_0 : tFld Tryz.prog 60 0 = some (0, false, 1) := by kernel_rfl
theorem tf60_1 : tFld Tryz.prog 60 1 = some (1, false, 1) := by kernel_rfl
theorem tf60_2 : tFld Tryz.prog 60 2 = some (2, false, 1) := by kernel_rfl
theorem tf60_3 : tFld Tryz.prog 60 3 = some (3, false, 1) := by kernel_rfl
theorem tf60_4 : tFld Tryz.prog 60 4 = some (4, false, 1) := by kernel_rfl
theorem tf60_5 : tFld Tryz.prog 60 5 = some (5, false, 1) := by kernel_rfl
theorem tf60_6 : tFld Tryz.prog 60 6 = some (6, false, 1) := by kernel_rfl
theorem tf60_7 : tFld Tryz.prog 60 7 = some (7, false, 1) := by kernel_rfl
theorem tf60_8 : tFld Tryz.prog 60 8 = some (8, false, 1) := by kernel_rfl
theorem tf60_9 : tFld Tryz.prog 60 9 = some (9, false, 1) := by kernel_rfl
theorem tf60_10 : tFld Tryz.prog 60 10 = some (10, false, 1) := by kernel_rfl
theorem tz60 : tZero Tryz.prog 60 = some [.pointer none, .pointer none, .string ⟨#[]⟩, .string ⟨#[]⟩, .map none, .slice none 0 0, .int .u64 0, .int .u16 0, .int .i8 0, .int .i8 0, .int .i8 0] := by kernel_rfl
theorem sz69 : tSz Tryz.prog 69 = some (false, 1) := by kernel_rfl
theorem ti69 : tInt Tryz.prog 69 = some .i8 := by kernel_rfl
theorem un69 : Tryz.prog.underlying 69 = some (.int .i8) := by kernel_rfl
theorem tz69 : tZero Tryz.prog 69 = some [.int .i8 0] := by kernel_rfl
theorem sz70 : tSz Tryz.prog 70 = some (false, 1) := by kernel_rfl
theorem un70 : Tryz.prog.underlying 70 = some (.slice 9) := by kernel_rfl
theorem te70 : tElem Tryz.prog 70 = some (none, 9, false, 1) := by kernel_rfl
theorem sl70 : tSl Tryz.prog 70 = some (9, 1, 16) := by kernel_rfl
theorem is70 : isSl Tryz.prog 70 = true := by kernel_rfl
theorem tz70 : tZero Tryz.prog 70 = some [.slice none 0 0] := by kernel_rfl
theorem sz72 : tSz Tryz.prog 72 = some (false, 1) := by kernel_rfl
theorem un72 : Tryz.prog.underlying 72 = some (.pointer 110) := by kernel_rfl
theorem tz72 : tZero Tryz.prog 72 = some [.pointer none] := by kernel_rfl
theorem sz74 : tSz Tryz.prog 74 = some (false, 1) := by kernel_rfl
theorem un74 : Tryz.prog.underlying 74 = some (.string) := by kernel_rfl
theorem ts74 : tStr Tryz.prog 74 = true := by kernel_rfl
theorem tz74 : tZero Tryz.prog 74 = some [.string ⟨#[]⟩] := by kernel_rfl
theorem sz76 : tSz Tryz.prog 76 = some (false, 1) := by kernel_rfl
theorem ti76 : tInt Tryz.prog 76 = some .u8 := by kernel_rfl
theorem un76 : Tryz.prog.underlying 76 = some (.int .u8) := by kernel_rfl
theorem tz76 : tZero Tryz.prog 76 = some [.int .u8 0] := by kernel_rfl
theorem sz80 : tSz Tryz.prog 80 = some (false, 1) := by kernel_rfl
theorem un80 : Tryz.prog.underlying 80 = some (.slice 4) := by kernel_rfl
theorem te80 : tElem Tryz.prog 80 = some (none, 4, false, 1) := by kernel_rfl
theorem sl80 : tSl Tryz.prog 80 = some (4, 1, 1) := by kernel_rfl
theorem is80 : isSl Tryz.prog 80 = true := by kernel_rfl
theorem tz80 : tZero Tryz.prog 80 = some [.slice none 0 0] := by kernel_rfl
theorem sz81 : tSz Tryz.prog 81 = some (true, 8) := by kernel_rfl
theorem ta81 : tArr Tryz.prog 81 = none := by kernel_rfl
theorem tp81 : tPl Tryz.prog 81 = some [(0, 1), (1, 1), (2, 1), (3, 1), (4, 1), (5, 1), (6, 1), (7, 1)] := by kernel_rfl
theorem tf81_0 : tFld Tryz.prog 81 0 = some (0, false, 1) := by kernel_rfl
theorem tf81_1 : tFld Tryz.prog 81 1 = some (1, false, 1) := by kernel_rfl
theorem tf81_2 : tFld Tryz.prog 81 2 = some (2, false, 1) := by kernel_rfl
theorem tf81_3 : tFld Tryz.prog 81 3 = some (3, false, 1) := by kernel_rfl
theorem tf81_4 : tFld Tryz.prog 81 4 = some (4, false, 1) := by kernel_rfl
theorem tf81_5 : tFld Tryz.prog 81 5 = some (5, false, 1) := by kernel_rfl
theorem tf81_6 : tFld Tryz.prog 81 6 = some (6, false, 1) := by kernel_rfl
theorem tf81_7 : tFld Tryz.prog 81 7 = some (7, false, 1) := by kernel_rfl
theorem tz81 : tZero Tryz.prog 81 = some [.pointer none, .string ⟨#[]⟩, .slice none 0 0, .int .i64 0, .int .i64 0, .int .i8 0, .int .i8 0, .bool false] := by kernel_rfl
theorem sz82 : tSz Tryz.prog 82 = some (true, 8) := by kernel_rfl
theorem ta82 : tArr Tryz.prog 82 = none := by kernel_rfl
theorem tp82 : tPl Tryz.prog 82 = some [(0, 1), (1, 1), (2, 1), (3, 1), (4, 1), (5, 1), (6, 1), (7, 1)] := by kernel_rfl
theorem tf82_0 : tFld Tryz.prog 82 0 = some (0, false, 1) := by kernel_rfl
theorem tf82_1 : tFld Tryz.prog 82 1 = some (1, false, 1) := by kernel_rfl
theorem tf82_2 : tFld Tryz.prog 82 2 = some (2, false, 1) := by kernel_rfl
theorem tf82_3 : tFld Tryz.prog 82 3 = some (3, false, 1) := by kernel_rfl
theorem tf82_4 : tFld Tryz.prog 82 4 = some (4, false, 1) := by kernel_rfl
theorem tf82_5 : tFld Tryz.prog 82 5 = some (5, false, 1) := by kernel_rfl
theorem tf82_6 : tFld Tryz.prog 82 6 = some (6, false, 1) := by kernel_rfl
theorem tf82_7 : tFld Tryz.prog 82 7 = some (7, false, 1) := by kernel_rfl
theorem tz82 : tZero Tryz.prog 82 = some [.pointer none, .string ⟨#[]⟩, .slice none 0 0, .int .i64 0, .int .i64 0, .int .i8 0, .int .i8 0, .bool false] := by kernel_rfl
theorem sz83 : tSz Tryz.prog 83 = some (true, 0) := by kernel_rfl
theorem ta83 : tArr Tryz.prog 83 = none := by kernel_rfl
theorem tp83 : tPl Tryz.prog 83 = some [] := by kernel_rfl
theorem tz83 : tZero Tryz.prog 83 = some [] := by kernel_rfl
theorem sz84 : tSz Tryz.prog 84 = some (true, 0) := by kernel_rfl
theorem ta84 : tArr Tryz.prog 84 = none := by kernel_rfl
theorem tp84 : tPl Tryz.prog 84 = some [] := by kernel_rfl
theorem tz84 : tZero Tryz.prog 84 = some [] := by kernel_rfl
theorem sz90 : tSz Tryz.prog 90 = some (false, 1) := by kernel_rfl
theorem ti90 : tInt Tryz.prog 90 = some .i8 := by kernel_rfl
theorem un90 : Tryz.prog.underlying 90 = some (.int .i8) := by kernel_rfl
theorem tz90 : tZero Tryz.prog 90 = some [.int .i8 0] := by kernel_rfl
theorem sz101 : tSz Tryz.prog 101 = some (false, 1) := by kernel_rfl
theorem un101 : Tryz.prog.underlying 101 = some (.map 57 90) := by kernel_rfl
theorem tz101 : tZero Tryz.prog 101 = some [.map none] := by kernel_rfl
theorem sz104 : tSz Tryz.prog 104 = some (true, 8) := by kernel_rfl
theorem un104 : Tryz.prog.underlying 104 = some (.array 8 4) := by kernel_rfl
theorem te104 : tElem Tryz.prog 104 = some (some 8, 4, false, 1) := by kernel_rfl
theorem ta104 : tArr Tryz.prog 104 = some 1 := by kernel_rfl
theorem tz104 : tZero Tryz.prog 104 = some [.bool false, .bool false, .bool false, .bool false, .bool false, .bool false, .bool false, .bool false] := by kernel_rfl
theorem sz107 : tSz Tryz.prog 107 = some (false, 1) := by kernel_rfl
theorem ti107 : tInt Tryz.prog 107 = some .u64 := by kernel_rfl
theorem un107 : Tryz.prog.underlying 107 = some (.int .u64) := by kernel_rfl
theorem tz107 : tZero Tryz.prog 107 = some [.int .u64 0] := by kernel_rfl
theorem sz108 : tSz Tryz.prog 108 = some (false, 1) := by kernel_rfl
theorem ti108 : tInt Tryz.prog 108 = some .u64 := by kernel_rfl
theorem un108 : Tryz.prog.underlying 108 = some (.int .u64) := by kernel_rfl
theorem tz108 : tZero Tryz.prog 108 = some [.int .u64 0] := by kernel_rfl
theorem sz109 : tSz Tryz.prog 109 = some (true, 17) := by kernel_rfl
theorem ta109 : tArr Tryz.prog 109 = none := by kernel_rfl
theorem tp109 : tPl Tryz.prog 109 = some [(0, 1), (1, 1), (2, 1), (3, 1), (4, 1), (5, 1), (6, 1), (7, 1), (8, 1), (9, 1), (10, 1), (11, 1), (12, 1), (13, 1), (14, 1), (15, 1), (16, 1)] := by kernel_rfl
theorem tf109_0 : tFld Tryz.prog 109 0 = some (0, false, 1) := by kernel_rfl
theorem tf109_1 : tFld Tryz.prog 109 1 = some (1, false, 1) := by kernel_rfl
theorem tf109_2 : tFld Tryz.prog 109 2 = some (2, false, 1) := by kernel_rfl
theorem tf109_3 : tFld Tryz.prog 109 3 = some (3, false, 1) := by kernel_rfl
theorem tf109_4 : tFld Tryz.prog 109 4 = some (4, false, 1) := by kernel_rfl
theorem tf109_5 : tFld Tryz.prog 109 5 = some (5, false, 1) := by kernel_rfl
theorem tf109_6 : tFld Tryz.prog 109 6 = some (6, false, 1) := by kernel_rfl
theorem tf109_7 : tFld Tryz.prog 109 7 = some (7, false, 1) := by kernel_rfl
theorem tf109_8 : tFld Tryz.prog 109 8 = some (8, false, 1) := by kernel_rfl
theorem tf109_9 : tFld Tryz.prog 109 9 = some (9, false, 1) := by kernel_rfl
theorem tf109_10 : tFld Tryz.prog 109 10 = some (10, false, 1) := by kernel_rfl
theorem tf109_11 : tFld Tryz.prog 109 11 = some (11, false, 1) := by kernel_rfl
theorem tf109_12 : tFld Tryz.prog 109 12 = some (12, false, 1) := by kernel_rfl
theorem tf109_13 : tFld Tryz.prog 109 13 = some (13, false, 1) := by kernel_rfl
theorem tf109_14 : tFld Tryz.prog 109 14 = some (14, false, 1) := by kernel_rfl
theorem tf109_15 : tFld Tryz.prog 109 15 = some (15, false, 1) := by kernel_rfl
theorem tf109_16 : tFld Tryz.prog 109 16 = some (16, false, 1) := by kernel_rfl
theorem tz109 : tZero Tryz.prog 109 = some [.int .u64 0, .int .u64 0, .int .u64 0, .int .u64 0, .int .u64 0, .int .u64 0, .int .u64 0, .int .u64 0, .int .u64 0, .int .u64 0, .int .u64 0, .int .u64 0, .int .u64 0, .int .u64 0, .int .u64 0, .int .i8 0, .int .i8 0] := by kernel_rfl
theorem sz110 : tSz Tryz.prog 110 = some (true, 17) := by kernel_rfl
theorem ta110 : tArr Tryz.prog 110 = none := by kernel_rfl
theorem tp110 : tPl Tryz.prog 110 = some [(0, 1), (1, 1), (2, 1), (3, 1), (4, 1), (5, 1), (6, 1), (7, 1), (8, 1), (9, 1), (10, 1), (11, 1), (12, 1), (13, 1), (14, 1), (15, 1), (16, 1)] := by kernel_rfl
theorem tf110_0 : tFld Tryz.prog 110 0 = some (0, false, 1) := by kernel_rfl
theorem tf110_1 : tFld Tryz.prog 110 1 = some (1, false, 1) := by kernel_rfl
theorem tf110_2 : tFld Tryz.prog 110 2 = some (2, false, 1) := by kernel_rfl
theorem tf110_3 : tFld Tryz.prog 110 3 = some (3, false, 1) := by kernel_rfl
theorem tf110_4 : tFld Tryz.prog 110 4 = some (4, false, 1) := by kernel_rfl
theorem tf110_5 : tFld Tryz.prog 110 5 = some (5, false, 1) := by kernel_rfl
theorem tf110_6 : tFld Tryz.prog 110 6 = some (6, false, 1) := by kernel_rfl
theorem tf110_7 : tFld Tryz.prog 110 7 = some (7, false, 1) := by kernel_rfl
theorem tf110_8 : tFld Tryz.prog 110 8 = some (8, false, 1) := by kernel_rfl
theorem tf110_9 : tFld Tryz.prog 110 9 = some (9, false, 1) := by kernel_rfl
theorem tf110_10 : tFld Tryz.prog 110 10 = some (10, false, 1) := by kernel_rfl
theorem tf110_11 : tFld Tryz.prog 110 11 = some (11, false, 1) := by kernel_rfl
theorem tf110_12 : tFld Tryz.prog 110 12 = some (12, false, 1) := by kernel_rfl
theorem tf110_13 : tFld Tryz.prog 110 13 = some (13, false, 1) := by kernel_rfl
theorem tf110_14 : tFld Tryz.prog 110 14 = some (14, false, 1) := by kernel_rfl
theorem tf110_15 : tFld Tryz.prog 110 15 = some (15, false, 1) := by kernel_rfl
theorem tf110_16 : tFld Tryz.prog 110 16 = some (16, false, 1) := by kernel_rfl
theorem tz110 : tZero Tryz.prog 110 = some [.int .u64 0, .int .u64 0, .int .u64 0, .int .u64 0, .int .u64 0, .int .u64 0, .int .u64 0, .int .u64 0, .int .u64 0, .int .u64 0, .int .u64 0, .int .u64 0, .int .u64 0, .int .u64 0, .int .u64 0, .int .i8 0, .int .i8 0] := by kernel_rfl
theorem sz112 : tSz Tryz.prog 112 = some (false, 1) := by kernel_rfl
theorem un112 : Tryz.prog.underlying 112 = some (.slice 90) := by kernel_rfl
theorem te112 : tElem Tryz.prog 112 = some (none, 90, false, 1) := by kernel_rfl
theorem sl112 : tSl Tryz.prog 112 = some (90, 1, 1) := by kernel_rfl
theorem is112 : isSl Tryz.prog 112 = true := by kernel_rfl
theorem tz112 : tZero Tryz.prog 112 = some [.slice none 0 0] := by kernel_rfl
theorem sz119 : tSz Tryz.prog 119 = some (false, 1) := by kernel_rfl
theorem un119 : Tryz.prog.underlying 119 = some (.slice 122) := by kernel_rfl
theorem te119 : tElem Tryz.prog 119 = some (none, 122, true, 2) := by kernel_rfl
theorem sl119 : tSl Tryz.prog 119 = some (122, 2, 16) := by kernel_rfl
theorem is119 : isSl Tryz.prog 119 = true := by kernel_rfl
theorem tz119 : tZero Tryz.prog 119 = some [.slice none 0 0] := by kernel_rfl
theorem sz122 : tSz Tryz.prog 122 = some (true, 2) := by kernel_rfl
theorem un122 : Tryz.prog.underlying 122 = some (.array 2 3) := by kernel_rfl
theorem te122 : tElem Tryz.prog 122 = some (some 2, 3, false, 1) := by kernel_rfl
theorem ta122 : tArr Tryz.prog 122 = some 1 := by kernel_rfl
theorem tz122 : tZero Tryz.prog 122 = some [.int .i64 0, .int .i64 0] := by kernel_rfl
theorem sz126 : tSz Tryz.prog 126 = some (true, 2398) := by kernel_rfl
theorem un126 : Tryz.prog.underlying 126 = some (.array 218 60) := by kernel_rfl
theorem te126 : tElem Tryz.prog 126 = some (some 218, 60, true, 11) := by kernel_rfl
theorem ta126 : tArr Tryz.prog 126 = some 11 := by kernel_rfl
theorem tz126 : tZero Tryz.prog 126 = some (List.replicate 218 ([.pointer none, .pointer none, .string ⟨#[]⟩, .string ⟨#[]⟩, .map none, .slice none 0 0, .int .u64 0, .int .u16 0, .int .i8 0, .int .i8 0, .int .i8 0] : List Value)).flatten := by kernel_rfl
theorem sz128 : tSz Tryz.prog 128 = some (false, 1) := by kernel_rfl
theorem ti128 : tInt Tryz.prog 128 = some .i8 := by kernel_rfl
theorem un128 : Tryz.prog.underlying 128 = some (.int .i8) := by kernel_rfl
theorem tz128 : tZero Tryz.prog 128 = some [.int .i8 0] := by kernel_rfl
theorem sz130 : tSz Tryz.prog 130 = some (false, 1) := by kernel_rfl
theorem un130 : Tryz.prog.underlying 130 = some (.slice 58) := by kernel_rfl
theorem te130 : tElem Tryz.prog 130 = some (none, 58, false, 1) := by kernel_rfl
theorem sl130 : tSl Tryz.prog 130 = some (58, 1, 1) := by kernel_rfl
theorem is130 : isSl Tryz.prog 130 = true := by kernel_rfl
theorem tz130 : tZero Tryz.prog 130 = some [.slice none 0 0] := by kernel_rfl
theorem sz132 : tSz Tryz.prog 132 = some (true, 11) := by kernel_rfl
theorem un132 : Tryz.prog.underlying 132 = some (.array 1 60) := by kernel_rfl
theorem te132 : tElem Tryz.prog 132 = some (some 1, 60, true, 11) := by kernel_rfl
theorem ta132 : tArr Tryz.prog 132 = some 11 := by kernel_rfl
theorem tz132 : tZero Tryz.prog 132 = some [.pointer none, .pointer none, .string ⟨#[]⟩, .string ⟨#[]⟩, .map none, .slice none 0 0, .int .u64 0, .int .u16 0, .int .i8 0, .int .i8 0, .int .i8 0] := by kernel_rfl
theorem sz133 : tSz Tryz.prog 133 = some (true, 22) := by kernel_rfl
theorem un133 : Tryz.prog.underlying 133 = some (.array 2 60) := by kernel_rfl
theorem te133 : tElem Tryz.prog 133 = some (some 2, 60, true, 11) := by kernel_rfl
theorem ta133 : tArr Tryz.prog 133 = some 11 := by kernel_rfl
theorem tz133 : tZero Tryz.prog 133 = some (List.replicate 2 ([.pointer none, .pointer none, .string ⟨#[]⟩, .string ⟨#[]⟩, .map none, .slice none 0 0, .int .u64 0, .int .u16 0, .int .i8 0, .int .i8 0, .int .i8 0] : List Value)).flatten := by kernel_rfl
theorem sz135 : tSz Tryz.prog 135 = some (false, 1) := by kernel_rfl
theorem ti135 : tInt Tryz.prog 135 = some .i64 := by kernel_rfl
theorem un135 : Tryz.prog.underlying 135 = some (.int .i64) := by kernel_rfl
theorem tz135 : tZero Tryz.prog 135 = some [.int .i64 0] := by kernel_rfl
theorem sz137 : tSz Tryz.prog 137 = some (false, 1) := by kernel_rfl
theorem un137 : Tryz.prog.underlying 137 = some (.slice 5) := by kernel_rfl
theorem te137 : tElem Tryz.prog 137 = some (none, 5, false, 1) := by kernel_rfl
theorem sl137 : tSl Tryz.prog 137 = some (5, 1, 1) := by kernel_rfl
theorem is137 : isSl Tryz.prog 137 = true := by kernel_rfl
theorem tz137 : tZero Tryz.prog 137 = some [.slice none 0 0] := by kernel_rfl
theorem sz141 : tSz Tryz.prog 141 = some (false, 1) := by kernel_rfl
theorem un141 : Tryz.prog.underlying 141 = some (.slice 57) := by kernel_rfl
theorem te141 : tElem Tryz.prog 141 = some (none, 57, false, 1) := by kernel_rfl
theorem sl141 : tSl Tryz.prog 141 = some (57, 1, 1) := by kernel_rfl
theorem is141 : isSl Tryz.prog 141 = true := by kernel_rfl
theorem tz141 : tZero Tryz.prog 141 = some [.slice none 0 0] := by kernel_rfl
theorem sz143 : tSz Tryz.prog 143 = some (true, 64) := by kernel_rfl
theorem un143 : Tryz.prog.underlying 143 = some (.array 64 108) := by kernel_rfl
theorem te143 : tElem Tryz.prog 143 = some (some 64, 108, false, 1) := by kernel_rfl
theorem ta143 : tArr Tryz.prog 143 = some 1 := by kernel_rfl
theorem tz143 : tZero Tryz.prog 143 = some (List.replicate 64 (.int .u64 0)) := by kernel_rfl
theorem sz149 : tSz Tryz.prog 149 = some (true, 8) := by kernel_rfl
theorem un149 : Tryz.prog.underlying 149 = some (.array 8 108) := by kernel_rfl
theorem te149 : tElem Tryz.prog 149 = some (some 8, 108, false, 1) := by kernel_rfl
theorem ta149 : tArr Tryz.prog 149 = some 1 := by kernel_rfl
theorem tz149 : tZero Tryz.prog 149 = some [.int .u64 0, .int .u64 0, .int .u64 0, .int .u64 0, .int .u64 0, .int .u64 0, .int .u64 0, .int .u64 0] := by kernel_rfl
theorem sz150 : tSz Tryz.prog 150 = some (false, 1) := by kernel_rfl
theorem ti150 : tInt Tryz.prog 150 = some .i8 := by kernel_rfl
theorem un150 : Tryz.prog.underlying 150 = some (.int .i8) := by kernel_rfl
theorem tz150 : tZero Tryz.prog 150 = some [.int .i8 0] := by kernel_rfl
theorem sz152 : tSz Tryz.prog 152 = some (false, 1) := by kernel_rfl
theorem un152 : Tryz.prog.underlying 152 = some (.pointer 154) := by kernel_rfl
theorem tz152 : tZero Tryz.prog 152 = some [.pointer none] := by kernel_rfl
theorem sz153 : tSz Tryz.prog 153 = some (true, 2) := by kernel_rfl
theorem ta153 : tArr Tryz.prog 153 = none := by kernel_rfl
theorem tp153 : tPl Tryz.prog 153 = some [(0, 1), (1, 1)] := by kernel_rfl
theorem tf153_0 : tFld Tryz.prog 153 0 = some (0, false, 1) := by kernel_rfl
theorem tf153_1 : tFld Tryz.prog 153 1 = some (1, false, 1) := by kernel_rfl
theorem tz153 : tZero Tryz.prog 153 = some [.pointer none, .slice none 0 0] := by kernel_rfl
theorem sz154 : tSz Tryz.prog 154 = some (true, 2) := by kernel_rfl
theorem ta154 : tArr Tryz.prog 154 = none := by kernel_rfl
theorem tp154 : tPl Tryz.prog 154 = some [(0, 1), (1, 1)] := by kernel_rfl
theorem tf154_0 : tFld Tryz.prog 154 0 = some (0, false, 1) := by kernel_rfl
theorem tf154_1 : tFld Tryz.prog 154 1 = some (1, false, 1) := by kernel_rfl
theorem tz154 : tZero Tryz.prog 154 = some [.pointer none, .slice none 0 0] := by kernel_rfl
theorem sz156 : tSz Tryz.prog 156 = some (false, 1) := by kernel_rfl
theorem tz156 : tZero Tryz.prog 156 = some [.nilIface] := by kernel_rfl
theorem sz157 : tSz Tryz.prog 157 = some (false, 1) := by kernel_rfl
theorem tz157 : tZero Tryz.prog 157 = some [.nilIface] := by kernel_rfl
theorem sz165 : tSz Tryz.prog 165 = some (false, 1) := by kernel_rfl
theorem un165 : Tryz.prog.underlying 165 = some (.pointer 5) := by kernel_rfl
theorem tz165 : tZero Tryz.prog 165 = some [.pointer none] := by kernel_rfl
theorem sz173 : tSz Tryz.prog 173 = some (false, 1) := by kernel_rfl
theorem tz173 : tZero Tryz.prog 173 = some [.pointer none] := by kernel_rfl
theorem sz179 : tSz Tryz.prog 179 = some (false, 1) := by kernel_rfl
theorem un179 : Tryz.prog.underlying 179 = some (.slice 191) := by kernel_rfl
theorem te179 : tElem Tryz.prog 179 = some (none, 191, true, 5) := by kernel_rfl
theorem sl179 : tSl Tryz.prog 179 = some (191, 5, 20) := by kernel_rfl
theorem is179 : isSl Tryz.prog 179 = true := by kernel_rfl
theorem tz179 : tZero Tryz.prog 179 = some [.slice none 0 0] := by kernel_rfl
theorem sz180 : tSz Tryz.prog 180 = some (true, 256) := by kernel_rfl
theorem un180 : Tryz.prog.underlying 180 = some (.array 256 5) := by kernel_rfl
theorem te180 : tElem Tryz.prog 180 = some (some 256, 5, false, 1) := by kernel_rfl
theorem ta180 : tArr Tryz.prog 180 = some 1 := by kernel_rfl
theorem tz180 : tZero Tryz.prog 180 = some (List.replicate 256 (.int .u8 0)) := by kernel_rfl
theorem sz181 : tSz Tryz.prog 181 = some (true, 2) := by kernel_rfl
theorem ta181 : tArr Tryz.prog 181 = none := by kernel_rfl
theorem tp181 : tPl Tryz.prog 181 = some [(0, 1), (1, 1)] := by kernel_rfl
theorem tf181_0 : tFld Tryz.prog 181 0 = some (0, false, 1) := by kernel_rfl
theorem tf181_1 : tFld Tryz.prog 181 1 = some (1, false, 1) := by kernel_rfl
theorem tz181 : tZero Tryz.prog 181 = some [.int .u8 0, .int .u8 0] := by kernel_rfl
theorem sz182 : tSz Tryz.prog 182 = some (true, 2) := by kernel_rfl
theorem ta182 : tArr Tryz.prog 182 = none := by kernel_rfl
theorem tp182 : tPl Tryz.prog 182 = some [(0, 1), (1, 1)] := by kernel_rfl
theorem tf182_0 : tFld Tryz.prog 182 0 = some (0, false, 1) := by kernel_rfl
theorem tf182_1 : tFld Tryz.prog 182 1 = some (1, false, 1) := by kernel_rfl
theorem tz182 : tZero Tryz.prog 182 = some [.int .u8 0, .int .u8 0] := by kernel_rfl
theorem sz183 : tSz Tryz.prog 183 = some (true, 32) := by kernel_rfl
theorem un183 : Tryz.prog.underlying 183 = some (.array 16 182) := by kernel_rfl
theorem te183 : tElem Tryz.prog 183 = some (some 16, 182, true, 2) := by kernel_rfl
theorem ta183 : tArr Tryz.prog 183 = some 2 := by kernel_rfl
theorem tz183 : tZero Tryz.prog 183 = some (List.replicate 32 (.int .u8 0)) := by kernel_rfl
theorem sz184 : tSz Tryz.prog 184 = some (false, 1) := by kernel_rfl
theorem ti184 : tInt Tryz.prog 184 = some .u32 := by kernel_rfl
theorem un184 : Tryz.prog.underlying 184 = some (.int .u32) := by kernel_rfl
theorem tz184 : tZero Tryz.prog 184 = some [.int .u32 0] := by kernel_rfl
theorem sz185 : tSz Tryz.prog 185 = some (false, 1) := by kernel_rfl
theorem un185 : Tryz.prog.underlying 185 = some (.pointer 191) := by kernel_rfl
theorem tz185 : tZero Tryz.prog 185 = some [.pointer none] := by kernel_rfl
theorem sz188 : tSz Tryz.prog 188 = some (true, 3) := by kernel_rfl
theorem un188 : Tryz.prog.underlying 188 = some (.array 3 21) := by kernel_rfl
theorem te188 : tElem Tryz.prog 188 = some (some 3, 21, false, 1) := by kernel_rfl
theorem ta188 : tArr Tryz.prog 188 = some 1 := by kernel_rfl
theorem tz188 : tZero Tryz.prog 188 = some [.int .i32 0, .int .i32 0, .int .i32 0] := by kernel_rfl
theorem sz189 : tSz Tryz.prog 189 = some (true, 3) := by kernel_rfl
theorem un189 : Tryz.prog.underlying 189 = some (.array 3 21) := by kernel_rfl
theorem te189 : tElem Tryz.prog 189 = some (some 3, 21, false, 1) := by kernel_rfl
theorem ta189 : tArr Tryz.prog 189 = some 1 := by kernel_rfl
theorem tz189 : tZero Tryz.prog 189 = some [.int .i32 0, .int .i32 0, .int .i32 0] := by kernel_rfl
theorem sz190 : tSz Tryz.prog 190 = some (true, 5) := by kernel_rfl
theorem ta190 : tArr Tryz.prog 190 = none := by kernel_rfl
theorem tp190 : tPl Tryz.prog 190 = some [(0, 1), (1, 1), (2, 3)] := by kernel_rfl
theorem tf190_0 : tFld Tryz.prog 190 0 = some (0, false, 1) := by kernel_rfl
theorem tf190_1 : tFld Tryz.prog 190 1 = some (1, false, 1) := by kernel_rfl
theorem tf190_2 : tFld Tryz.prog 190 2 = some (2, true, 3) := by kernel_rfl
theorem tz190 : tZero Tryz.prog 190 = some [.int .u32 0, .int .u32 0, .int .i32 0, .int .i32 0, .int .i32 0] := by kernel_rfl
theorem sz191 : tSz Tryz.prog 191 = some (true, 5) := by kernel_rfl
theorem ta191 : tArr Tryz.prog 191 = none := by kernel_rfl
theorem tp191 : tPl Tryz.prog 191 = some [(0, 1), (1, 1), (2, 3)] := by kernel_rfl
theorem tf191_0 : tFld Tryz.prog 191 0 = some (0, false, 1) := by kernel_rfl
theorem tf191_1 : tFld Tryz.prog 191 1 = some (1, false, 1) := by kernel_rfl
theorem tf191_2 : tFld Tryz.prog 191 2 = some (2, true, 3) := by kernel_rfl
theorem tz191 : tZero Tryz.prog 191 = some [.int .u32 0, .int .u32 0, .int .i32 0, .int .i32 0, .int .i32 0] := by kernel_rfl
theorem sz192 : tSz Tryz.prog 192 = some (true, 4) := by kernel_rfl
theorem ta192 : tArr Tryz.prog 192 = none := by kernel_rfl
theorem tp192 : tPl Tryz.prog 192 = some [(0, 1), (1, 1), (2, 1), (3, 1)] := by kernel_rfl
theorem tf192_0 : tFld Tryz.prog 192 0 = some (0, false, 1) := by kernel_rfl
theorem tf192_1 : tFld Tryz.prog 192 1 = some (1, false, 1) := by kernel_rfl
theorem tf192_2 : tFld Tryz.prog 192 2 = some (2, false, 1) := by kernel_rfl
theorem tf192_3 : tFld Tryz.prog 192 3 = some (3, false, 1) := by kernel_rfl
theorem tz192 : tZero Tryz.prog 192 = some [.pointer none, .pointer none, .pointer none, .string ⟨#[]⟩] := by kernel_rfl
theorem sz193 : tSz Tryz.prog 193 = some (true, 4) := by kernel_rfl
theorem ta193 : tArr Tryz.prog 193 = none := by kernel_rfl
theorem tp193 : tPl Tryz.prog 193 = some [(0, 1), (1, 1), (2, 1), (3, 1)] := by kernel_rfl
theorem tf193_0 : tFld Tryz.prog 193 0 = some (0, false, 1) := by kernel_rfl
theorem tf193_1 : tFld Tryz.prog 193 1 = some (1, false, 1) := by kernel_rfl
theorem tf193_2 : tFld Tryz.prog 193 2 = some (2, false, 1) := by kernel_rfl
theorem tf193_3 : tFld Tryz.prog 193 3 = some (3, false, 1) := by kernel_rfl
theorem tz193 : tZero Tryz.prog 193 = some [.pointer none, .pointer none, .pointer none, .string ⟨#[]⟩] := by kernel_rfl
theorem sz194 : tSz Tryz.prog 194 = some (true, 0) := by kernel_rfl
theorem un194 : Tryz.prog.underlying 194 = some (.array 0 16) := by kernel_rfl
theorem te194 : tElem Tryz.prog 194 = some (some 0, 16, false, 1) := by kernel_rfl
theorem ta194 : tArr Tryz.prog 194 = some 1 := by kernel_rfl
theorem tz194 : tZero Tryz.prog 194 = some [] := by kernel_rfl
theorem sz195 : tSz Tryz.prog 195 = some (true, 0) := by kernel_rfl
theorem ta195 : tArr Tryz.prog 195 = none := by kernel_rfl
theorem tp195 : tPl Tryz.prog 195 = some [(0, 0)] := by kernel_rfl
theorem tz195 : tZero Tryz.prog 195 = some [] := by kernel_rfl
theorem sz196 : tSz Tryz.prog 196 = some (true, 0) := by kernel_rfl
theorem ta196 : tArr Tryz.prog 196 = none := by kernel_rfl
theorem tp196 : tPl Tryz.prog 196 = some [(0, 0)] := by kernel_rfl
theorem tz196 : tZero Tryz.prog 196 = some [] := by kernel_rfl
theorem sz197 : tSz Tryz.prog 197 = some (false, 1) := by kernel_rfl
theorem ti197 : tInt Tryz.prog 197 = some .u8 := by kernel_rfl
theorem un197 : Tryz.prog.underlying 197 = some (.int .u8) := by kernel_rfl
theorem tz197 : tZero Tryz.prog 197 = some [.int .u8 0] := by kernel_rfl
theorem sz198 : tSz Tryz.prog 198 = some (false, 1) := by kernel_rfl
theorem ti198 : tInt Tryz.prog 198 = some .u8 := by kernel_rfl
theorem un198 : Tryz.prog.underlying 198 = some (.int .u8) := by kernel_rfl
theorem tz198 : tZero Tryz.prog 198 = some [.int .u8 0] := by kernel_rfl
theorem sz200 : tSz Tryz.prog 200 = some (false, 1) := by kernel_rfl
theorem ti200 : tInt Tryz.prog 200 = some .i32 := by kernel_rfl
theorem un200 : Tryz.prog.underlying 200 = some (.int .i32) := by kernel_rfl
theorem tz200 : tZero Tryz.prog 200 = some [.int .i32 0] := by kernel_rfl
theorem sz201 : tSz Tryz.prog 201 = some (false, 1) := by kernel_rfl
theorem ti201 : tInt Tryz.prog 201 = some .i32 := by kernel_rfl
theorem un201 : Tryz.prog.underlying 201 = some (.int .i32) := by kernel_rfl
theorem tz201 : tZero Tryz.prog 201 = some [.int .i32 0] := by kernel_rfl
theorem sz202 : tSz Tryz.prog 202 = some (true, 11) := by kernel_rfl
theorem ta202 : tArr Tryz.prog 202 = none := by kernel_rfl
theorem tp202 : tPl Tryz.prog 202 = some [(0, 1), (1, 1), (2, 1), (3, 1), (4, 1), (5, 1), (6, 1), (7, 1), (8, 1), (9, 1), (10, 1)] := by kernel_rfl
theorem tf202_0 : tFld Tryz.prog 202 0 = some (0, false, 1) := by kernel_rfl
theorem tf202_1 : tFld Tryz.prog 202 1 = some (1, false, 1) := by kernel_rfl
theorem tf202_2 : tFld Tryz.prog 202 2 = some (2, false, 1) := by kernel_rfl
theorem tf202_3 : tFld Tryz.prog 202 3 = some (3, false, 1) := by kernel_rfl
theorem tf202_4 : tFld Tryz.prog 202 4 = some (4, false, 1) := by kernel_rfl
theorem tf202_5 : tFld Tryz.prog 202 5 = some (5, false, 1) := by kernel_rfl
theorem tf202_6 : tFld Tryz.prog 202 6 = some (6, false, 1) := by kernel_rfl
theorem tf202_7 : tFld Tryz.prog 202 7 = some (7, false, 1) := by kernel_rfl
theorem tf202_8 : tFld Tryz.prog 202 8 = some (8, false, 1) := by kernel_rfl
theorem tf202_9 : tFld Tryz.prog 202 9 = some (9, false, 1) := by kernel_rfl
theorem tf202_10 : tFld Tryz.prog 202 10 = some (10, false, 1) := by kernel_rfl
theorem tz202 : tZero Tryz.prog 202 = some [.int .u64 0, .int .u64 0, .int .u32 0, .int .u8 0, .int .u8 0, .int .u8 0, .int .u8 0, .nilFunc, .pointer none, .int .i32 0, .int .i32 0] := by kernel_rfl
theorem sz203 : tSz Tryz.prog 203 = some (true, 11) := by kernel_rfl
theorem ta203 : tArr Tryz.prog 203 = none := by kernel_rfl
theorem tp203 : tPl Tryz.prog 203 = some [(0, 1), (1, 1), (2, 1), (3, 1), (4, 1), (5, 1), (6, 1), (7, 1), (8, 1), (9, 1), (10, 1)] := by kernel_rfl
theorem tf203_0 : tFld Tryz.prog 203 0 = some (0, false, 1) := by kernel_rfl
theorem tf203_1 : tFld Tryz.prog 203 1 = some (1, false, 1) := by kernel_rfl
theorem tf203_2 : tFld Tryz.prog 203 2 = some (2, false, 1) := by kernel_rfl
theorem tf203_3 : tFld Tryz.prog 203 3 = some (3, false, 1) := by kernel_rfl
theorem tf203_4 : tFld Tryz.prog 203 4 = some (4, false, 1) := by kernel_rfl
theorem tf203_5 : tFld Tryz.prog 203 5 = some (5, false, 1) := by kernel_rfl
theorem tf203_6 : tFld Tryz.prog 203 6 = some (6, false, 1) := by kernel_rfl
theorem tf203_7 : tFld Tryz.prog 203 7 = some (7, false, 1) := by kernel_rfl
theorem tf203_8 : tFld Tryz.prog 203 8 = some (8, false, 1) := by kernel_rfl
theorem tf203_9 : tFld Tryz.prog 203 9 = some (9, false, 1) := by kernel_rfl
theorem tf203_10 : tFld Tryz.prog 203 10 = some (10, false, 1) := by kernel_rfl
theorem tz203 : tZero Tryz.prog 203 = some [.int .u64 0, .int .u64 0, .int .u32 0, .int .u8 0, .int .u8 0, .int .u8 0, .int .u8 0, .nilFunc, .pointer none, .int .i32 0, .int .i32 0] := by kernel_rfl
attribute [go_sem] sz2 ti2 un2 tz2 sz3 ti3 un3 tz3 sz4 un4 tz4 sz5 ti5 un5 tz5 sz6 ti6 un6 tz6 sz7 ta7 tp7 tf7_0 tf7_1 tf7_2 tf7_3 tz7 sz8 ta8 tp8 tf8_0 tf8_1 tf8_2 tf8_3 tz8 sz9 un9 ts9 tz9 sz10 un10 ts10 tz10 sz11 un11 ts11 tz11 sz12 ti12 un12 tz12 sz13 ta13 tp13 tf13_0 tf13_1 tz13 sz14 ta14 tp14 tf14_0 tf14_1 tz14 sz15 un15 tz15 sz16 un16 tz16 sz17 un17 tz17 sz18 ta18 tp18 tf18_0 tz18 sz19 ta19 tp19 tf19_0 tz19 sz20 tz20 sz21 ti21 un21 tz21 sz22 un22 te22 ta22 tz22 sz23 ta23 tp23 tf23_0 tf23_1 tf23_2 tf23_3 tf23_4 tf23_5 tz23 sz24 ta24 tp24 tf24_0 tf24_1 tf24_2 tf24_3 tf24_4 tf24_5 tz24 sz28 un28 te28 ta28 tz28 sz32 un32 te32 sl32 is32 tz32 sz33 un33 te33 sl33 is33 tz33 sz37 ta37 tp37 tf37_0 tf37_1 tf37_2 tz37 sz38 ta38 tp38 tf38_0 tf38_1 tf38_2 tz38 sz42 un42 tz42 sz45 un45 tz45 sz47 un47 tz47 sz48 un48 te48 sl48 is48 tz48 sz50 un50 tz50 sz51 un51 tz51 sz52 un52 te52 sl52 is52 tz52 sz53 ti53 un53 tz53 sz54 ti54 un54 tz54 sz55 ti55 un55 tz55 sz56 ti56 un56 tz56 sz57 ti57 un57 tz57 sz58 ti58 un58 tz58 sz59 ta59 tp59 tf59_0 tf59_1 tf59_2 tf59_3 tf59_4 tf59_5 tf59_6 tf59_7 tf59_8 tf59_9 tf59_10 tz59 sz60 ta60 tp60 tf60_0 tf60_1 tf60_2 tf60_3 tf60_4 tf60_5 tf60_6 tf60_7 tf60_8 tf60_9 tf60_10 tz60 sz69 ti69 un69 tz69 sz70 un70 te70 sl70 is70 tz70 sz72 un72 tz72 sz74 un74 ts74 tz74 sz76 ti76 un76 tz76 sz80 un80 te80 sl80 is80 tz80 sz81 ta81 tp81 tf81_0 tf81_1 tf81_2 tf81_3 tf81_4 tf81_5 tf81_6 tf81_7 tz81 sz82 ta82 tp82 tf82_0 tf82_1 tf82_2 tf82_3 tf82_4 tf82_5 tf82_6 tf82_7 tz82 sz83 ta83 tp83 tz83 sz84 ta84 tp84 tz84 sz90 ti90 un90 tz90 sz101 un101 tz101 sz104 un104 te104 ta104 tz104 sz107 ti107 un107 tz107 sz108 ti108 un108 tz108 sz109 ta109 tp109 tf109_0 tf109_1 tf109_2 tf109_3 tf109_4 tf109_5 tf109_6 tf109_7 tf109_8 tf109_9 tf109_10 tf109_11 tf109_12 tf109_13 tf109_14 tf109_15 tf109_16 tz109 sz110 ta110 tp110 tf110_0 tf110_1 tf110_2 tf110_3 tf110_4 tf110_5 tf110_6 tf110_7 tf110_8 tf110_9 tf110_10 tf110_11 tf110_12 tf110_13 tf110_14 tf110_15 tf110_16 tz110 sz112 un112 te112 sl112 is112 tz112 sz119 un119 te119 sl119 is119 tz119 sz122 un122 te122 ta122 tz122 sz126 un126 te126 ta126 tz126 sz128 ti128 un128 tz128 sz130 un130 te130 sl130 is130 tz130 sz132 un132 te132 ta132 tz132 sz133 un133 te133 ta133 tz133 sz135 ti135 un135 tz135 sz137 un137 te137 sl137 is137 tz137 sz141 un141 te141 sl141 is141 tz141 sz143 un143 te143 ta143 tz143 sz149 un149 te149 ta149 tz149 sz150 ti150 un150 tz150 sz152 un152 tz152 sz153 ta153 tp153 tf153_0 tf153_1 tz153 sz154 ta154 tp154 tf154_0 tf154_1 tz154 sz156 tz156 sz157 tz157 sz165 un165 tz165 sz173 tz173 sz179 un179 te179 sl179 is179 tz179 sz180 un180 te180 ta180 tz180 sz181 ta181 tp181 tf181_0 tf181_1 tz181 sz182 ta182 tp182 tf182_0 tf182_1 tz182 sz183 un183 te183 ta183 tz183 sz184 ti184 un184 tz184 sz185 un185 tz185 sz188 un188 te188 ta188 tz188 sz189 un189 te189 ta189 tz189 sz190 ta190 tp190 tf190_0 tf190_1 tf190_2 tz190 sz191 ta191 tp191 tf191_0 tf191_1 tf191_2 tz191 sz192 ta192 tp192 tf192_0 tf192_1 tf192_2 tf192_3 tz192 sz193 ta193 tp193 tf193_0 tf193_1 tf193_2 tf193_3 tz193 sz194 un194 te194 ta194 tz194 sz195 ta195 tp195 tz195 sz196 ta196 tp196 tz196 sz197 ti197 un197 tz197 sz198 ti198 un198 tz198 sz200 ti200 un200 tz200 sz201 ti201 un201 tz201 sz202 ta202 tp202 tf202_0 tf202_1 tf202_2 tf202_3 tf202_4 tf202_5 tf202_6 tf202_7 tf202_8 tf202_9 tf202_10 tz202 sz203 ta203 tp203 tf203_0 tf203_1 tf203_2 tf203_3 tf203_4 tf203_5 tf203_6 tf203_7 tf203_8 tf203_9 tf203_10 tz203
end Go.Tb
end
