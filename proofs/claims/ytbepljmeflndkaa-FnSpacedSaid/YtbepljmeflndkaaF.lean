/- Closed facts on the types and functions. -/
import Derived.Test.YtbepljmeflndkaaRows
import Derived.Test.YtbepljmeflndkaaEng
namespace Go.Proofs.Ytbepljmeflndkaa
open Go.Eng
theorem bp_24 : bPlan Try.prog 24 = some ([.int .i64 0, .int .i64 0, .int .i64 0, .int .i64 0, .int .i64 0, .slice none 0 0], [(0, 1), (1, 1), (2, 1), (3, 1), (4, 1), (5, 1)]) := by kernel_rfl
theorem bp_38 : bPlan Try.prog 38 = some ([.int .i64 0, .int .i64 0, .int .i64 0, .int .i64 0, .int .i64 0, .int .i64 0, .int .i64 0, .int .i64 0, .int .i64 0, .int .i64 0], [(0, 1), (1, 1), (2, 1), (3, 1), (4, 1), (5, 1), (6, 1), (7, 1), (8, 1), (9, 1)]) := by kernel_rfl
theorem bp_47 : bPlan Try.prog 47 = some ([.int .i32 0, .int .i32 0, .int .i32 0], [(0, 1), (1, 1), (2, 1)]) := by kernel_rfl
theorem bp_67 : bPlan Try.prog 67 = some ([.int .i32 0, .int .i32 0, .int .i32 0, .int .i32 0, .int .i32 0, .int .i32 0, .int .i32 0, .int .i32 0, .int .i32 0, .int .i64 0, .int .i64 0, .int .i64 0, .int .u32 0, .int .u32 0, .int .i32 0, .int .i32 0], [(0, 1), (1, 1), (2, 1), (3, 1), (4, 1), (5, 1), (6, 1), (7, 1), (8, 1), (9, 1), (10, 1), (11, 1), (12, 1), (13, 1), (14, 1), (15, 1)]) := by kernel_rfl
theorem cv_3_43 : cvK Try.prog 3 43 = some .u16 := by kernel_rfl
theorem cv_3_44 : cvK Try.prog 3 44 = some .i32 := by kernel_rfl
theorem cv_3_48 : cvK Try.prog 3 48 = some .u8 := by kernel_rfl
theorem cv_3_5 : cvK Try.prog 3 5 = some .u8 := by kernel_rfl
theorem cv_43_3 : cvK Try.prog 43 3 = some .i64 := by kernel_rfl
theorem cv_44_3 : cvK Try.prog 44 3 = some .i64 := by kernel_rfl
theorem cv_48_3 : cvK Try.prog 48 3 = some .i64 := by kernel_rfl
theorem cv_5_3 : cvK Try.prog 5 3 = some .i64 := by kernel_rfl
theorem es_22 : elSize Try.prog 22 = some 10 := by kernel_rfl
theorem es_45 : elSize Try.prog 45 = some 16 := by kernel_rfl
theorem es_63 : elSize Try.prog 63 = some 1 := by kernel_rfl
theorem fo_24_0 : fOff Try.prog 24 0 = some 0 := by kernel_rfl
theorem fo_24_1 : fOff Try.prog 24 1 = some 1 := by kernel_rfl
theorem fo_24_2 : fOff Try.prog 24 2 = some 2 := by kernel_rfl
theorem fo_24_3 : fOff Try.prog 24 3 = some 3 := by kernel_rfl
theorem fo_24_4 : fOff Try.prog 24 4 = some 4 := by kernel_rfl
theorem fo_24_5 : fOff Try.prog 24 5 = some 5 := by kernel_rfl
theorem fo_38_0 : fOff Try.prog 38 0 = some 0 := by kernel_rfl
theorem fo_38_1 : fOff Try.prog 38 1 = some 1 := by kernel_rfl
theorem fo_38_2 : fOff Try.prog 38 2 = some 2 := by kernel_rfl
theorem fo_38_3 : fOff Try.prog 38 3 = some 3 := by kernel_rfl
theorem fo_38_4 : fOff Try.prog 38 4 = some 4 := by kernel_rfl
theorem fo_38_5 : fOff Try.prog 38 5 = some 5 := by kernel_rfl
theorem fo_38_6 : fOff Try.prog 38 6 = some 6 := by kernel_rfl
theorem fo_38_7 : fOff Try.prog 38 7 = some 7 := by kernel_rfl
theorem fo_38_8 : fOff Try.prog 38 8 = some 8 := by kernel_rfl
theorem fo_38_9 : fOff Try.prog 38 9 = some 9 := by kernel_rfl
theorem fo_47_0 : fOff Try.prog 47 0 = some 0 := by kernel_rfl
theorem fo_47_1 : fOff Try.prog 47 1 = some 1 := by kernel_rfl
theorem fo_47_2 : fOff Try.prog 47 2 = some 2 := by kernel_rfl
theorem fo_53_0 : fOff Try.prog 53 0 = some 0 := by kernel_rfl
theorem fo_53_2 : fOff Try.prog 53 2 = some 2 := by kernel_rfl
theorem fo_53_4 : fOff Try.prog 53 4 = some 6 := by kernel_rfl
theorem fo_53_5 : fOff Try.prog 53 5 = some 9 := by kernel_rfl
theorem fo_67_0 : fOff Try.prog 67 0 = some 0 := by kernel_rfl
theorem fo_67_1 : fOff Try.prog 67 1 = some 1 := by kernel_rfl
theorem fo_67_10 : fOff Try.prog 67 10 = some 10 := by kernel_rfl
theorem fo_67_11 : fOff Try.prog 67 11 = some 11 := by kernel_rfl
theorem fo_67_2 : fOff Try.prog 67 2 = some 2 := by kernel_rfl
theorem fo_67_3 : fOff Try.prog 67 3 = some 3 := by kernel_rfl
theorem fo_67_4 : fOff Try.prog 67 4 = some 4 := by kernel_rfl
theorem fo_67_5 : fOff Try.prog 67 5 = some 5 := by kernel_rfl
theorem fo_67_6 : fOff Try.prog 67 6 = some 6 := by kernel_rfl
theorem fo_67_7 : fOff Try.prog 67 7 = some 7 := by kernel_rfl
theorem fo_67_8 : fOff Try.prog 67 8 = some 8 := by kernel_rfl
theorem fo_67_9 : fOff Try.prog 67 9 = some 9 := by kernel_rfl
theorem inf_38 : Try.prog.info? 38 = some Try.t38 := by kernel_rfl
theorem inf_67 : Try.prog.info? 67 = some Try.t67 := by kernel_rfl
theorem ld_22 : ldSize Try.prog 22 = some none := by kernel_rfl
theorem ld_24 : ldSize Try.prog 24 = some (some 6) := by kernel_rfl
theorem ld_3 : ldSize Try.prog 3 = some none := by kernel_rfl
theorem ld_38 : ldSize Try.prog 38 = some (some 10) := by kernel_rfl
theorem ld_44 : ldSize Try.prog 44 = some none := by kernel_rfl
theorem ld_45 : ldSize Try.prog 45 = some none := by kernel_rfl
theorem ld_47 : ldSize Try.prog 47 = some (some 3) := by kernel_rfl
theorem ld_48 : ldSize Try.prog 48 = some none := by kernel_rfl
theorem ld_53 : ldSize Try.prog 53 = some (some 14) := by kernel_rfl
theorem ld_67 : ldSize Try.prog 67 = some (some 16) := by kernel_rfl
theorem mixed : Try.prog.follows .mixedOrders = true := by kernel_rfl
theorem ok_10 : callOk Try.prog 10 = true := by kernel_rfl
theorem ok_18 : callOk Try.prog 18 = true := by kernel_rfl
theorem ok_19 : callOk Try.prog 19 = true := by kernel_rfl
theorem ok_20 : callOk Try.prog 20 = true := by kernel_rfl
theorem ok_21 : callOk Try.prog 21 = true := by kernel_rfl
theorem ok_22 : callOk Try.prog 22 = true := by kernel_rfl
theorem ok_23 : callOk Try.prog 23 = true := by kernel_rfl
theorem ok_25 : callOk Try.prog 25 = true := by kernel_rfl
theorem ok_31 : callOk Try.prog 31 = true := by kernel_rfl
theorem ok_32 : callOk Try.prog 32 = true := by kernel_rfl
theorem ok_5 : callOk Try.prog 5 = true := by kernel_rfl
theorem ok_6 : callOk Try.prog 6 = true := by kernel_rfl
theorem ok_7 : callOk Try.prog 7 = true := by kernel_rfl
theorem ok_8 : callOk Try.prog 8 = true := by kernel_rfl
theorem ok_9 : callOk Try.prog 9 = true := by kernel_rfl
theorem sl_22 : isSl Try.prog 22 = some 38 := by kernel_rfl
theorem sl_45 : isSl Try.prog 45 = some 67 := by kernel_rfl
theorem sl_63 : isSl Try.prog 63 = some 3 := by kernel_rfl
theorem sz_22 : szOf Try.prog 22 = some 1 := by kernel_rfl
theorem sz_24 : szOf Try.prog 24 = some 6 := by kernel_rfl
theorem sz_3 : szOf Try.prog 3 = some 1 := by kernel_rfl
theorem sz_38 : szOf Try.prog 38 = some 10 := by kernel_rfl
theorem sz_44 : szOf Try.prog 44 = some 1 := by kernel_rfl
theorem sz_45 : szOf Try.prog 45 = some 1 := by kernel_rfl
theorem sz_47 : szOf Try.prog 47 = some 3 := by kernel_rfl
theorem sz_48 : szOf Try.prog 48 = some 1 := by kernel_rfl
theorem sz_53 : szOf Try.prog 53 = some 14 := by kernel_rfl
theorem sz_67 : szOf Try.prog 67 = some 16 := by kernel_rfl
theorem ze_24 : zeroC Try.prog 24 = some [.int .i64 0, .int .i64 0, .int .i64 0, .int .i64 0, .int .i64 0, .slice none 0 0] := by kernel_rfl
theorem ze_3 : zeroC Try.prog 3 = some [.int .i64 0] := by kernel_rfl
theorem ze_38 : zeroC Try.prog 38 = some [.int .i64 0, .int .i64 0, .int .i64 0, .int .i64 0, .int .i64 0, .int .i64 0, .int .i64 0, .int .i64 0, .int .i64 0, .int .i64 0] := by kernel_rfl
theorem ze_47 : zeroC Try.prog 47 = some [.int .i32 0, .int .i32 0, .int .i32 0] := by kernel_rfl
theorem ze_53 : zeroC Try.prog 53 = some [.int .i32 0, .int .i32 0, .slice none 0 0, .int .i32 0, .int .i32 0, .int .i32 0, .int .i32 0, .int .i32 0, .int .i32 0, .int .u8 0, .int .i64 0, .int .i64 0, .pointer none, .int .i32 0] := by kernel_rfl
theorem ze_67 : zeroC Try.prog 67 = some [.int .i32 0, .int .i32 0, .int .i32 0, .int .i32 0, .int .i32 0, .int .i32 0, .int .i32 0, .int .i32 0, .int .i32 0, .int .i64 0, .int .i64 0, .int .i64 0, .int .u32 0, .int .u32 0, .int .i32 0, .int .i32 0] := by kernel_rfl
end Go.Proofs.Ytbepljmeflndkaa
