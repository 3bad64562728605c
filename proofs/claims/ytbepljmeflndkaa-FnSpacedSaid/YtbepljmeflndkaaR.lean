/- More closed facts on the types and functions. -/
import Derived.Test.YtbepljmeflndkaaF
namespace Go.Proofs.Ytbepljmeflndkaa
open Go.Eng
theorem cv_31_3 : cvK Try.prog 31 3 = some .i64 := by kernel_rfl
theorem es_29 : elSize Try.prog 29 = some 1 := by kernel_rfl
theorem es_30 : elSize Try.prog 30 = some 1 := by kernel_rfl
theorem es_34 : elSize Try.prog 34 = some 6 := by kernel_rfl
theorem es_57 : elSize Try.prog 57 = some 14 := by kernel_rfl
theorem fo_67_14 : fOff Try.prog 67 14 = some 14 := by kernel_rfl
theorem fo_67_15 : fOff Try.prog 67 15 = some 15 := by kernel_rfl
theorem inf_24 : Try.prog.info? 24 = some Try.t24 := by kernel_rfl
theorem inf_53 : Try.prog.info? 53 = some Try.t53 := by kernel_rfl
theorem ld_21 : ldSize Try.prog 21 = some none := by kernel_rfl
theorem ok_11 : callOk Try.prog 11 = true := by kernel_rfl
theorem ok_12 : callOk Try.prog 12 = true := by kernel_rfl
theorem ok_13 : callOk Try.prog 13 = true := by kernel_rfl
theorem ok_14 : callOk Try.prog 14 = true := by kernel_rfl
theorem ok_15 : callOk Try.prog 15 = true := by kernel_rfl
theorem ok_16 : callOk Try.prog 16 = true := by kernel_rfl
theorem ok_17 : callOk Try.prog 17 = true := by kernel_rfl
theorem ok_24 : callOk Try.prog 24 = true := by kernel_rfl
theorem ok_26 : callOk Try.prog 26 = true := by kernel_rfl
theorem ok_27 : callOk Try.prog 27 = true := by kernel_rfl
theorem ok_28 : callOk Try.prog 28 = true := by kernel_rfl
theorem ok_29 : callOk Try.prog 29 = true := by kernel_rfl
theorem ok_30 : callOk Try.prog 30 = true := by kernel_rfl
theorem ok_33 : callOk Try.prog 33 = true := by kernel_rfl
theorem ok_34 : callOk Try.prog 34 = true := by kernel_rfl
theorem sl_29 : isSl Try.prog 29 = some 21 := by kernel_rfl
theorem sl_30 : isSl Try.prog 30 = some 22 := by kernel_rfl
theorem sl_34 : isSl Try.prog 34 = some 24 := by kernel_rfl
theorem sl_57 : isSl Try.prog 57 = some 53 := by kernel_rfl
theorem sz_21 : szOf Try.prog 21 = some 1 := by kernel_rfl
theorem ze_21 : zeroC Try.prog 21 = some [.int .i32 0] := by kernel_rfl
end Go.Proofs.Ytbepljmeflndkaa
