/- Closed facts on the program's tables. Written by facts.py out of the translation. -/
import Derived.Test.YtloonhdnheobpaaChecked
import Derived.Test.YtloonhdnheobpaaEv
import Derived.Test.YtloonhdnheobpaaMem3
import Derived.KernelRfl
namespace Go.Proofs.Ytloonhdnheobpaa
open Go
theorem one_1 : plain1 Try.prog 1 = true := by kernel_rfl
theorem kind_2 : kindOf Try.prog 2 = some .i64 := by kernel_rfl
theorem known_2 : knownT Try.prog 2 = true := by kernel_rfl
theorem one_2 : plain1 Try.prog 2 = true := by kernel_rfl
theorem kind_3 : kindOf Try.prog 3 = some .i64 := by kernel_rfl
theorem known_3 : knownT Try.prog 3 = true := by kernel_rfl
theorem one_3 : plain1 Try.prog 3 = true := by kernel_rfl
theorem one_4 : plain1 Try.prog 4 = true := by kernel_rfl
theorem kind_5 : kindOf Try.prog 5 = some .u8 := by kernel_rfl
theorem known_5 : knownT Try.prog 5 = true := by kernel_rfl
theorem one_5 : plain1 Try.prog 5 = true := by kernel_rfl
theorem kind_6 : kindOf Try.prog 6 = some .u8 := by kernel_rfl
theorem known_6 : knownT Try.prog 6 = true := by kernel_rfl
theorem one_6 : plain1 Try.prog 6 = true := by kernel_rfl
theorem agg_7 : aggN Try.prog 7 4 = true := by kernel_rfl
theorem agg_8 : aggN Try.prog 8 4 = true := by kernel_rfl
theorem zero_8 : zeroIs Try.prog 8 ([.nat 0] ++ ([.nat 0] ++ ([.bool false] ++ ([.u8 0])))) := by unfold zeroIs; kernel_rfl
theorem fld_8_0 : fieldOff Try.prog 8 0 = some 0 := by kernel_rfl
theorem fld_8_1 : fieldOff Try.prog 8 1 = some 1 := by kernel_rfl
theorem fld_8_2 : fieldOff Try.prog 8 2 = some 2 := by kernel_rfl
theorem fld_8_3 : fieldOff Try.prog 8 3 = some 3 := by kernel_rfl
theorem one_9 : plain1 Try.prog 9 = true := by kernel_rfl
theorem one_10 : plain1 Try.prog 10 = true := by kernel_rfl
theorem one_11 : plain1 Try.prog 11 = true := by kernel_rfl
theorem kind_12 : kindOf Try.prog 12 = some .u64 := by kernel_rfl
theorem known_12 : knownT Try.prog 12 = true := by kernel_rfl
theorem one_12 : plain1 Try.prog 12 = true := by kernel_rfl
theorem agg_13 : aggN Try.prog 13 2 = true := by kernel_rfl
theorem agg_14 : aggN Try.prog 14 2 = true := by kernel_rfl
theorem fld_14_0 : fieldOff Try.prog 14 0 = some 0 := by kernel_rfl
theorem fld_14_1 : fieldOff Try.prog 14 1 = some 1 := by kernel_rfl
theorem ptr_15 : ptrT Try.prog 15 = true := by kernel_rfl
theorem one_15 : plain1 Try.prog 15 = true := by kernel_rfl
theorem ptr_16 : ptrT Try.prog 16 = true := by kernel_rfl
theorem one_16 : plain1 Try.prog 16 = true := by kernel_rfl
theorem ptr_17 : ptrT Try.prog 17 = true := by kernel_rfl
theorem one_17 : plain1 Try.prog 17 = true := by kernel_rfl
theorem agg_18 : aggN Try.prog 18 1 = true := by kernel_rfl
theorem agg_19 : aggN Try.prog 19 1 = true := by kernel_rfl
theorem fld_19_0 : fieldOff Try.prog 19 0 = some 0 := by kernel_rfl
theorem one_20 : plain1 Try.prog 20 = true := by kernel_rfl
theorem kind_21 : kindOf Try.prog 21 = some .i32 := by kernel_rfl
theorem known_21 : knownT Try.prog 21 = true := by kernel_rfl
theorem one_21 : plain1 Try.prog 21 = true := by kernel_rfl
theorem one_23 : plain1 Try.prog 23 = true := by kernel_rfl
theorem one_24 : plain1 Try.prog 24 = true := by kernel_rfl
theorem ptr_25 : ptrT Try.prog 25 = true := by kernel_rfl
theorem one_25 : plain1 Try.prog 25 = true := by kernel_rfl
theorem one_26 : plain1 Try.prog 26 = true := by kernel_rfl
theorem one_27 : plain1 Try.prog 27 = true := by kernel_rfl
theorem sl_28 : slElem Try.prog 28 = some 1 := by kernel_rfl
theorem slof_28 : sliceOf Try.prog 28 3 1 = true := by kernel_rfl
theorem one_28 : plain1 Try.prog 28 = true := by kernel_rfl
theorem ptr_29 : ptrT Try.prog 29 = true := by kernel_rfl
theorem one_29 : plain1 Try.prog 29 = true := by kernel_rfl
theorem one_30 : plain1 Try.prog 30 = true := by kernel_rfl
theorem one_31 : plain1 Try.prog 31 = true := by kernel_rfl
theorem one_32 : plain1 Try.prog 32 = true := by kernel_rfl
theorem kind_33 : kindOf Try.prog 33 = some .u32 := by kernel_rfl
theorem known_33 : knownT Try.prog 33 = true := by kernel_rfl
theorem one_33 : plain1 Try.prog 33 = true := by kernel_rfl
theorem arr_34 : arrElem Try.prog 34 = some (4, 1) := by kernel_rfl
theorem zero_34 : zeroIs Try.prog 34 (List.replicate 4 (.u32 0)) := by unfold zeroIs; kernel_rfl
theorem agg_34 : aggN Try.prog 34 4 = true := by kernel_rfl
theorem arr_35 : arrElem Try.prog 35 = some (64, 1) := by kernel_rfl
theorem zero_35 : zeroIs Try.prog 35 (List.replicate 64 (.u8 0)) := by unfold zeroIs; kernel_rfl
theorem agg_35 : aggN Try.prog 35 64 = true := by kernel_rfl
theorem kind_36 : kindOf Try.prog 36 = some .u64 := by kernel_rfl
theorem known_36 : knownT Try.prog 36 = true := by kernel_rfl
theorem one_36 : plain1 Try.prog 36 = true := by kernel_rfl
theorem agg_37 : aggN Try.prog 37 70 = true := by kernel_rfl
theorem agg_38 : aggN Try.prog 38 70 = true := by kernel_rfl
theorem zero_38 : zeroIs Try.prog 38 (List.replicate 4 (.u32 0) ++ (List.replicate 64 (.u8 0) ++ ([.nat 0] ++ ([.u64 0])))) := by unfold zeroIs; kernel_rfl
theorem fld_38_0 : fieldOff Try.prog 38 0 = some 0 := by kernel_rfl
theorem fld_38_1 : fieldOff Try.prog 38 1 = some 4 := by kernel_rfl
theorem fld_38_2 : fieldOff Try.prog 38 2 = some 68 := by kernel_rfl
theorem fld_38_3 : fieldOff Try.prog 38 3 = some 69 := by kernel_rfl
theorem arr_39 : arrElem Try.prog 39 = some (5, 1) := by kernel_rfl
theorem zero_39 : zeroIs Try.prog 39 (List.replicate 5 (.u32 0)) := by unfold zeroIs; kernel_rfl
theorem agg_39 : aggN Try.prog 39 5 = true := by kernel_rfl
theorem agg_40 : aggN Try.prog 40 71 = true := by kernel_rfl
theorem agg_41 : aggN Try.prog 41 71 = true := by kernel_rfl
theorem zero_41 : zeroIs Try.prog 41 (List.replicate 5 (.u32 0) ++ (List.replicate 64 (.u8 0) ++ ([.nat 0] ++ ([.u64 0])))) := by unfold zeroIs; kernel_rfl
theorem fld_41_0 : fieldOff Try.prog 41 0 = some 0 := by kernel_rfl
theorem fld_41_1 : fieldOff Try.prog 41 1 = some 5 := by kernel_rfl
theorem fld_41_2 : fieldOff Try.prog 41 2 = some 69 := by kernel_rfl
theorem fld_41_3 : fieldOff Try.prog 41 3 = some 70 := by kernel_rfl
theorem one_42 : plain1 Try.prog 42 = true := by kernel_rfl
theorem agg_43 : aggN Try.prog 43 4 = true := by kernel_rfl
theorem agg_44 : aggN Try.prog 44 4 = true := by kernel_rfl
theorem fld_44_0 : fieldOff Try.prog 44 0 = some 0 := by kernel_rfl
theorem fld_44_1 : fieldOff Try.prog 44 1 = some 1 := by kernel_rfl
theorem fld_44_2 : fieldOff Try.prog 44 2 = some 2 := by kernel_rfl
theorem fld_44_3 : fieldOff Try.prog 44 3 = some 3 := by kernel_rfl
theorem kind_48 : kindOf Try.prog 48 = some .u8 := by kernel_rfl
theorem known_48 : knownT Try.prog 48 = true := by kernel_rfl
theorem one_48 : plain1 Try.prog 48 = true := by kernel_rfl
theorem kind_49 : kindOf Try.prog 49 = some .u8 := by kernel_rfl
theorem known_49 : knownT Try.prog 49 = true := by kernel_rfl
theorem one_49 : plain1 Try.prog 49 = true := by kernel_rfl
theorem one_50 : plain1 Try.prog 50 = true := by kernel_rfl
theorem ptr_51 : ptrT Try.prog 51 = true := by kernel_rfl
theorem one_51 : plain1 Try.prog 51 = true := by kernel_rfl
theorem kind_52 : kindOf Try.prog 52 = some .i32 := by kernel_rfl
theorem known_52 : knownT Try.prog 52 = true := by kernel_rfl
theorem one_52 : plain1 Try.prog 52 = true := by kernel_rfl
theorem kind_53 : kindOf Try.prog 53 = some .i32 := by kernel_rfl
theorem known_53 : knownT Try.prog 53 = true := by kernel_rfl
theorem one_53 : plain1 Try.prog 53 = true := by kernel_rfl
theorem agg_54 : aggN Try.prog 54 11 = true := by kernel_rfl
theorem agg_55 : aggN Try.prog 55 11 = true := by kernel_rfl
theorem fld_55_0 : fieldOff Try.prog 55 0 = some 0 := by kernel_rfl
theorem fld_55_1 : fieldOff Try.prog 55 1 = some 1 := by kernel_rfl
theorem fld_55_2 : fieldOff Try.prog 55 2 = some 2 := by kernel_rfl
theorem fld_55_3 : fieldOff Try.prog 55 3 = some 3 := by kernel_rfl
theorem fld_55_4 : fieldOff Try.prog 55 4 = some 4 := by kernel_rfl
theorem fld_55_5 : fieldOff Try.prog 55 5 = some 5 := by kernel_rfl
theorem fld_55_6 : fieldOff Try.prog 55 6 = some 6 := by kernel_rfl
theorem fld_55_8 : fieldOff Try.prog 55 8 = some 8 := by kernel_rfl
theorem fld_55_9 : fieldOff Try.prog 55 9 = some 9 := by kernel_rfl
theorem fld_55_10 : fieldOff Try.prog 55 10 = some 10 := by kernel_rfl
theorem fn_3 : plainFn Try.prog 3 = true := by kernel_rfl
theorem fn_4 : plainFn Try.prog 4 = true := by kernel_rfl
theorem fn_5 : plainFn Try.prog 5 = true := by kernel_rfl
theorem fn_6 : plainFn Try.prog 6 = true := by kernel_rfl
theorem fn_7 : plainFn Try.prog 7 = true := by kernel_rfl
theorem fn_8 : plainFn Try.prog 8 = true := by kernel_rfl
theorem fn_9 : plainFn Try.prog 9 = true := by kernel_rfl
theorem fn_10 : plainFn Try.prog 10 = true := by kernel_rfl
theorem fn_11 : plainFn Try.prog 11 = true := by kernel_rfl
theorem fn_12 : plainFn Try.prog 12 = true := by kernel_rfl
theorem fn_13 : plainFn Try.prog 13 = true := by kernel_rfl
theorem fn_14 : plainFn Try.prog 14 = true := by kernel_rfl
theorem fn_15 : plainFn Try.prog 15 = true := by kernel_rfl
theorem fn_16 : plainFn Try.prog 16 = true := by kernel_rfl
theorem fn_17 : plainFn Try.prog 17 = true := by kernel_rfl
theorem mixed : Try.prog.follows .mixedOrders = true := by kernel_rfl
theorem fx :
    (kindOf Try.prog 2 = some .i64) ∧
    (knownT Try.prog 2 = true) ∧
    (kindOf Try.prog 3 = some .i64) ∧
    (knownT Try.prog 3 = true) ∧
    (kindOf Try.prog 5 = some .u8) ∧
    (knownT Try.prog 5 = true) ∧
    (kindOf Try.prog 6 = some .u8) ∧
    (knownT Try.prog 6 = true) ∧
    (fieldOff Try.prog 8 0 = some 0) ∧
    (fieldOff Try.prog 8 1 = some 1) ∧
    (fieldOff Try.prog 8 2 = some 2) ∧
    (fieldOff Try.prog 8 3 = some 3) ∧
    (kindOf Try.prog 12 = some .u64) ∧
    (knownT Try.prog 12 = true) ∧
    (fieldOff Try.prog 14 0 = some 0) ∧
    (fieldOff Try.prog 14 1 = some 1) ∧
    (fieldOff Try.prog 19 0 = some 0) ∧
    (kindOf Try.prog 21 = some .i32) ∧
    (knownT Try.prog 21 = true) ∧
    (slElem Try.prog 28 = some 1) ∧
    (kindOf Try.prog 33 = some .u32) ∧
    (knownT Try.prog 33 = true) ∧
    (arrElem Try.prog 34 = some (4, 1)) ∧
    (arrElem Try.prog 35 = some (64, 1)) ∧
    (kindOf Try.prog 36 = some .u64) ∧
    (knownT Try.prog 36 = true) ∧
    (fieldOff Try.prog 38 0 = some 0) ∧
    (fieldOff Try.prog 38 1 = some 4) ∧
    (fieldOff Try.prog 38 2 = some 68) ∧
    (fieldOff Try.prog 38 3 = some 69) ∧
    (arrElem Try.prog 39 = some (5, 1)) ∧
    (fieldOff Try.prog 41 0 = some 0) ∧
    (fieldOff Try.prog 41 1 = some 5) ∧
    (fieldOff Try.prog 41 2 = some 69) ∧
    (fieldOff Try.prog 41 3 = some 70) ∧
    (fieldOff Try.prog 44 0 = some 0) ∧
    (fieldOff Try.prog 44 1 = some 1) ∧
    (fieldOff Try.prog 44 2 = some 2) ∧
    (fieldOff Try.prog 44 3 = some 3) ∧
    (kindOf Try.prog 48 = some .u8) ∧
    (knownT Try.prog 48 = true) ∧
    (kindOf Try.prog 49 = some .u8) ∧
    (knownT Try.prog 49 = true) ∧
    (kindOf Try.prog 52 = some .i32) ∧
    (knownT Try.prog 52 = true) ∧
    (kindOf Try.prog 53 = some .i32) ∧
    (knownT Try.prog 53 = true) ∧
    (fieldOff Try.prog 55 0 = some 0) ∧
    (fieldOff Try.prog 55 1 = some 1) ∧
    (fieldOff Try.prog 55 2 = some 2) ∧
    (fieldOff Try.prog 55 3 = some 3) ∧
    (fieldOff Try.prog 55 4 = some 4) ∧
    (fieldOff Try.prog 55 5 = some 5) ∧
    (fieldOff Try.prog 55 6 = some 6) ∧
    (fieldOff Try.prog 55 8 = some 8) ∧
    (fieldOff Try.prog 55 9 = some 9) ∧
    (fieldOff Try.prog 55 10 = some 10) :=
  ⟨kind_2, known_2, kind_3, known_3, kind_5, known_5, kind_6, known_6, fld_8_0, fld_8_1, fld_8_2, fld_8_3, kind_12, known_12, fld_14_0, fld_14_1, fld_19_0, kind_21, known_21, sl_28, kind_33, known_33, arr_34, arr_35, kind_36, known_36, fld_38_0, fld_38_1, fld_38_2, fld_38_3, arr_39, fld_41_0, fld_41_1, fld_41_2, fld_41_3, fld_44_0, fld_44_1, fld_44_2, fld_44_3, kind_48, known_48, kind_49, known_49, kind_52, known_52, kind_53, known_53, fld_55_0, fld_55_1, fld_55_2, fld_55_3, fld_55_4, fld_55_5, fld_55_6, fld_55_8, fld_55_9, fld_55_10⟩
end Go.Proofs.Ytloonhdnheobpaa
