/- Closed facts on the program's tables. Written by facts.py out of the translation. -/
import Derived.Test.YtloonhdnheobpaaDoorChecked
import Derived.Test.YtloonhdnheobpaaDoorEv
import Derived.Test.YtloonhdnheobpaaDoorMem5
import Derived.Test.YtloonhdnheobpaaDoorTree
import Derived.KernelRfl
namespace Go.Proofs.YtloonhdnheobpaaDoor
open Go
theorem one_1 : plain1 Tryd.prog 1 = true := by kernel_rfl
theorem kind_2 : kindOf Tryd.prog 2 = some .i64 := by kernel_rfl
theorem known_2 : knownT Tryd.prog 2 = true := by kernel_rfl
theorem intt_2 : intT Tryd.prog 2 = true := by kernel_rfl
theorem one_2 : plain1 Tryd.prog 2 = true := by kernel_rfl
theorem kind_3 : kindOf Tryd.prog 3 = some .i64 := by kernel_rfl
theorem known_3 : knownT Tryd.prog 3 = true := by kernel_rfl
theorem intt_3 : intT Tryd.prog 3 = true := by kernel_rfl
theorem one_3 : plain1 Tryd.prog 3 = true := by kernel_rfl
theorem one_4 : plain1 Tryd.prog 4 = true := by kernel_rfl
theorem kind_5 : kindOf Tryd.prog 5 = some .u8 := by kernel_rfl
theorem known_5 : knownT Tryd.prog 5 = true := by kernel_rfl
theorem one_5 : plain1 Tryd.prog 5 = true := by kernel_rfl
theorem kind_6 : kindOf Tryd.prog 6 = some .u8 := by kernel_rfl
theorem known_6 : knownT Tryd.prog 6 = true := by kernel_rfl
theorem one_6 : plain1 Tryd.prog 6 = true := by kernel_rfl
theorem agg_7 : aggN Tryd.prog 7 4 = true := by kernel_rfl
theorem agg_8 : aggN Tryd.prog 8 4 = true := by kernel_rfl
theorem zero_8 : zeroIs Tryd.prog 8 ([.nat 0] ++ ([.nat 0] ++ ([.bool false] ++ ([.u8 0])))) := by unfold zeroIs; kernel_rfl
theorem fld_8_0 : fieldOff Tryd.prog 8 0 = some 0 := by kernel_rfl
theorem fld_8_1 : fieldOff Tryd.prog 8 1 = some 1 := by kernel_rfl
theorem fld_8_2 : fieldOff Tryd.prog 8 2 = some 2 := by kernel_rfl
theorem fld_8_3 : fieldOff Tryd.prog 8 3 = some 3 := by kernel_rfl
theorem strt_9 : strT Tryd.prog 9 = true := by kernel_rfl
theorem one_9 : plain1 Tryd.prog 9 = true := by kernel_rfl
theorem strt_10 : strT Tryd.prog 10 = true := by kernel_rfl
theorem one_10 : plain1 Tryd.prog 10 = true := by kernel_rfl
theorem strt_11 : strT Tryd.prog 11 = true := by kernel_rfl
theorem one_11 : plain1 Tryd.prog 11 = true := by kernel_rfl
theorem kind_12 : kindOf Tryd.prog 12 = some .u64 := by kernel_rfl
theorem known_12 : knownT Tryd.prog 12 = true := by kernel_rfl
theorem one_12 : plain1 Tryd.prog 12 = true := by kernel_rfl
theorem agg_13 : aggN Tryd.prog 13 2 = true := by kernel_rfl
theorem agg_14 : aggN Tryd.prog 14 2 = true := by kernel_rfl
theorem fld_14_0 : fieldOff Tryd.prog 14 0 = some 0 := by kernel_rfl
theorem fld_14_1 : fieldOff Tryd.prog 14 1 = some 1 := by kernel_rfl
theorem ptr_15 : ptrT Tryd.prog 15 = true := by kernel_rfl
theorem one_15 : plain1 Tryd.prog 15 = true := by kernel_rfl
theorem ptr_16 : ptrT Tryd.prog 16 = true := by kernel_rfl
theorem one_16 : plain1 Tryd.prog 16 = true := by kernel_rfl
theorem ptr_17 : ptrT Tryd.prog 17 = true := by kernel_rfl
theorem one_17 : plain1 Tryd.prog 17 = true := by kernel_rfl
theorem agg_18 : aggN Tryd.prog 18 1 = true := by kernel_rfl
theorem agg_19 : aggN Tryd.prog 19 1 = true := by kernel_rfl
theorem fld_19_0 : fieldOff Tryd.prog 19 0 = some 0 := by kernel_rfl
theorem one_20 : plain1 Tryd.prog 20 = true := by kernel_rfl
theorem kind_21 : kindOf Tryd.prog 21 = some .i32 := by kernel_rfl
theorem known_21 : knownT Tryd.prog 21 = true := by kernel_rfl
theorem one_21 : plain1 Tryd.prog 21 = true := by kernel_rfl
theorem kind_22 : kindOf Tryd.prog 22 = some .u32 := by kernel_rfl
theorem known_22 : knownT Tryd.prog 22 = true := by kernel_rfl
theorem one_22 : plain1 Tryd.prog 22 = true := by kernel_rfl
theorem one_23 : plain1 Tryd.prog 23 = true := by kernel_rfl
theorem kind_24 : kindOf Tryd.prog 24 = some .u64 := by kernel_rfl
theorem known_24 : knownT Tryd.prog 24 = true := by kernel_rfl
theorem one_24 : plain1 Tryd.prog 24 = true := by kernel_rfl
theorem sl_25 : slElem Tryd.prog 25 = some 1 := by kernel_rfl
theorem slof_25 : sliceOf Tryd.prog 25 24 1 = true := by kernel_rfl
theorem one_25 : plain1 Tryd.prog 25 = true := by kernel_rfl
theorem one_26 : plain1 Tryd.prog 26 = true := by kernel_rfl
theorem kind_27 : kindOf Tryd.prog 27 = some .u64 := by kernel_rfl
theorem known_27 : knownT Tryd.prog 27 = true := by kernel_rfl
theorem one_27 : plain1 Tryd.prog 27 = true := by kernel_rfl
theorem one_28 : plain1 Tryd.prog 28 = true := by kernel_rfl
theorem one_29 : plain1 Tryd.prog 29 = true := by kernel_rfl
theorem one_30 : plain1 Tryd.prog 30 = true := by kernel_rfl
theorem one_31 : plain1 Tryd.prog 31 = true := by kernel_rfl
theorem one_32 : plain1 Tryd.prog 32 = true := by kernel_rfl
theorem sl_33 : slElem Tryd.prog 33 = some 1 := by kernel_rfl
theorem slof_33 : sliceOf Tryd.prog 33 3 1 = true := by kernel_rfl
theorem one_33 : plain1 Tryd.prog 33 = true := by kernel_rfl
theorem one_34 : plain1 Tryd.prog 34 = true := by kernel_rfl
theorem arrn_35 : arrN Tryd.prog 35 64 = true := by kernel_rfl
theorem arr_35 : arrElem Tryd.prog 35 = some (64, 1) := by kernel_rfl
theorem zero_35 : zeroIs Tryd.prog 35 (List.replicate 64 (.u32 0)) := by unfold zeroIs; kernel_rfl
theorem agg_35 : aggN Tryd.prog 35 64 = true := by kernel_rfl
theorem arrn_36 : arrN Tryd.prog 36 80 = true := by kernel_rfl
theorem arr_36 : arrElem Tryd.prog 36 = some (80, 1) := by kernel_rfl
theorem zero_36 : zeroIs Tryd.prog 36 (List.replicate 80 (.u64 0)) := by unfold zeroIs; kernel_rfl
theorem agg_36 : aggN Tryd.prog 36 80 = true := by kernel_rfl
theorem one_37 : plain1 Tryd.prog 37 = true := by kernel_rfl
theorem one_38 : plain1 Tryd.prog 38 = true := by kernel_rfl
theorem one_39 : plain1 Tryd.prog 39 = true := by kernel_rfl
theorem one_40 : plain1 Tryd.prog 40 = true := by kernel_rfl
theorem agg_41 : aggN Tryd.prog 41 4 = true := by kernel_rfl
theorem agg_42 : aggN Tryd.prog 42 4 = true := by kernel_rfl
theorem fld_42_0 : fieldOff Tryd.prog 42 0 = some 0 := by kernel_rfl
theorem fld_42_1 : fieldOff Tryd.prog 42 1 = some 1 := by kernel_rfl
theorem fld_42_2 : fieldOff Tryd.prog 42 2 = some 2 := by kernel_rfl
theorem fld_42_3 : fieldOff Tryd.prog 42 3 = some 3 := by kernel_rfl
theorem arrn_43 : arrN Tryd.prog 43 0 = true := by kernel_rfl
theorem one_46 : plain1 Tryd.prog 46 = true := by kernel_rfl
theorem kind_47 : kindOf Tryd.prog 47 = some .u8 := by kernel_rfl
theorem known_47 : knownT Tryd.prog 47 = true := by kernel_rfl
theorem one_47 : plain1 Tryd.prog 47 = true := by kernel_rfl
theorem kind_48 : kindOf Tryd.prog 48 = some .u8 := by kernel_rfl
theorem known_48 : knownT Tryd.prog 48 = true := by kernel_rfl
theorem one_48 : plain1 Tryd.prog 48 = true := by kernel_rfl
theorem one_49 : plain1 Tryd.prog 49 = true := by kernel_rfl
theorem ptr_50 : ptrT Tryd.prog 50 = true := by kernel_rfl
theorem one_50 : plain1 Tryd.prog 50 = true := by kernel_rfl
theorem kind_51 : kindOf Tryd.prog 51 = some .i32 := by kernel_rfl
theorem known_51 : knownT Tryd.prog 51 = true := by kernel_rfl
theorem one_51 : plain1 Tryd.prog 51 = true := by kernel_rfl
theorem kind_52 : kindOf Tryd.prog 52 = some .i32 := by kernel_rfl
theorem known_52 : knownT Tryd.prog 52 = true := by kernel_rfl
theorem one_52 : plain1 Tryd.prog 52 = true := by kernel_rfl
theorem agg_53 : aggN Tryd.prog 53 11 = true := by kernel_rfl
theorem agg_54 : aggN Tryd.prog 54 11 = true := by kernel_rfl
theorem fld_54_0 : fieldOff Tryd.prog 54 0 = some 0 := by kernel_rfl
theorem fld_54_1 : fieldOff Tryd.prog 54 1 = some 1 := by kernel_rfl
theorem fld_54_2 : fieldOff Tryd.prog 54 2 = some 2 := by kernel_rfl
theorem fld_54_3 : fieldOff Tryd.prog 54 3 = some 3 := by kernel_rfl
theorem fld_54_4 : fieldOff Tryd.prog 54 4 = some 4 := by kernel_rfl
theorem fld_54_5 : fieldOff Tryd.prog 54 5 = some 5 := by kernel_rfl
theorem fld_54_6 : fieldOff Tryd.prog 54 6 = some 6 := by kernel_rfl
theorem fld_54_8 : fieldOff Tryd.prog 54 8 = some 8 := by kernel_rfl
theorem fld_54_9 : fieldOff Tryd.prog 54 9 = some 9 := by kernel_rfl
theorem fld_54_10 : fieldOff Tryd.prog 54 10 = some 10 := by kernel_rfl
theorem fn_3 : plainFn Tryd.prog 3 = true := by kernel_rfl
theorem fn_4 : plainFn Tryd.prog 4 = true := by kernel_rfl
theorem fn_5 : plainFn Tryd.prog 5 = true := by kernel_rfl
theorem fn_6 : plainFn Tryd.prog 6 = true := by kernel_rfl
theorem fn_7 : plainFn Tryd.prog 7 = true := by kernel_rfl
theorem fn_8 : plainFn Tryd.prog 8 = true := by kernel_rfl
theorem fn_9 : plainFn Tryd.prog 9 = true := by kernel_rfl
theorem fn_10 : plainFn Tryd.prog 10 = true := by kernel_rfl
theorem fn_11 : plainFn Tryd.prog 11 = true := by kernel_rfl
theorem fn_12 : plainFn Tryd.prog 12 = true := by kernel_rfl
theorem fn_13 : plainFn Tryd.prog 13 = true := by kernel_rfl
theorem fn_14 : plainFn Tryd.prog 14 = true := by kernel_rfl
theorem fn_15 : plainFn Tryd.prog 15 = true := by kernel_rfl
theorem fn_16 : plainFn Tryd.prog 16 = true := by kernel_rfl
theorem fn_17 : plainFn Tryd.prog 17 = true := by kernel_rfl
theorem fn_18 : plainFn Tryd.prog 18 = true := by kernel_rfl
theorem fn_19 : plainFn Tryd.prog 19 = true := by kernel_rfl
theorem fn_20 : plainFn Tryd.prog 20 = true := by kernel_rfl
theorem mixed : Tryd.prog.follows .mixedOrders = true := by kernel_rfl
theorem fx :
    (kindOf Tryd.prog 2 = some .i64) ∧
    (knownT Tryd.prog 2 = true) ∧
    (kindOf Tryd.prog 3 = some .i64) ∧
    (knownT Tryd.prog 3 = true) ∧
    (kindOf Tryd.prog 5 = some .u8) ∧
    (knownT Tryd.prog 5 = true) ∧
    (kindOf Tryd.prog 6 = some .u8) ∧
    (knownT Tryd.prog 6 = true) ∧
    (fieldOff Tryd.prog 8 0 = some 0) ∧
    (fieldOff Tryd.prog 8 1 = some 1) ∧
    (fieldOff Tryd.prog 8 2 = some 2) ∧
    (fieldOff Tryd.prog 8 3 = some 3) ∧
    (kindOf Tryd.prog 12 = some .u64) ∧
    (knownT Tryd.prog 12 = true) ∧
    (fieldOff Tryd.prog 14 0 = some 0) ∧
    (fieldOff Tryd.prog 14 1 = some 1) ∧
    (fieldOff Tryd.prog 19 0 = some 0) ∧
    (kindOf Tryd.prog 21 = some .i32) ∧
    (knownT Tryd.prog 21 = true) ∧
    (kindOf Tryd.prog 22 = some .u32) ∧
    (knownT Tryd.prog 22 = true) ∧
    (kindOf Tryd.prog 24 = some .u64) ∧
    (knownT Tryd.prog 24 = true) ∧
    (slElem Tryd.prog 25 = some 1) ∧
    (kindOf Tryd.prog 27 = some .u64) ∧
    (knownT Tryd.prog 27 = true) ∧
    (slElem Tryd.prog 33 = some 1) ∧
    (arrElem Tryd.prog 35 = some (64, 1)) ∧
    (arrElem Tryd.prog 36 = some (80, 1)) ∧
    (fieldOff Tryd.prog 42 0 = some 0) ∧
    (fieldOff Tryd.prog 42 1 = some 1) ∧
    (fieldOff Tryd.prog 42 2 = some 2) ∧
    (fieldOff Tryd.prog 42 3 = some 3) ∧
    (kindOf Tryd.prog 47 = some .u8) ∧
    (knownT Tryd.prog 47 = true) ∧
    (kindOf Tryd.prog 48 = some .u8) ∧
    (knownT Tryd.prog 48 = true) ∧
    (kindOf Tryd.prog 51 = some .i32) ∧
    (knownT Tryd.prog 51 = true) ∧
    (kindOf Tryd.prog 52 = some .i32) ∧
    (knownT Tryd.prog 52 = true) ∧
    (fieldOff Tryd.prog 54 0 = some 0) ∧
    (fieldOff Tryd.prog 54 1 = some 1) ∧
    (fieldOff Tryd.prog 54 2 = some 2) ∧
    (fieldOff Tryd.prog 54 3 = some 3) ∧
    (fieldOff Tryd.prog 54 4 = some 4) ∧
    (fieldOff Tryd.prog 54 5 = some 5) ∧
    (fieldOff Tryd.prog 54 6 = some 6) ∧
    (fieldOff Tryd.prog 54 8 = some 8) ∧
    (fieldOff Tryd.prog 54 9 = some 9) ∧
    (fieldOff Tryd.prog 54 10 = some 10) :=
  ⟨kind_2, known_2, kind_3, known_3, kind_5, known_5, kind_6, known_6, fld_8_0, fld_8_1, fld_8_2, fld_8_3, kind_12, known_12, fld_14_0, fld_14_1, fld_19_0, kind_21, known_21, kind_22, known_22, kind_24, known_24, sl_25, kind_27, known_27, sl_33, arr_35, arr_36, fld_42_0, fld_42_1, fld_42_2, fld_42_3, kind_47, known_47, kind_48, known_48, kind_51, known_51, kind_52, known_52, fld_54_0, fld_54_1, fld_54_2, fld_54_3, fld_54_4, fld_54_5, fld_54_6, fld_54_8, fld_54_9, fld_54_10⟩
end Go.Proofs.YtloonhdnheobpaaDoor
