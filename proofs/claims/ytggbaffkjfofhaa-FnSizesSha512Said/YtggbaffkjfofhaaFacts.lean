/- Closed facts on the program's tables. Written by facts.py out of the translation. -/
import Derived.Test.YtggbaffkjfofhaaChecked
import Derived.Test.YtggbaffkjfofhaaEv
import Derived.Test.YtggbaffkjfofhaaMem5
import Derived.Test.YtggbaffkjfofhaaTree
import Derived.KernelRfl
namespace Go.Proofs.Ytggbaffkjfofhaa
open Go
theorem one_1 : plain1 Try.prog 1 = true := by kernel_rfl
theorem kind_2 : kindOf Try.prog 2 = some .i64 := by kernel_rfl
theorem known_2 : knownT Try.prog 2 = true := by kernel_rfl
theorem intt_2 : intT Try.prog 2 = true := by kernel_rfl
theorem one_2 : plain1 Try.prog 2 = true := by kernel_rfl
theorem kind_3 : kindOf Try.prog 3 = some .i64 := by kernel_rfl
theorem known_3 : knownT Try.prog 3 = true := by kernel_rfl
theorem intt_3 : intT Try.prog 3 = true := by kernel_rfl
theorem one_3 : plain1 Try.prog 3 = true := by kernel_rfl
theorem one_4 : plain1 Try.prog 4 = true := by kernel_rfl
theorem kind_5 : kindOf Try.prog 5 = some .u8 := by kernel_rfl
theorem known_5 : knownT Try.prog 5 = true := by kernel_rfl
theorem one_5 : plain1 Try.prog 5 = true := by kernel_rfl
theorem kind_6 : kindOf Try.prog 6 = some .u8 := by kernel_rfl
theorem known_6 : knownT Try.prog 6 = true := by kernel_rfl
theorem one_6 : plain1 Try.prog 6 = true := by kernel_rfl
theorem agg_7 : aggN Try.prog 7 4 = true := by kernel_rfl
theorem agg_8 : aggN Try.prog 8 4 = true := by kernel_rfl
theorem zero_8 : zeroIs Try.prog 8 ([.nat 0] ++ ([.nat 0] ++ ([.bool false] ++ ([.u8 0])))) := by unfold zeroIs; kernel_rfl
theorem fld_8_0 : fieldOff Try.prog 8 0 = some 0 := by kernel_rfl
theorem fld_8_1 : fieldOff Try.prog 8 1 = some 1 := by kernel_rfl
theorem fld_8_2 : fieldOff Try.prog 8 2 = some 2 := by kernel_rfl
theorem fld_8_3 : fieldOff Try.prog 8 3 = some 3 := by kernel_rfl
theorem strt_9 : strT Try.prog 9 = true := by kernel_rfl
theorem one_9 : plain1 Try.prog 9 = true := by kernel_rfl
theorem strt_10 : strT Try.prog 10 = true := by kernel_rfl
theorem one_10 : plain1 Try.prog 10 = true := by kernel_rfl
theorem strt_11 : strT Try.prog 11 = true := by kernel_rfl
theorem one_11 : plain1 Try.prog 11 = true := by kernel_rfl
theorem kind_12 : kindOf Try.prog 12 = some .u64 := by kernel_rfl
theorem known_12 : knownT Try.prog 12 = true := by kernel_rfl
theorem one_12 : plain1 Try.prog 12 = true := by kernel_rfl
theorem agg_13 : aggN Try.prog 13 2 = true := by kernel_rfl
theorem agg_14 : aggN Try.prog 14 2 = true := by kernel_rfl
theorem fld_14_0 : fieldOff Try.prog 14 0 = some 0 := by kernel_rfl
theorem fld_14_1 : fieldOff Try.prog 14 1 = some 1 := by kernel_rfl
theorem ptr_15 : ptrT Try.prog 15 = true := by kernel_rfl
theorem one_15 : plain1 Try.prog 15 = true := by kernel_rfl
theorem ptr_16 : ptrT Try.prog 16 = true := by kernel_rfl
theorem one_16 : plain1 Try.prog 16 = true := by kernel_rfl
theorem ptr_17 : ptrT Try.prog 17 = true := by kernel_rfl
theorem one_17 : plain1 Try.prog 17 = true := by kernel_rfl
theorem agg_18 : aggN Try.prog 18 1 = true := by kernel_rfl
theorem agg_19 : aggN Try.prog 19 1 = true := by kernel_rfl
theorem fld_19_0 : fieldOff Try.prog 19 0 = some 0 := by kernel_rfl
theorem one_20 : plain1 Try.prog 20 = true := by kernel_rfl
theorem kind_21 : kindOf Try.prog 21 = some .i32 := by kernel_rfl
theorem known_21 : knownT Try.prog 21 = true := by kernel_rfl
theorem one_21 : plain1 Try.prog 21 = true := by kernel_rfl
theorem one_23 : plain1 Try.prog 23 = true := by kernel_rfl
theorem one_24 : plain1 Try.prog 24 = true := by kernel_rfl
theorem ptr_25 : ptrT Try.prog 25 = true := by kernel_rfl
theorem one_25 : plain1 Try.prog 25 = true := by kernel_rfl
theorem one_26 : plain1 Try.prog 26 = true := by kernel_rfl
theorem one_27 : plain1 Try.prog 27 = true := by kernel_rfl
theorem sl_28 : slElem Try.prog 28 = some 1 := by kernel_rfl
theorem slof_28 : sliceOf Try.prog 28 3 1 = true := by kernel_rfl
theorem one_28 : plain1 Try.prog 28 = true := by kernel_rfl
theorem one_29 : plain1 Try.prog 29 = true := by kernel_rfl
theorem kind_30 : kindOf Try.prog 30 = some .u64 := by kernel_rfl
theorem known_30 : knownT Try.prog 30 = true := by kernel_rfl
theorem one_30 : plain1 Try.prog 30 = true := by kernel_rfl
theorem arrn_31 : arrN Try.prog 31 8 = true := by kernel_rfl
theorem arr_31 : arrElem Try.prog 31 = some (8, 1) := by kernel_rfl
theorem zero_31 : zeroIs Try.prog 31 (List.replicate 8 (.u64 0)) := by unfold zeroIs; kernel_rfl
theorem agg_31 : aggN Try.prog 31 8 = true := by kernel_rfl
theorem arrn_32 : arrN Try.prog 32 128 = true := by kernel_rfl
theorem arr_32 : arrElem Try.prog 32 = some (128, 1) := by kernel_rfl
theorem zero_32 : zeroIs Try.prog 32 (List.replicate 128 (.u8 0)) := by unfold zeroIs; kernel_rfl
theorem agg_32 : aggN Try.prog 32 128 = true := by kernel_rfl
theorem agg_33 : aggN Try.prog 33 139 = true := by kernel_rfl
theorem agg_34 : aggN Try.prog 34 139 = true := by kernel_rfl
theorem zero_34 : zeroIs Try.prog 34 (List.replicate 8 (.u64 0) ++ (List.replicate 128 (.u8 0) ++ ([.nat 0] ++ ([.u64 0] ++ ([.nat 0]))))) := by unfold zeroIs; kernel_rfl
theorem fld_34_0 : fieldOff Try.prog 34 0 = some 0 := by kernel_rfl
theorem fld_34_1 : fieldOff Try.prog 34 1 = some 8 := by kernel_rfl
theorem fld_34_2 : fieldOff Try.prog 34 2 = some 136 := by kernel_rfl
theorem fld_34_3 : fieldOff Try.prog 34 3 = some 137 := by kernel_rfl
theorem fld_34_4 : fieldOff Try.prog 34 4 = some 138 := by kernel_rfl
theorem one_35 : plain1 Try.prog 35 = true := by kernel_rfl
theorem agg_36 : aggN Try.prog 36 4 = true := by kernel_rfl
theorem agg_37 : aggN Try.prog 37 4 = true := by kernel_rfl
theorem fld_37_0 : fieldOff Try.prog 37 0 = some 0 := by kernel_rfl
theorem fld_37_1 : fieldOff Try.prog 37 1 = some 1 := by kernel_rfl
theorem fld_37_2 : fieldOff Try.prog 37 2 = some 2 := by kernel_rfl
theorem fld_37_3 : fieldOff Try.prog 37 3 = some 3 := by kernel_rfl
theorem arrn_38 : arrN Try.prog 38 0 = true := by kernel_rfl
theorem kind_41 : kindOf Try.prog 41 = some .u32 := by kernel_rfl
theorem known_41 : knownT Try.prog 41 = true := by kernel_rfl
theorem one_41 : plain1 Try.prog 41 = true := by kernel_rfl
theorem kind_42 : kindOf Try.prog 42 = some .u8 := by kernel_rfl
theorem known_42 : knownT Try.prog 42 = true := by kernel_rfl
theorem one_42 : plain1 Try.prog 42 = true := by kernel_rfl
theorem kind_43 : kindOf Try.prog 43 = some .u8 := by kernel_rfl
theorem known_43 : knownT Try.prog 43 = true := by kernel_rfl
theorem one_43 : plain1 Try.prog 43 = true := by kernel_rfl
theorem one_44 : plain1 Try.prog 44 = true := by kernel_rfl
theorem ptr_45 : ptrT Try.prog 45 = true := by kernel_rfl
theorem one_45 : plain1 Try.prog 45 = true := by kernel_rfl
theorem kind_46 : kindOf Try.prog 46 = some .i32 := by kernel_rfl
theorem known_46 : knownT Try.prog 46 = true := by kernel_rfl
theorem one_46 : plain1 Try.prog 46 = true := by kernel_rfl
theorem kind_47 : kindOf Try.prog 47 = some .i32 := by kernel_rfl
theorem known_47 : knownT Try.prog 47 = true := by kernel_rfl
theorem one_47 : plain1 Try.prog 47 = true := by kernel_rfl
theorem agg_48 : aggN Try.prog 48 11 = true := by kernel_rfl
theorem agg_49 : aggN Try.prog 49 11 = true := by kernel_rfl
theorem fld_49_0 : fieldOff Try.prog 49 0 = some 0 := by kernel_rfl
theorem fld_49_1 : fieldOff Try.prog 49 1 = some 1 := by kernel_rfl
theorem fld_49_2 : fieldOff Try.prog 49 2 = some 2 := by kernel_rfl
theorem fld_49_3 : fieldOff Try.prog 49 3 = some 3 := by kernel_rfl
theorem fld_49_4 : fieldOff Try.prog 49 4 = some 4 := by kernel_rfl
theorem fld_49_5 : fieldOff Try.prog 49 5 = some 5 := by kernel_rfl
theorem fld_49_6 : fieldOff Try.prog 49 6 = some 6 := by kernel_rfl
theorem fld_49_8 : fieldOff Try.prog 49 8 = some 8 := by kernel_rfl
theorem fld_49_9 : fieldOff Try.prog 49 9 = some 9 := by kernel_rfl
theorem fld_49_10 : fieldOff Try.prog 49 10 = some 10 := by kernel_rfl
theorem fn_3 : plainFn Try.prog 3 = true := by kernel_rfl
theorem fn_4 : plainFn Try.prog 4 = true := by kernel_rfl
theorem fn_5 : plainFn Try.prog 5 = true := by kernel_rfl
theorem fn_6 : plainFn Try.prog 6 = true := by kernel_rfl
theorem fn_7 : plainFn Try.prog 7 = true := by kernel_rfl
theorem fn_8 : plainFn Try.prog 8 = true := by kernel_rfl
theorem fn_9 : plainFn Try.prog 9 = true := by kernel_rfl
theorem fn_10 : plainFn Try.prog 10 = true := by kernel_rfl
theorem fn_11 : plainFn Try.prog 11 = true := by kernel_rfl
theorem fn_12 : plainFn Try.prog 12 = true := by kernel_rfl
theorem fn_13 : plainFn Try.prog 13 = true := by kernel_rfl
theorem mixed : Try.prog.follows .mixedOrders = true := by kernel_rfl
theorem fx :
    (kindOf Try.prog 2 = some .i64) ∧
    (knownT Try.prog 2 = true) ∧
    (kindOf Try.prog 3 = some .i64) ∧
    (knownT Try.prog 3 = true) ∧
    (kindOf Try.prog 5 = some .u8) ∧
    (knownT Try.prog 5 = true) ∧
    (kindOf Try.prog 6 = some .u8) ∧
    (knownT Try.prog 6 = true) ∧
    (fieldOff Try.prog 8 0 = some 0) ∧
    (fieldOff Try.prog 8 1 = some 1) ∧
    (fieldOff Try.prog 8 2 = some 2) ∧
    (fieldOff Try.prog 8 3 = some 3) ∧
    (kindOf Try.prog 12 = some .u64) ∧
    (knownT Try.prog 12 = true) ∧
    (fieldOff Try.prog 14 0 = some 0) ∧
    (fieldOff Try.prog 14 1 = some 1) ∧
    (fieldOff Try.prog 19 0 = some 0) ∧
    (kindOf Try.prog 21 = some .i32) ∧
    (knownT Try.prog 21 = true) ∧
    (slElem Try.prog 28 = some 1) ∧
    (kindOf Try.prog 30 = some .u64) ∧
    (knownT Try.prog 30 = true) ∧
    (arrElem Try.prog 31 = some (8, 1)) ∧
    (arrElem Try.prog 32 = some (128, 1)) ∧
    (fieldOff Try.prog 34 0 = some 0) ∧
    (fieldOff Try.prog 34 1 = some 8) ∧
    (fieldOff Try.prog 34 2 = some 136) ∧
    (fieldOff Try.prog 34 3 = some 137) ∧
    (fieldOff Try.prog 34 4 = some 138) ∧
    (fieldOff Try.prog 37 0 = some 0) ∧
    (fieldOff Try.prog 37 1 = some 1) ∧
    (fieldOff Try.prog 37 2 = some 2) ∧
    (fieldOff Try.prog 37 3 = some 3) ∧
    (kindOf Try.prog 41 = some .u32) ∧
    (knownT Try.prog 41 = true) ∧
    (kindOf Try.prog 42 = some .u8) ∧
    (knownT Try.prog 42 = true) ∧
    (kindOf Try.prog 43 = some .u8) ∧
    (knownT Try.prog 43 = true) ∧
    (kindOf Try.prog 46 = some .i32) ∧
    (knownT Try.prog 46 = true) ∧
    (kindOf Try.prog 47 = some .i32) ∧
    (knownT Try.prog 47 = true) ∧
    (fieldOff Try.prog 49 0 = some 0) ∧
    (fieldOff Try.prog 49 1 = some 1) ∧
    (fieldOff Try.prog 49 2 = some 2) ∧
    (fieldOff Try.prog 49 3 = some 3) ∧
    (fieldOff Try.prog 49 4 = some 4) ∧
    (fieldOff Try.prog 49 5 = some 5) ∧
    (fieldOff Try.prog 49 6 = some 6) ∧
    (fieldOff Try.prog 49 8 = some 8) ∧
    (fieldOff Try.prog 49 9 = some 9) ∧
    (fieldOff Try.prog 49 10 = some 10) :=
  ⟨kind_2, known_2, kind_3, known_3, kind_5, known_5, kind_6, known_6, fld_8_0, fld_8_1, fld_8_2, fld_8_3, kind_12, known_12, fld_14_0, fld_14_1, fld_19_0, kind_21, known_21, sl_28, kind_30, known_30, arr_31, arr_32, fld_34_0, fld_34_1, fld_34_2, fld_34_3, fld_34_4, fld_37_0, fld_37_1, fld_37_2, fld_37_3, kind_41, known_41, kind_42, known_42, kind_43, known_43, kind_46, known_46, kind_47, known_47, fld_49_0, fld_49_1, fld_49_2, fld_49_3, fld_49_4, fld_49_5, fld_49_6, fld_49_8, fld_49_9, fld_49_10⟩
end Go.Proofs.Ytggbaffkjfofhaa
