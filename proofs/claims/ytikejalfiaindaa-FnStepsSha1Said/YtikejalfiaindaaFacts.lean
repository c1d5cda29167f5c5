/- Closed facts on the program's tables. Written by facts.py out of the translation. -/
import Derived.Test.YtikejalfiaindaaChecked
import Derived.Test.YtikejalfiaindaaEv
import Derived.Test.YtikejalfiaindaaMem5
import Derived.Test.YtikejalfiaindaaTree
import Derived.KernelRfl
namespace Go.Proofs.Ytikejalfiaindaa
open Go
theorem one_1 : plain1 Try.prog 1 = true := by kernel_rfl
theorem kind_2 : kindOf Try.prog 2 = some .i64 := by kernel_rfl
theorem known_2 : knownT Try.prog 2 = true := by kernel_rfl
theorem intt_2 : intT Try.prog 2 = true := by kernel_rfl
theorem one_2 : plain1 Try.prog 2 = true := by kernel_rfl
theorem kind_3 : kindOf Try.prog 3 = some .i64 := by kernel_rfl
theorem known_3 : knownT Try.prog 3 = true := by kernel_rfl
theorem intt_3 : intT Try.prog 3 = true := by kernel_rfl
theorem one_3 : plain1 Try.prog 3 = true := by kernel_rfl
theorem one_4 : plain1 Try.prog 4 = true := by kernel_rfl
theorem kind_5 : kindOf Try.prog 5 = some .u8 := by kernel_rfl
theorem known_5 : knownT Try.prog 5 = true := by kernel_rfl
theorem one_5 : plain1 Try.prog 5 = true := by kernel_rfl
theorem kind_6 : kindOf Try.prog 6 = some .u8 := by kernel_rfl
theorem known_6 : knownT Try.prog 6 = true := by kernel_rfl
theorem one_6 : plain1 Try.prog 6 = true := by kernel_rfl
theorem agg_7 : aggN Try.prog 7 4 = true := by kernel_rfl
theorem agg_8 : aggN Try.prog 8 4 = true := by kernel_rfl
theorem zero_8 : zeroIs Try.prog 8 ([.nat 0] ++ ([.nat 0] ++ ([.bool false] ++ ([.u8 0])))) := by unfold zeroIs; kernel_rfl
theorem fld_8_0 : fieldOff Try.prog 8 0 = some 0 := by kernel_rfl
theorem fld_8_1 : fieldOff Try.prog 8 1 = some 1 := by kernel_rfl
theorem fld_8_2 : fieldOff Try.prog 8 2 = some 2 := by kernel_rfl
theorem fld_8_3 : fieldOff Try.prog 8 3 = some 3 := by kernel_rfl
theorem strt_9 : strT Try.prog 9 = true := by kernel_rfl
theorem one_9 : plain1 Try.prog 9 = true := by kernel_rfl
theorem strt_10 : strT Try.prog 10 = true := by kernel_rfl
theorem one_10 : plain1 Try.prog 10 = true := by kernel_rfl
theorem strt_11 : strT Try.prog 11 = true := by kernel_rfl
theorem one_11 : plain1 Try.prog 11 = true := by kernel_rfl
theorem kind_12 : kindOf Try.prog 12 = some .u64 := by kernel_rfl
theorem known_12 : knownT Try.prog 12 = true := by kernel_rfl
theorem one_12 : plain1 Try.prog 12 = true := by kernel_rfl
theorem agg_13 : aggN Try.prog 13 2 = true := by kernel_rfl
theorem agg_14 : aggN Try.prog 14 2 = true := by kernel_rfl
theorem fld_14_0 : fieldOff Try.prog 14 0 = some 0 := by kernel_rfl
theorem fld_14_1 : fieldOff Try.prog 14 1 = some 1 := by kernel_rfl
theorem ptr_15 : ptrT Try.prog 15 = true := by kernel_rfl
theorem one_15 : plain1 Try.prog 15 = true := by kernel_rfl
theorem ptr_16 : ptrT Try.prog 16 = true := by kernel_rfl
theorem one_16 : plain1 Try.prog 16 = true := by kernel_rfl
theorem ptr_17 : ptrT Try.prog 17 = true := by kernel_rfl
theorem one_17 : plain1 Try.prog 17 = true := by kernel_rfl
theorem agg_18 : aggN Try.prog 18 1 = true := by kernel_rfl
theorem agg_19 : aggN Try.prog 19 1 = true := by kernel_rfl
theorem fld_19_0 : fieldOff Try.prog 19 0 = some 0 := by kernel_rfl
theorem one_20 : plain1 Try.prog 20 = true := by kernel_rfl
theorem kind_21 : kindOf Try.prog 21 = some .i32 := by kernel_rfl
theorem known_21 : knownT Try.prog 21 = true := by kernel_rfl
theorem one_21 : plain1 Try.prog 21 = true := by kernel_rfl
theorem sl_22 : slElem Try.prog 22 = some 1 := by kernel_rfl
theorem slof_22 : sliceOf Try.prog 22 50 1 = true := by kernel_rfl
theorem one_22 : plain1 Try.prog 22 = true := by kernel_rfl
theorem sl_23 : slElem Try.prog 23 = some 1 := by kernel_rfl
theorem bsl_23 : byteSl Try.prog 23 5 = true := by kernel_rfl
theorem tostr_23_9 : toStrT Try.prog 23 9 = true := by kernel_rfl
theorem tostr_23_10 : toStrT Try.prog 23 10 = true := by kernel_rfl
theorem tostr_23_11 : toStrT Try.prog 23 11 = true := by kernel_rfl
theorem slof_23 : sliceOf Try.prog 23 5 1 = true := by kernel_rfl
theorem one_23 : plain1 Try.prog 23 = true := by kernel_rfl
theorem one_24 : plain1 Try.prog 24 = true := by kernel_rfl
theorem one_25 : plain1 Try.prog 25 = true := by kernel_rfl
theorem one_26 : plain1 Try.prog 26 = true := by kernel_rfl
theorem one_27 : plain1 Try.prog 27 = true := by kernel_rfl
theorem one_28 : plain1 Try.prog 28 = true := by kernel_rfl
theorem one_29 : plain1 Try.prog 29 = true := by kernel_rfl
theorem sl_30 : slElem Try.prog 30 = some 1 := by kernel_rfl
theorem slof_30 : sliceOf Try.prog 30 23 1 = true := by kernel_rfl
theorem one_30 : plain1 Try.prog 30 = true := by kernel_rfl
theorem one_31 : plain1 Try.prog 31 = true := by kernel_rfl
theorem one_33 : plain1 Try.prog 33 = true := by kernel_rfl
theorem one_34 : plain1 Try.prog 34 = true := by kernel_rfl
theorem one_35 : plain1 Try.prog 35 = true := by kernel_rfl
theorem one_36 : plain1 Try.prog 36 = true := by kernel_rfl
theorem one_37 : plain1 Try.prog 37 = true := by kernel_rfl
theorem one_38 : plain1 Try.prog 38 = true := by kernel_rfl
theorem one_39 : plain1 Try.prog 39 = true := by kernel_rfl
theorem one_40 : plain1 Try.prog 40 = true := by kernel_rfl
theorem one_41 : plain1 Try.prog 41 = true := by kernel_rfl
theorem sl_42 : slElem Try.prog 42 = some 2 := by kernel_rfl
theorem slof_42 : sliceOf Try.prog 42 66 2 = true := by kernel_rfl
theorem one_42 : plain1 Try.prog 42 = true := by kernel_rfl
theorem one_44 : plain1 Try.prog 44 = true := by kernel_rfl
theorem one_45 : plain1 Try.prog 45 = true := by kernel_rfl
theorem one_46 : plain1 Try.prog 46 = true := by kernel_rfl
theorem one_47 : plain1 Try.prog 47 = true := by kernel_rfl
theorem one_48 : plain1 Try.prog 48 = true := by kernel_rfl
theorem one_49 : plain1 Try.prog 49 = true := by kernel_rfl
theorem kind_50 : kindOf Try.prog 50 = some .u32 := by kernel_rfl
theorem known_50 : knownT Try.prog 50 = true := by kernel_rfl
theorem one_50 : plain1 Try.prog 50 = true := by kernel_rfl
theorem arrn_51 : arrN Try.prog 51 5 = true := by kernel_rfl
theorem arr_51 : arrElem Try.prog 51 = some (5, 1) := by kernel_rfl
theorem zero_51 : zeroIs Try.prog 51 (List.replicate 5 (.u32 0)) := by unfold zeroIs; kernel_rfl
theorem agg_51 : aggN Try.prog 51 5 = true := by kernel_rfl
theorem one_52 : plain1 Try.prog 52 = true := by kernel_rfl
theorem kind_53 : kindOf Try.prog 53 = some .u64 := by kernel_rfl
theorem known_53 : knownT Try.prog 53 = true := by kernel_rfl
theorem one_53 : plain1 Try.prog 53 = true := by kernel_rfl
theorem one_54 : plain1 Try.prog 54 = true := by kernel_rfl
theorem arrn_55 : arrN Try.prog 55 20 = true := by kernel_rfl
theorem arr_55 : arrElem Try.prog 55 = some (20, 1) := by kernel_rfl
theorem zero_55 : zeroIs Try.prog 55 (List.replicate 20 (.u8 0)) := by unfold zeroIs; kernel_rfl
theorem agg_55 : aggN Try.prog 55 20 = true := by kernel_rfl
theorem one_56 : plain1 Try.prog 56 = true := by kernel_rfl
theorem ptr_57 : ptrT Try.prog 57 = true := by kernel_rfl
theorem one_57 : plain1 Try.prog 57 = true := by kernel_rfl
theorem one_58 : plain1 Try.prog 58 = true := by kernel_rfl
theorem one_59 : plain1 Try.prog 59 = true := by kernel_rfl
theorem one_60 : plain1 Try.prog 60 = true := by kernel_rfl
theorem one_62 : plain1 Try.prog 62 = true := by kernel_rfl
theorem one_63 : plain1 Try.prog 63 = true := by kernel_rfl
theorem kind_64 : kindOf Try.prog 64 = some .u64 := by kernel_rfl
theorem known_64 : knownT Try.prog 64 = true := by kernel_rfl
theorem one_64 : plain1 Try.prog 64 = true := by kernel_rfl
theorem agg_65 : aggN Try.prog 65 2 = true := by kernel_rfl
theorem agg_66 : aggN Try.prog 66 2 = true := by kernel_rfl
theorem zero_66 : zeroIs Try.prog 66 ([.nat 0] ++ ([.sl none 0 0])) := by unfold zeroIs; kernel_rfl
theorem fld_66_0 : fieldOff Try.prog 66 0 = some 0 := by kernel_rfl
theorem fld_66_1 : fieldOff Try.prog 66 1 = some 1 := by kernel_rfl
theorem one_67 : plain1 Try.prog 67 = true := by kernel_rfl
theorem one_69 : plain1 Try.prog 69 = true := by kernel_rfl
theorem one_70 : plain1 Try.prog 70 = true := by kernel_rfl
theorem arrn_71 : arrN Try.prog 71 64 = true := by kernel_rfl
theorem arr_71 : arrElem Try.prog 71 = some (64, 1) := by kernel_rfl
theorem zero_71 : zeroIs Try.prog 71 (List.replicate 64 (.u8 0)) := by unfold zeroIs; kernel_rfl
theorem agg_71 : aggN Try.prog 71 64 = true := by kernel_rfl
theorem agg_72 : aggN Try.prog 72 71 = true := by kernel_rfl
theorem agg_73 : aggN Try.prog 73 71 = true := by kernel_rfl
theorem zero_73 : zeroIs Try.prog 73 (List.replicate 5 (.u32 0) ++ (List.replicate 64 (.u8 0) ++ ([.nat 0] ++ ([.u64 0])))) := by unfold zeroIs; kernel_rfl
theorem fld_73_0 : fieldOff Try.prog 73 0 = some 0 := by kernel_rfl
theorem fld_73_1 : fieldOff Try.prog 73 1 = some 5 := by kernel_rfl
theorem fld_73_2 : fieldOff Try.prog 73 2 = some 69 := by kernel_rfl
theorem fld_73_3 : fieldOff Try.prog 73 3 = some 70 := by kernel_rfl
theorem one_74 : plain1 Try.prog 74 = true := by kernel_rfl
theorem one_75 : plain1 Try.prog 75 = true := by kernel_rfl
theorem one_76 : plain1 Try.prog 76 = true := by kernel_rfl
theorem one_77 : plain1 Try.prog 77 = true := by kernel_rfl
theorem one_78 : plain1 Try.prog 78 = true := by kernel_rfl
theorem one_79 : plain1 Try.prog 79 = true := by kernel_rfl
theorem one_81 : plain1 Try.prog 81 = true := by kernel_rfl
theorem one_83 : plain1 Try.prog 83 = true := by kernel_rfl
theorem arrn_84 : arrN Try.prog 84 16 = true := by kernel_rfl
theorem arr_84 : arrElem Try.prog 84 = some (16, 1) := by kernel_rfl
theorem zero_84 : zeroIs Try.prog 84 (List.replicate 16 (.u32 0)) := by unfold zeroIs; kernel_rfl
theorem agg_84 : aggN Try.prog 84 16 = true := by kernel_rfl
theorem arrn_85 : arrN Try.prog 85 72 = true := by kernel_rfl
theorem arr_85 : arrElem Try.prog 85 = some (72, 1) := by kernel_rfl
theorem zero_85 : zeroIs Try.prog 85 (List.replicate 72 (.u8 0)) := by unfold zeroIs; kernel_rfl
theorem agg_85 : aggN Try.prog 85 72 = true := by kernel_rfl
theorem one_86 : plain1 Try.prog 86 = true := by kernel_rfl
theorem one_87 : plain1 Try.prog 87 = true := by kernel_rfl
theorem arrn_88 : arrN Try.prog 88 8 = true := by kernel_rfl
theorem arr_88 : arrElem Try.prog 88 = some (8, 1) := by kernel_rfl
theorem zero_88 : zeroIs Try.prog 88 (List.replicate 8 (.u8 0)) := by unfold zeroIs; kernel_rfl
theorem agg_88 : aggN Try.prog 88 8 = true := by kernel_rfl
theorem kind_89 : kindOf Try.prog 89 = some .i8 := by kernel_rfl
theorem known_89 : knownT Try.prog 89 = true := by kernel_rfl
theorem one_89 : plain1 Try.prog 89 = true := by kernel_rfl
theorem ptr_90 : ptrT Try.prog 90 = true := by kernel_rfl
theorem one_90 : plain1 Try.prog 90 = true := by kernel_rfl
theorem agg_91 : aggN Try.prog 91 1 = true := by kernel_rfl
theorem agg_92 : aggN Try.prog 92 1 = true := by kernel_rfl
theorem fld_92_0 : fieldOff Try.prog 92 0 = some 0 := by kernel_rfl
theorem one_93 : plain1 Try.prog 93 = true := by kernel_rfl
theorem one_94 : plain1 Try.prog 94 = true := by kernel_rfl
theorem one_95 : plain1 Try.prog 95 = true := by kernel_rfl
theorem agg_96 : aggN Try.prog 96 4 = true := by kernel_rfl
theorem agg_97 : aggN Try.prog 97 4 = true := by kernel_rfl
theorem fld_97_0 : fieldOff Try.prog 97 0 = some 0 := by kernel_rfl
theorem fld_97_1 : fieldOff Try.prog 97 1 = some 1 := by kernel_rfl
theorem fld_97_2 : fieldOff Try.prog 97 2 = some 2 := by kernel_rfl
theorem fld_97_3 : fieldOff Try.prog 97 3 = some 3 := by kernel_rfl
theorem arrn_98 : arrN Try.prog 98 0 = true := by kernel_rfl
theorem one_101 : plain1 Try.prog 101 = true := by kernel_rfl
theorem kind_102 : kindOf Try.prog 102 = some .u8 := by kernel_rfl
theorem known_102 : knownT Try.prog 102 = true := by kernel_rfl
theorem one_102 : plain1 Try.prog 102 = true := by kernel_rfl
theorem kind_103 : kindOf Try.prog 103 = some .u8 := by kernel_rfl
theorem known_103 : knownT Try.prog 103 = true := by kernel_rfl
theorem one_103 : plain1 Try.prog 103 = true := by kernel_rfl
theorem one_104 : plain1 Try.prog 104 = true := by kernel_rfl
theorem ptr_105 : ptrT Try.prog 105 = true := by kernel_rfl
theorem one_105 : plain1 Try.prog 105 = true := by kernel_rfl
theorem kind_106 : kindOf Try.prog 106 = some .i32 := by kernel_rfl
theorem known_106 : knownT Try.prog 106 = true := by kernel_rfl
theorem one_106 : plain1 Try.prog 106 = true := by kernel_rfl
theorem kind_107 : kindOf Try.prog 107 = some .i32 := by kernel_rfl
theorem known_107 : knownT Try.prog 107 = true := by kernel_rfl
theorem one_107 : plain1 Try.prog 107 = true := by kernel_rfl
theorem agg_108 : aggN Try.prog 108 11 = true := by kernel_rfl
theorem agg_109 : aggN Try.prog 109 11 = true := by kernel_rfl
theorem fld_109_0 : fieldOff Try.prog 109 0 = some 0 := by kernel_rfl
theorem fld_109_1 : fieldOff Try.prog 109 1 = some 1 := by kernel_rfl
theorem fld_109_2 : fieldOff Try.prog 109 2 = some 2 := by kernel_rfl
theorem fld_109_3 : fieldOff Try.prog 109 3 = some 3 := by kernel_rfl
theorem fld_109_4 : fieldOff Try.prog 109 4 = some 4 := by kernel_rfl
theorem fld_109_5 : fieldOff Try.prog 109 5 = some 5 := by kernel_rfl
theorem fld_109_6 : fieldOff Try.prog 109 6 = some 6 := by kernel_rfl
theorem fld_109_8 : fieldOff Try.prog 109 8 = some 8 := by kernel_rfl
theorem fld_109_9 : fieldOff Try.prog 109 9 = some 9 := by kernel_rfl
theorem fld_109_10 : fieldOff Try.prog 109 10 = some 10 := by kernel_rfl
theorem fn_3 : plainFn Try.prog 3 = true := by kernel_rfl
theorem fn_4 : plainFn Try.prog 4 = true := by kernel_rfl
theorem fn_5 : plainFn Try.prog 5 = true := by kernel_rfl
theorem fn_6 : plainFn Try.prog 6 = true := by kernel_rfl
theorem fn_7 : plainFn Try.prog 7 = true := by kernel_rfl
theorem fn_8 : plainFn Try.prog 8 = true := by kernel_rfl
theorem fn_9 : plainFn Try.prog 9 = true := by kernel_rfl
theorem fn_10 : plainFn Try.prog 10 = true := by kernel_rfl
theorem fn_11 : plainFn Try.prog 11 = true := by kernel_rfl
theorem fn_12 : plainFn Try.prog 12 = true := by kernel_rfl
theorem fn_13 : plainFn Try.prog 13 = true := by kernel_rfl
theorem fn_14 : plainFn Try.prog 14 = true := by kernel_rfl
theorem fn_15 : plainFn Try.prog 15 = true := by kernel_rfl
theorem fn_16 : plainFn Try.prog 16 = true := by kernel_rfl
theorem fn_17 : plainFn Try.prog 17 = true := by kernel_rfl
theorem fn_18 : plainFn Try.prog 18 = true := by kernel_rfl
theorem fn_19 : plainFn Try.prog 19 = true := by kernel_rfl
theorem fn_20 : plainFn Try.prog 20 = true := by kernel_rfl
theorem fn_21 : plainFn Try.prog 21 = true := by kernel_rfl
theorem fn_22 : plainFn Try.prog 22 = true := by kernel_rfl
theorem fn_23 : plainFn Try.prog 23 = true := by kernel_rfl
theorem fn_24 : plainFn Try.prog 24 = true := by kernel_rfl
theorem fn_25 : plainFn Try.prog 25 = true := by kernel_rfl
theorem fn_26 : plainFn Try.prog 26 = true := by kernel_rfl
theorem fn_27 : plainFn Try.prog 27 = true := by kernel_rfl
theorem fn_28 : plainFn Try.prog 28 = true := by kernel_rfl
theorem fn_29 : plainFn Try.prog 29 = true := by kernel_rfl
theorem fn_30 : plainFn Try.prog 30 = true := by kernel_rfl
theorem fn_31 : plainFn Try.prog 31 = true := by kernel_rfl
theorem fn_32 : plainFn Try.prog 32 = true := by kernel_rfl
theorem fn_33 : plainFn Try.prog 33 = true := by kernel_rfl
theorem fn_34 : plainFn Try.prog 34 = true := by kernel_rfl
theorem fn_35 : plainFn Try.prog 35 = true := by kernel_rfl
theorem fn_36 : plainFn Try.prog 36 = true := by kernel_rfl
theorem fn_37 : plainFn Try.prog 37 = true := by kernel_rfl
theorem fn_38 : plainFn Try.prog 38 = true := by kernel_rfl
theorem fn_39 : plainFn Try.prog 39 = true := by kernel_rfl
theorem fn_40 : plainFn Try.prog 40 = true := by kernel_rfl
theorem fn_41 : plainFn Try.prog 41 = true := by kernel_rfl
theorem fn_42 : plainFn Try.prog 42 = true := by kernel_rfl
theorem fn_43 : plainFn Try.prog 43 = true := by kernel_rfl
theorem fn_44 : plainFn Try.prog 44 = true := by kernel_rfl
theorem fn_45 : plainFn Try.prog 45 = true := by kernel_rfl
theorem fn_46 : plainFn Try.prog 46 = true := by kernel_rfl
theorem fn_47 : plainFn Try.prog 47 = true := by kernel_rfl
theorem fn_48 : plainFn Try.prog 48 = true := by kernel_rfl
theorem fn_49 : plainFn Try.prog 49 = true := by kernel_rfl
theorem fn_50 : plainFn Try.prog 50 = true := by kernel_rfl
theorem fn_51 : plainFn Try.prog 51 = true := by kernel_rfl
theorem fn_52 : plainFn Try.prog 52 = true := by kernel_rfl
theorem fn_53 : plainFn Try.prog 53 = true := by kernel_rfl
theorem fn_54 : plainFn Try.prog 54 = true := by kernel_rfl
theorem fn_55 : plainFn Try.prog 55 = true := by kernel_rfl
theorem fn_56 : plainFn Try.prog 56 = true := by kernel_rfl
theorem fn_57 : plainFn Try.prog 57 = true := by kernel_rfl
theorem fn_58 : plainFn Try.prog 58 = true := by kernel_rfl
theorem fn_59 : plainFn Try.prog 59 = true := by kernel_rfl
theorem fn_60 : plainFn Try.prog 60 = true := by kernel_rfl
theorem fn_61 : plainFn Try.prog 61 = true := by kernel_rfl
theorem mixed : Try.prog.follows .mixedOrders = true := by kernel_rfl
theorem fx :
    (kindOf Try.prog 2 = some .i64) ∧
    (knownT Try.prog 2 = true) ∧
    (kindOf Try.prog 3 = some .i64) ∧
    (knownT Try.prog 3 = true) ∧
    (kindOf Try.prog 5 = some .u8) ∧
    (knownT Try.prog 5 = true) ∧
    (kindOf Try.prog 6 = some .u8) ∧
    (knownT Try.prog 6 = true) ∧
    (fieldOff Try.prog 8 0 = some 0) ∧
    (fieldOff Try.prog 8 1 = some 1) ∧
    (fieldOff Try.prog 8 2 = some 2) ∧
    (fieldOff Try.prog 8 3 = some 3) ∧
    (kindOf Try.prog 12 = some .u64) ∧
    (knownT Try.prog 12 = true) ∧
    (fieldOff Try.prog 14 0 = some 0) ∧
    (fieldOff Try.prog 14 1 = some 1) ∧
    (fieldOff Try.prog 19 0 = some 0) ∧
    (kindOf Try.prog 21 = some .i32) ∧
    (knownT Try.prog 21 = true) ∧
    (slElem Try.prog 22 = some 1) ∧
    (slElem Try.prog 23 = some 1) ∧
    (slElem Try.prog 30 = some 1) ∧
    (slElem Try.prog 42 = some 2) ∧
    (kindOf Try.prog 50 = some .u32) ∧
    (knownT Try.prog 50 = true) ∧
    (arrElem Try.prog 51 = some (5, 1)) ∧
    (kindOf Try.prog 53 = some .u64) ∧
    (knownT Try.prog 53 = true) ∧
    (arrElem Try.prog 55 = some (20, 1)) ∧
    (kindOf Try.prog 64 = some .u64) ∧
    (knownT Try.prog 64 = true) ∧
    (fieldOff Try.prog 66 0 = some 0) ∧
    (fieldOff Try.prog 66 1 = some 1) ∧
    (arrElem Try.prog 71 = some (64, 1)) ∧
    (fieldOff Try.prog 73 0 = some 0) ∧
    (fieldOff Try.prog 73 1 = some 5) ∧
    (fieldOff Try.prog 73 2 = some 69) ∧
    (fieldOff Try.prog 73 3 = some 70) ∧
    (arrElem Try.prog 84 = some (16, 1)) ∧
    (arrElem Try.prog 85 = some (72, 1)) ∧
    (arrElem Try.prog 88 = some (8, 1)) ∧
    (kindOf Try.prog 89 = some .i8) ∧
    (knownT Try.prog 89 = true) ∧
    (fieldOff Try.prog 92 0 = some 0) ∧
    (fieldOff Try.prog 97 0 = some 0) ∧
    (fieldOff Try.prog 97 1 = some 1) ∧
    (fieldOff Try.prog 97 2 = some 2) ∧
    (fieldOff Try.prog 97 3 = some 3) ∧
    (kindOf Try.prog 102 = some .u8) ∧
    (knownT Try.prog 102 = true) ∧
    (kindOf Try.prog 103 = some .u8) ∧
    (knownT Try.prog 103 = true) ∧
    (kindOf Try.prog 106 = some .i32) ∧
    (knownT Try.prog 106 = true) ∧
    (kindOf Try.prog 107 = some .i32) ∧
    (knownT Try.prog 107 = true) ∧
    (fieldOff Try.prog 109 0 = some 0) ∧
    (fieldOff Try.prog 109 1 = some 1) ∧
    (fieldOff Try.prog 109 2 = some 2) ∧
    (fieldOff Try.prog 109 3 = some 3) ∧
    (fieldOff Try.prog 109 4 = some 4) ∧
    (fieldOff Try.prog 109 5 = some 5) ∧
    (fieldOff Try.prog 109 6 = some 6) ∧
    (fieldOff Try.prog 109 8 = some 8) ∧
    (fieldOff Try.prog 109 9 = some 9) ∧
    (fieldOff Try.prog 109 10 = some 10) :=
  ⟨kind_2, known_2, kind_3, known_3, kind_5, known_5, kind_6, known_6, fld_8_0, fld_8_1, fld_8_2, fld_8_3, kind_12, known_12, fld_14_0, fld_14_1, fld_19_0, kind_21, known_21, sl_22, sl_23, sl_30, sl_42, kind_50, known_50, arr_51, kind_53, known_53, arr_55, kind_64, known_64, fld_66_0, fld_66_1, arr_71, fld_73_0, fld_73_1, fld_73_2, fld_73_3, arr_84, arr_85, arr_88, kind_89, known_89, fld_92_0, fld_97_0, fld_97_1, fld_97_2, fld_97_3, kind_102, known_102, kind_103, known_103, kind_106, known_106, kind_107, known_107, fld_109_0, fld_109_1, fld_109_2, fld_109_3, fld_109_4, fld_109_5, fld_109_6, fld_109_8, fld_109_9, fld_109_10⟩
end Go.Proofs.Ytikejalfiaindaa
