/- Closed facts on the program's tables. Written by facts.py out of the translation. -/
import Derived.Test.YtggbaffkjfofhaaDoorChecked
import Derived.Test.YtggbaffkjfofhaaDoorEv
import Derived.Test.YtggbaffkjfofhaaDoorMem5
import Derived.Test.YtggbaffkjfofhaaDoorTree
import Derived.KernelRfl
namespace Go.Proofs.YtggbaffkjfofhaaDoor
open Go
theorem one_1 : plain1 Tryd.prog 1 = true := by kernel_rfl
theorem kind_2 : kindOf Tryd.prog 2 = some .i64 := by kernel_rfl
theorem known_2 : knownT Tryd.prog 2 = true := by kernel_rfl
theorem intt_2 : intT Tryd.prog 2 = true := by kernel_rfl
theorem one_2 : plain1 Tryd.prog 2 = true := by kernel_rfl
theorem kind_3 : kindOf Tryd.prog 3 = some .i64 := by kernel_rfl
theorem known_3 : knownT Tryd.prog 3 = true := by kernel_rfl
theorem intt_3 : intT Tryd.prog 3 = true := by kernel_rfl
theorem one_3 : plain1 Tryd.prog 3 = true := by kernel_rfl
theorem one_4 : plain1 Tryd.prog 4 = true := by kernel_rfl
theorem kind_5 : kindOf Tryd.prog 5 = some .u8 := by kernel_rfl
theorem known_5 : knownT Tryd.prog 5 = true := by kernel_rfl
theorem one_5 : plain1 Tryd.prog 5 = true := by kernel_rfl
theorem kind_6 : kindOf Tryd.prog 6 = some .u8 := by kernel_rfl
theorem known_6 : knownT Tryd.prog 6 = true := by kernel_rfl
theorem one_6 : plain1 Tryd.prog 6 = true := by kernel_rfl
theorem agg_7 : aggN Tryd.prog 7 4 = true := by kernel_rfl
theorem agg_8 : aggN Tryd.prog 8 4 = true := by kernel_rfl
theorem zero_8 : zeroIs Tryd.prog 8 ([.nat 0] ++ ([.nat 0] ++ ([.bool false] ++ ([.u8 0])))) := by unfold zeroIs; kernel_rfl
theorem fld_8_0 : fieldOff Tryd.prog 8 0 = some 0 := by kernel_rfl
theorem fld_8_1 : fieldOff Tryd.prog 8 1 = some 1 := by kernel_rfl
theorem fld_8_2 : fieldOff Tryd.prog 8 2 = some 2 := by kernel_rfl
theorem fld_8_3 : fieldOff Tryd.prog 8 3 = some 3 := by kernel_rfl
theorem strt_9 : strT Tryd.prog 9 = true := by kernel_rfl
theorem one_9 : plain1 Tryd.prog 9 = true := by kernel_rfl
theorem strt_10 : strT Tryd.prog 10 = true := by kernel_rfl
theorem one_10 : plain1 Tryd.prog 10 = true := by kernel_rfl
theorem strt_11 : strT Tryd.prog 11 = true := by kernel_rfl
theorem one_11 : plain1 Tryd.prog 11 = true := by kernel_rfl
theorem kind_12 : kindOf Tryd.prog 12 = some .u64 := by kernel_rfl
theorem known_12 : knownT Tryd.prog 12 = true := by kernel_rfl
theorem one_12 : plain1 Tryd.prog 12 = true := by kernel_rfl
theorem agg_13 : aggN Tryd.prog 13 2 = true := by kernel_rfl
theorem agg_14 : aggN Tryd.prog 14 2 = true := by kernel_rfl
theorem fld_14_0 : fieldOff Tryd.prog 14 0 = some 0 := by kernel_rfl
theorem fld_14_1 : fieldOff Tryd.prog 14 1 = some 1 := by kernel_rfl
theorem ptr_15 : ptrT Tryd.prog 15 = true := by kernel_rfl
theorem one_15 : plain1 Tryd.prog 15 = true := by kernel_rfl
theorem ptr_16 : ptrT Tryd.prog 16 = true := by kernel_rfl
theorem one_16 : plain1 Tryd.prog 16 = true := by kernel_rfl
theorem ptr_17 : ptrT Tryd.prog 17 = true := by kernel_rfl
theorem one_17 : plain1 Tryd.prog 17 = true := by kernel_rfl
theorem agg_18 : aggN Tryd.prog 18 1 = true := by kernel_rfl
theorem agg_19 : aggN Tryd.prog 19 1 = true := by kernel_rfl
theorem fld_19_0 : fieldOff Tryd.prog 19 0 = some 0 := by kernel_rfl
theorem one_20 : plain1 Tryd.prog 20 = true := by kernel_rfl
theorem kind_21 : kindOf Tryd.prog 21 = some .i32 := by kernel_rfl
theorem known_21 : knownT Tryd.prog 21 = true := by kernel_rfl
theorem one_21 : plain1 Tryd.prog 21 = true := by kernel_rfl
theorem sl_22 : slElem Tryd.prog 22 = some 1 := by kernel_rfl
theorem slof_22 : sliceOf Tryd.prog 22 31 1 = true := by kernel_rfl
theorem one_22 : plain1 Tryd.prog 22 = true := by kernel_rfl
theorem sl_23 : slElem Tryd.prog 23 = some 1 := by kernel_rfl
theorem bsl_23 : byteSl Tryd.prog 23 5 = true := by kernel_rfl
theorem tostr_23_9 : toStrT Tryd.prog 23 9 = true := by kernel_rfl
theorem tostr_23_10 : toStrT Tryd.prog 23 10 = true := by kernel_rfl
theorem tostr_23_11 : toStrT Tryd.prog 23 11 = true := by kernel_rfl
theorem slof_23 : sliceOf Tryd.prog 23 5 1 = true := by kernel_rfl
theorem one_23 : plain1 Tryd.prog 23 = true := by kernel_rfl
theorem one_24 : plain1 Tryd.prog 24 = true := by kernel_rfl
theorem one_25 : plain1 Tryd.prog 25 = true := by kernel_rfl
theorem one_26 : plain1 Tryd.prog 26 = true := by kernel_rfl
theorem one_27 : plain1 Tryd.prog 27 = true := by kernel_rfl
theorem sl_28 : slElem Tryd.prog 28 = some 1 := by kernel_rfl
theorem slof_28 : sliceOf Tryd.prog 28 23 1 = true := by kernel_rfl
theorem one_28 : plain1 Tryd.prog 28 = true := by kernel_rfl
theorem one_29 : plain1 Tryd.prog 29 = true := by kernel_rfl
theorem one_30 : plain1 Tryd.prog 30 = true := by kernel_rfl
theorem kind_31 : kindOf Tryd.prog 31 = some .u64 := by kernel_rfl
theorem known_31 : knownT Tryd.prog 31 = true := by kernel_rfl
theorem one_31 : plain1 Tryd.prog 31 = true := by kernel_rfl
theorem one_33 : plain1 Tryd.prog 33 = true := by kernel_rfl
theorem one_34 : plain1 Tryd.prog 34 = true := by kernel_rfl
theorem one_35 : plain1 Tryd.prog 35 = true := by kernel_rfl
theorem one_37 : plain1 Tryd.prog 37 = true := by kernel_rfl
theorem one_38 : plain1 Tryd.prog 38 = true := by kernel_rfl
theorem one_39 : plain1 Tryd.prog 39 = true := by kernel_rfl
theorem one_40 : plain1 Tryd.prog 40 = true := by kernel_rfl
theorem one_41 : plain1 Tryd.prog 41 = true := by kernel_rfl
theorem one_43 : plain1 Tryd.prog 43 = true := by kernel_rfl
theorem one_44 : plain1 Tryd.prog 44 = true := by kernel_rfl
theorem one_45 : plain1 Tryd.prog 45 = true := by kernel_rfl
theorem one_46 : plain1 Tryd.prog 46 = true := by kernel_rfl
theorem sl_47 : slElem Tryd.prog 47 = some 2 := by kernel_rfl
theorem slof_47 : sliceOf Tryd.prog 47 69 2 = true := by kernel_rfl
theorem one_47 : plain1 Tryd.prog 47 = true := by kernel_rfl
theorem one_49 : plain1 Tryd.prog 49 = true := by kernel_rfl
theorem one_50 : plain1 Tryd.prog 50 = true := by kernel_rfl
theorem one_51 : plain1 Tryd.prog 51 = true := by kernel_rfl
theorem one_52 : plain1 Tryd.prog 52 = true := by kernel_rfl
theorem one_53 : plain1 Tryd.prog 53 = true := by kernel_rfl
theorem one_54 : plain1 Tryd.prog 54 = true := by kernel_rfl
theorem arrn_55 : arrN Tryd.prog 55 8 = true := by kernel_rfl
theorem arr_55 : arrElem Tryd.prog 55 = some (8, 1) := by kernel_rfl
theorem zero_55 : zeroIs Tryd.prog 55 (List.replicate 8 (.u64 0)) := by unfold zeroIs; kernel_rfl
theorem agg_55 : aggN Tryd.prog 55 8 = true := by kernel_rfl
theorem one_56 : plain1 Tryd.prog 56 = true := by kernel_rfl
theorem one_57 : plain1 Tryd.prog 57 = true := by kernel_rfl
theorem ptr_58 : ptrT Tryd.prog 58 = true := by kernel_rfl
theorem one_58 : plain1 Tryd.prog 58 = true := by kernel_rfl
theorem one_59 : plain1 Tryd.prog 59 = true := by kernel_rfl
theorem one_61 : plain1 Tryd.prog 61 = true := by kernel_rfl
theorem one_62 : plain1 Tryd.prog 62 = true := by kernel_rfl
theorem one_63 : plain1 Tryd.prog 63 = true := by kernel_rfl
theorem one_65 : plain1 Tryd.prog 65 = true := by kernel_rfl
theorem one_66 : plain1 Tryd.prog 66 = true := by kernel_rfl
theorem sl_67 : slElem Tryd.prog 67 = some 1 := by kernel_rfl
theorem slof_67 : sliceOf Tryd.prog 67 3 1 = true := by kernel_rfl
theorem one_67 : plain1 Tryd.prog 67 = true := by kernel_rfl
theorem agg_68 : aggN Tryd.prog 68 2 = true := by kernel_rfl
theorem agg_69 : aggN Tryd.prog 69 2 = true := by kernel_rfl
theorem zero_69 : zeroIs Tryd.prog 69 ([.nat 0] ++ ([.sl none 0 0])) := by unfold zeroIs; kernel_rfl
theorem fld_69_0 : fieldOff Tryd.prog 69 0 = some 0 := by kernel_rfl
theorem fld_69_1 : fieldOff Tryd.prog 69 1 = some 1 := by kernel_rfl
theorem one_70 : plain1 Tryd.prog 70 = true := by kernel_rfl
theorem one_72 : plain1 Tryd.prog 72 = true := by kernel_rfl
theorem one_73 : plain1 Tryd.prog 73 = true := by kernel_rfl
theorem arrn_74 : arrN Tryd.prog 74 128 = true := by kernel_rfl
theorem arr_74 : arrElem Tryd.prog 74 = some (128, 1) := by kernel_rfl
theorem zero_74 : zeroIs Tryd.prog 74 (List.replicate 128 (.u8 0)) := by unfold zeroIs; kernel_rfl
theorem agg_74 : aggN Tryd.prog 74 128 = true := by kernel_rfl
theorem agg_75 : aggN Tryd.prog 75 139 = true := by kernel_rfl
theorem agg_76 : aggN Tryd.prog 76 139 = true := by kernel_rfl
theorem zero_76 : zeroIs Tryd.prog 76 (List.replicate 8 (.u64 0) ++ (List.replicate 128 (.u8 0) ++ ([.nat 0] ++ ([.u64 0] ++ ([.nat 0]))))) := by unfold zeroIs; kernel_rfl
theorem fld_76_0 : fieldOff Tryd.prog 76 0 = some 0 := by kernel_rfl
theorem fld_76_1 : fieldOff Tryd.prog 76 1 = some 8 := by kernel_rfl
theorem fld_76_2 : fieldOff Tryd.prog 76 2 = some 136 := by kernel_rfl
theorem fld_76_3 : fieldOff Tryd.prog 76 3 = some 137 := by kernel_rfl
theorem fld_76_4 : fieldOff Tryd.prog 76 4 = some 138 := by kernel_rfl
theorem one_77 : plain1 Tryd.prog 77 = true := by kernel_rfl
theorem kind_78 : kindOf Tryd.prog 78 = some .u64 := by kernel_rfl
theorem known_78 : knownT Tryd.prog 78 = true := by kernel_rfl
theorem one_78 : plain1 Tryd.prog 78 = true := by kernel_rfl
theorem one_79 : plain1 Tryd.prog 79 = true := by kernel_rfl
theorem one_80 : plain1 Tryd.prog 80 = true := by kernel_rfl
theorem one_81 : plain1 Tryd.prog 81 = true := by kernel_rfl
theorem arrn_82 : arrN Tryd.prog 82 64 = true := by kernel_rfl
theorem arr_82 : arrElem Tryd.prog 82 = some (64, 1) := by kernel_rfl
theorem zero_82 : zeroIs Tryd.prog 82 (List.replicate 64 (.u8 0)) := by unfold zeroIs; kernel_rfl
theorem agg_82 : aggN Tryd.prog 82 64 = true := by kernel_rfl
theorem one_83 : plain1 Tryd.prog 83 = true := by kernel_rfl
theorem one_84 : plain1 Tryd.prog 84 = true := by kernel_rfl
theorem one_85 : plain1 Tryd.prog 85 = true := by kernel_rfl
theorem one_87 : plain1 Tryd.prog 87 = true := by kernel_rfl
theorem arrn_88 : arrN Tryd.prog 88 80 = true := by kernel_rfl
theorem arr_88 : arrElem Tryd.prog 88 = some (80, 1) := by kernel_rfl
theorem zero_88 : zeroIs Tryd.prog 88 (List.replicate 80 (.u64 0)) := by unfold zeroIs; kernel_rfl
theorem agg_88 : aggN Tryd.prog 88 80 = true := by kernel_rfl
theorem arrn_89 : arrN Tryd.prog 89 144 = true := by kernel_rfl
theorem arr_89 : arrElem Tryd.prog 89 = some (144, 1) := by kernel_rfl
theorem zero_89 : zeroIs Tryd.prog 89 (List.replicate 144 (.u8 0)) := by unfold zeroIs; kernel_rfl
theorem agg_89 : aggN Tryd.prog 89 144 = true := by kernel_rfl
theorem one_90 : plain1 Tryd.prog 90 = true := by kernel_rfl
theorem ptr_91 : ptrT Tryd.prog 91 = true := by kernel_rfl
theorem one_91 : plain1 Tryd.prog 91 = true := by kernel_rfl
theorem agg_92 : aggN Tryd.prog 92 1 = true := by kernel_rfl
theorem agg_93 : aggN Tryd.prog 93 1 = true := by kernel_rfl
theorem fld_93_0 : fieldOff Tryd.prog 93 0 = some 0 := by kernel_rfl
theorem one_94 : plain1 Tryd.prog 94 = true := by kernel_rfl
theorem one_95 : plain1 Tryd.prog 95 = true := by kernel_rfl
theorem agg_96 : aggN Tryd.prog 96 4 = true := by kernel_rfl
theorem agg_97 : aggN Tryd.prog 97 4 = true := by kernel_rfl
theorem fld_97_0 : fieldOff Tryd.prog 97 0 = some 0 := by kernel_rfl
theorem fld_97_1 : fieldOff Tryd.prog 97 1 = some 1 := by kernel_rfl
theorem fld_97_2 : fieldOff Tryd.prog 97 2 = some 2 := by kernel_rfl
theorem fld_97_3 : fieldOff Tryd.prog 97 3 = some 3 := by kernel_rfl
theorem arrn_98 : arrN Tryd.prog 98 0 = true := by kernel_rfl
theorem one_101 : plain1 Tryd.prog 101 = true := by kernel_rfl
theorem kind_102 : kindOf Tryd.prog 102 = some .u32 := by kernel_rfl
theorem known_102 : knownT Tryd.prog 102 = true := by kernel_rfl
theorem one_102 : plain1 Tryd.prog 102 = true := by kernel_rfl
theorem kind_103 : kindOf Tryd.prog 103 = some .u8 := by kernel_rfl
theorem known_103 : knownT Tryd.prog 103 = true := by kernel_rfl
theorem one_103 : plain1 Tryd.prog 103 = true := by kernel_rfl
theorem kind_104 : kindOf Tryd.prog 104 = some .u8 := by kernel_rfl
theorem known_104 : knownT Tryd.prog 104 = true := by kernel_rfl
theorem one_104 : plain1 Tryd.prog 104 = true := by kernel_rfl
theorem one_105 : plain1 Tryd.prog 105 = true := by kernel_rfl
theorem ptr_106 : ptrT Tryd.prog 106 = true := by kernel_rfl
theorem one_106 : plain1 Tryd.prog 106 = true := by kernel_rfl
theorem kind_107 : kindOf Tryd.prog 107 = some .i32 := by kernel_rfl
theorem known_107 : knownT Tryd.prog 107 = true := by kernel_rfl
theorem one_107 : plain1 Tryd.prog 107 = true := by kernel_rfl
theorem kind_108 : kindOf Tryd.prog 108 = some .i32 := by kernel_rfl
theorem known_108 : knownT Tryd.prog 108 = true := by kernel_rfl
theorem one_108 : plain1 Tryd.prog 108 = true := by kernel_rfl
theorem agg_109 : aggN Tryd.prog 109 11 = true := by kernel_rfl
theorem agg_110 : aggN Tryd.prog 110 11 = true := by kernel_rfl
theorem fld_110_0 : fieldOff Tryd.prog 110 0 = some 0 := by kernel_rfl
theorem fld_110_1 : fieldOff Tryd.prog 110 1 = some 1 := by kernel_rfl
theorem fld_110_2 : fieldOff Tryd.prog 110 2 = some 2 := by kernel_rfl
theorem fld_110_3 : fieldOff Tryd.prog 110 3 = some 3 := by kernel_rfl
theorem fld_110_4 : fieldOff Tryd.prog 110 4 = some 4 := by kernel_rfl
theorem fld_110_5 : fieldOff Tryd.prog 110 5 = some 5 := by kernel_rfl
theorem fld_110_6 : fieldOff Tryd.prog 110 6 = some 6 := by kernel_rfl
theorem fld_110_8 : fieldOff Tryd.prog 110 8 = some 8 := by kernel_rfl
theorem fld_110_9 : fieldOff Tryd.prog 110 9 = some 9 := by kernel_rfl
theorem fld_110_10 : fieldOff Tryd.prog 110 10 = some 10 := by kernel_rfl
theorem fn_3 : plainFn Tryd.prog 3 = true := by kernel_rfl
theorem fn_4 : plainFn Tryd.prog 4 = true := by kernel_rfl
theorem fn_5 : plainFn Tryd.prog 5 = true := by kernel_rfl
theorem fn_6 : plainFn Tryd.prog 6 = true := by kernel_rfl
theorem fn_7 : plainFn Tryd.prog 7 = true := by kernel_rfl
theorem fn_8 : plainFn Tryd.prog 8 = true := by kernel_rfl
theorem fn_9 : plainFn Tryd.prog 9 = true := by kernel_rfl
theorem fn_10 : plainFn Tryd.prog 10 = true := by kernel_rfl
theorem fn_11 : plainFn Tryd.prog 11 = true := by kernel_rfl
theorem fn_12 : plainFn Tryd.prog 12 = true := by kernel_rfl
theorem fn_13 : plainFn Tryd.prog 13 = true := by kernel_rfl
theorem fn_14 : plainFn Tryd.prog 14 = true := by kernel_rfl
theorem fn_15 : plainFn Tryd.prog 15 = true := by kernel_rfl
theorem fn_16 : plainFn Tryd.prog 16 = true := by kernel_rfl
theorem fn_17 : plainFn Tryd.prog 17 = true := by kernel_rfl
theorem fn_18 : plainFn Tryd.prog 18 = true := by kernel_rfl
theorem fn_19 : plainFn Tryd.prog 19 = true := by kernel_rfl
theorem fn_20 : plainFn Tryd.prog 20 = true := by kernel_rfl
theorem fn_21 : plainFn Tryd.prog 21 = true := by kernel_rfl
theorem fn_22 : plainFn Tryd.prog 22 = true := by kernel_rfl
theorem fn_23 : plainFn Tryd.prog 23 = true := by kernel_rfl
theorem fn_24 : plainFn Tryd.prog 24 = true := by kernel_rfl
theorem fn_25 : plainFn Tryd.prog 25 = true := by kernel_rfl
theorem fn_26 : plainFn Tryd.prog 26 = true := by kernel_rfl
theorem fn_27 : plainFn Tryd.prog 27 = true := by kernel_rfl
theorem fn_28 : plainFn Tryd.prog 28 = true := by kernel_rfl
theorem fn_29 : plainFn Tryd.prog 29 = true := by kernel_rfl
theorem fn_30 : plainFn Tryd.prog 30 = true := by kernel_rfl
theorem fn_31 : plainFn Tryd.prog 31 = true := by kernel_rfl
theorem fn_32 : plainFn Tryd.prog 32 = true := by kernel_rfl
theorem fn_33 : plainFn Tryd.prog 33 = true := by kernel_rfl
theorem fn_34 : plainFn Tryd.prog 34 = true := by kernel_rfl
theorem fn_35 : plainFn Tryd.prog 35 = true := by kernel_rfl
theorem fn_36 : plainFn Tryd.prog 36 = true := by kernel_rfl
theorem fn_37 : plainFn Tryd.prog 37 = true := by kernel_rfl
theorem fn_38 : plainFn Tryd.prog 38 = true := by kernel_rfl
theorem fn_39 : plainFn Tryd.prog 39 = true := by kernel_rfl
theorem fn_40 : plainFn Tryd.prog 40 = true := by kernel_rfl
theorem fn_41 : plainFn Tryd.prog 41 = true := by kernel_rfl
theorem fn_42 : plainFn Tryd.prog 42 = true := by kernel_rfl
theorem fn_43 : plainFn Tryd.prog 43 = true := by kernel_rfl
theorem fn_44 : plainFn Tryd.prog 44 = true := by kernel_rfl
theorem fn_45 : plainFn Tryd.prog 45 = true := by kernel_rfl
theorem fn_46 : plainFn Tryd.prog 46 = true := by kernel_rfl
theorem fn_47 : plainFn Tryd.prog 47 = true := by kernel_rfl
theorem fn_48 : plainFn Tryd.prog 48 = true := by kernel_rfl
theorem fn_49 : plainFn Tryd.prog 49 = true := by kernel_rfl
theorem fn_50 : plainFn Tryd.prog 50 = true := by kernel_rfl
theorem fn_51 : plainFn Tryd.prog 51 = true := by kernel_rfl
theorem fn_52 : plainFn Tryd.prog 52 = true := by kernel_rfl
theorem fn_53 : plainFn Tryd.prog 53 = true := by kernel_rfl
theorem fn_54 : plainFn Tryd.prog 54 = true := by kernel_rfl
theorem fn_55 : plainFn Tryd.prog 55 = true := by kernel_rfl
theorem fn_56 : plainFn Tryd.prog 56 = true := by kernel_rfl
theorem fn_57 : plainFn Tryd.prog 57 = true := by kernel_rfl
theorem fn_58 : plainFn Tryd.prog 58 = true := by kernel_rfl
theorem mixed : Tryd.prog.follows .mixedOrders = true := by kernel_rfl
theorem fx :
    (kindOf Tryd.prog 2 = some .i64) ∧
    (knownT Tryd.prog 2 = true) ∧
    (kindOf Tryd.prog 3 = some .i64) ∧
    (knownT Tryd.prog 3 = true) ∧
    (kindOf Tryd.prog 5 = some .u8) ∧
    (knownT Tryd.prog 5 = true) ∧
    (kindOf Tryd.prog 6 = some .u8) ∧
    (knownT Tryd.prog 6 = true) ∧
    (fieldOff Tryd.prog 8 0 = some 0) ∧
    (fieldOff Tryd.prog 8 1 = some 1) ∧
    (fieldOff Tryd.prog 8 2 = some 2) ∧
    (fieldOff Tryd.prog 8 3 = some 3) ∧
    (kindOf Tryd.prog 12 = some .u64) ∧
    (knownT Tryd.prog 12 = true) ∧
    (fieldOff Tryd.prog 14 0 = some 0) ∧
    (fieldOff Tryd.prog 14 1 = some 1) ∧
    (fieldOff Tryd.prog 19 0 = some 0) ∧
    (kindOf Tryd.prog 21 = some .i32) ∧
    (knownT Tryd.prog 21 = true) ∧
    (slElem Tryd.prog 22 = some 1) ∧
    (slElem Tryd.prog 23 = some 1) ∧
    (slElem Tryd.prog 28 = some 1) ∧
    (kindOf Tryd.prog 31 = some .u64) ∧
    (knownT Tryd.prog 31 = true) ∧
    (slElem Tryd.prog 47 = some 2) ∧
    (arrElem Tryd.prog 55 = some (8, 1)) ∧
    (slElem Tryd.prog 67 = some 1) ∧
    (fieldOff Tryd.prog 69 0 = some 0) ∧
    (fieldOff Tryd.prog 69 1 = some 1) ∧
    (arrElem Tryd.prog 74 = some (128, 1)) ∧
    (fieldOff Tryd.prog 76 0 = some 0) ∧
    (fieldOff Tryd.prog 76 1 = some 8) ∧
    (fieldOff Tryd.prog 76 2 = some 136) ∧
    (fieldOff Tryd.prog 76 3 = some 137) ∧
    (fieldOff Tryd.prog 76 4 = some 138) ∧
    (kindOf Tryd.prog 78 = some .u64) ∧
    (knownT Tryd.prog 78 = true) ∧
    (arrElem Tryd.prog 82 = some (64, 1)) ∧
    (arrElem Tryd.prog 88 = some (80, 1)) ∧
    (arrElem Tryd.prog 89 = some (144, 1)) ∧
    (fieldOff Tryd.prog 93 0 = some 0) ∧
    (fieldOff Tryd.prog 97 0 = some 0) ∧
    (fieldOff Tryd.prog 97 1 = some 1) ∧
    (fieldOff Tryd.prog 97 2 = some 2) ∧
    (fieldOff Tryd.prog 97 3 = some 3) ∧
    (kindOf Tryd.prog 102 = some .u32) ∧
    (knownT Tryd.prog 102 = true) ∧
    (kindOf Tryd.prog 103 = some .u8) ∧
    (knownT Tryd.prog 103 = true) ∧
    (kindOf Tryd.prog 104 = some .u8) ∧
    (knownT Tryd.prog 104 = true) ∧
    (kindOf Tryd.prog 107 = some .i32) ∧
    (knownT Tryd.prog 107 = true) ∧
    (kindOf Tryd.prog 108 = some .i32) ∧
    (knownT Tryd.prog 108 = true) ∧
    (fieldOff Tryd.prog 110 0 = some 0) ∧
    (fieldOff Tryd.prog 110 1 = some 1) ∧
    (fieldOff Tryd.prog 110 2 = some 2) ∧
    (fieldOff Tryd.prog 110 3 = some 3) ∧
    (fieldOff Tryd.prog 110 4 = some 4) ∧
    (fieldOff Tryd.prog 110 5 = some 5) ∧
    (fieldOff Tryd.prog 110 6 = some 6) ∧
    (fieldOff Tryd.prog 110 8 = some 8) ∧
    (fieldOff Tryd.prog 110 9 = some 9) ∧
    (fieldOff Tryd.prog 110 10 = some 10) :=
  ⟨kind_2, known_2, kind_3, known_3, kind_5, known_5, kind_6, known_6, fld_8_0, fld_8_1, fld_8_2, fld_8_3, kind_12, known_12, fld_14_0, fld_14_1, fld_19_0, kind_21, known_21, sl_22, sl_23, sl_28, kind_31, known_31, sl_47, arr_55, sl_67, fld_69_0, fld_69_1, arr_74, fld_76_0, fld_76_1, fld_76_2, fld_76_3, fld_76_4, kind_78, known_78, arr_82, arr_88, arr_89, fld_93_0, fld_97_0, fld_97_1, fld_97_2, fld_97_3, kind_102, known_102, kind_103, known_103, kind_104, known_104, kind_107, known_107, kind_108, known_108, fld_110_0, fld_110_1, fld_110_2, fld_110_3, fld_110_4, fld_110_5, fld_110_6, fld_110_8, fld_110_9, fld_110_10⟩
end Go.Proofs.YtggbaffkjfofhaaDoor
