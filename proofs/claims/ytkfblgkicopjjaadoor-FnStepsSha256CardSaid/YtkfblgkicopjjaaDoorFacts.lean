/- Closed facts on the program's tables. Written by facts.py out of the translation. -/
import Derived.Test.YtkfblgkicopjjaaDoorChecked
import Derived.Test.YtkfblgkicopjjaaDoorEv
import Derived.Test.YtkfblgkicopjjaaDoorMem5
import Derived.Test.YtkfblgkicopjjaaDoorTree
import Derived.KernelRfl
namespace Go.Proofs.YtkfblgkicopjjaaDoor
open Go
theorem one_1 : plain1 Tryd.prog 1 = true := by kernel_rfl
theorem kind_2 : kindOf Tryd.prog 2 = some .i64 := by kernel_rfl
theorem known_2 : knownT Tryd.prog 2 = true := by kernel_rfl
theorem intt_2 : intT Tryd.prog 2 = true := by kernel_rfl
theorem one_2 : plain1 Tryd.prog 2 = true := by kernel_rfl
theorem kind_3 : kindOf Tryd.prog 3 = some .i64 := by kernel_rfl
theorem known_3 : knownT Tryd.prog 3 = true := by kernel_rfl
theorem intt_3 : intT Tryd.prog 3 = true := by kernel_rfl
theorem one_3 : plain1 Tryd.prog 3 = true := by kernel_rfl
theorem one_4 : plain1 Tryd.prog 4 = true := by kernel_rfl
theorem kind_5 : kindOf Tryd.prog 5 = some .u8 := by kernel_rfl
theorem known_5 : knownT Tryd.prog 5 = true := by kernel_rfl
theorem one_5 : plain1 Tryd.prog 5 = true := by kernel_rfl
theorem kind_6 : kindOf Tryd.prog 6 = some .u8 := by kernel_rfl
theorem known_6 : knownT Tryd.prog 6 = true := by kernel_rfl
theorem one_6 : plain1 Tryd.prog 6 = true := by kernel_rfl
theorem agg_7 : aggN Tryd.prog 7 4 = true := by kernel_rfl
theorem agg_8 : aggN Tryd.prog 8 4 = true := by kernel_rfl
theorem zero_8 : zeroIs Tryd.prog 8 ([.nat 0] ++ ([.nat 0] ++ ([.bool false] ++ ([.u8 0])))) := by unfold zeroIs; kernel_rfl
theorem fld_8_0 : fieldOff Tryd.prog 8 0 = some 0 := by kernel_rfl
theorem fld_8_1 : fieldOff Tryd.prog 8 1 = some 1 := by kernel_rfl
theorem fld_8_2 : fieldOff Tryd.prog 8 2 = some 2 := by kernel_rfl
theorem fld_8_3 : fieldOff Tryd.prog 8 3 = some 3 := by kernel_rfl
theorem strt_9 : strT Tryd.prog 9 = true := by kernel_rfl
theorem one_9 : plain1 Tryd.prog 9 = true := by kernel_rfl
theorem strt_10 : strT Tryd.prog 10 = true := by kernel_rfl
theorem one_10 : plain1 Tryd.prog 10 = true := by kernel_rfl
theorem strt_11 : strT Tryd.prog 11 = true := by kernel_rfl
theorem one_11 : plain1 Tryd.prog 11 = true := by kernel_rfl
theorem kind_12 : kindOf Tryd.prog 12 = some .u64 := by kernel_rfl
theorem known_12 : knownT Tryd.prog 12 = true := by kernel_rfl
theorem one_12 : plain1 Tryd.prog 12 = true := by kernel_rfl
theorem agg_13 : aggN Tryd.prog 13 2 = true := by kernel_rfl
theorem agg_14 : aggN Tryd.prog 14 2 = true := by kernel_rfl
theorem fld_14_0 : fieldOff Tryd.prog 14 0 = some 0 := by kernel_rfl
theorem fld_14_1 : fieldOff Tryd.prog 14 1 = some 1 := by kernel_rfl
theorem ptr_15 : ptrT Tryd.prog 15 = true := by kernel_rfl
theorem one_15 : plain1 Tryd.prog 15 = true := by kernel_rfl
theorem ptr_16 : ptrT Tryd.prog 16 = true := by kernel_rfl
theorem one_16 : plain1 Tryd.prog 16 = true := by kernel_rfl
theorem ptr_17 : ptrT Tryd.prog 17 = true := by kernel_rfl
theorem one_17 : plain1 Tryd.prog 17 = true := by kernel_rfl
theorem agg_18 : aggN Tryd.prog 18 1 = true := by kernel_rfl
theorem agg_19 : aggN Tryd.prog 19 1 = true := by kernel_rfl
theorem fld_19_0 : fieldOff Tryd.prog 19 0 = some 0 := by kernel_rfl
theorem one_20 : plain1 Tryd.prog 20 = true := by kernel_rfl
theorem kind_21 : kindOf Tryd.prog 21 = some .i32 := by kernel_rfl
theorem known_21 : knownT Tryd.prog 21 = true := by kernel_rfl
theorem one_21 : plain1 Tryd.prog 21 = true := by kernel_rfl
theorem sl_22 : slElem Tryd.prog 22 = some 1 := by kernel_rfl
theorem slof_22 : sliceOf Tryd.prog 22 55 1 = true := by kernel_rfl
theorem one_22 : plain1 Tryd.prog 22 = true := by kernel_rfl
theorem sl_23 : slElem Tryd.prog 23 = some 1 := by kernel_rfl
theorem bsl_23 : byteSl Tryd.prog 23 5 = true := by kernel_rfl
theorem tostr_23_9 : toStrT Tryd.prog 23 9 = true := by kernel_rfl
theorem tostr_23_10 : toStrT Tryd.prog 23 10 = true := by kernel_rfl
theorem tostr_23_11 : toStrT Tryd.prog 23 11 = true := by kernel_rfl
theorem slof_23 : sliceOf Tryd.prog 23 5 1 = true := by kernel_rfl
theorem one_23 : plain1 Tryd.prog 23 = true := by kernel_rfl
theorem one_24 : plain1 Tryd.prog 24 = true := by kernel_rfl
theorem one_25 : plain1 Tryd.prog 25 = true := by kernel_rfl
theorem one_26 : plain1 Tryd.prog 26 = true := by kernel_rfl
theorem one_27 : plain1 Tryd.prog 27 = true := by kernel_rfl
theorem sl_28 : slElem Tryd.prog 28 = some 1 := by kernel_rfl
theorem slof_28 : sliceOf Tryd.prog 28 23 1 = true := by kernel_rfl
theorem one_28 : plain1 Tryd.prog 28 = true := by kernel_rfl
theorem one_29 : plain1 Tryd.prog 29 = true := by kernel_rfl
theorem one_30 : plain1 Tryd.prog 30 = true := by kernel_rfl
theorem kind_31 : kindOf Tryd.prog 31 = some .u64 := by kernel_rfl
theorem known_31 : knownT Tryd.prog 31 = true := by kernel_rfl
theorem one_31 : plain1 Tryd.prog 31 = true := by kernel_rfl
theorem one_33 : plain1 Tryd.prog 33 = true := by kernel_rfl
theorem one_34 : plain1 Tryd.prog 34 = true := by kernel_rfl
theorem one_35 : plain1 Tryd.prog 35 = true := by kernel_rfl
theorem one_37 : plain1 Tryd.prog 37 = true := by kernel_rfl
theorem one_38 : plain1 Tryd.prog 38 = true := by kernel_rfl
theorem one_39 : plain1 Tryd.prog 39 = true := by kernel_rfl
theorem one_40 : plain1 Tryd.prog 40 = true := by kernel_rfl
theorem one_41 : plain1 Tryd.prog 41 = true := by kernel_rfl
theorem one_43 : plain1 Tryd.prog 43 = true := by kernel_rfl
theorem one_44 : plain1 Tryd.prog 44 = true := by kernel_rfl
theorem one_45 : plain1 Tryd.prog 45 = true := by kernel_rfl
theorem one_46 : plain1 Tryd.prog 46 = true := by kernel_rfl
theorem sl_47 : slElem Tryd.prog 47 = some 2 := by kernel_rfl
theorem slof_47 : sliceOf Tryd.prog 47 73 2 = true := by kernel_rfl
theorem one_47 : plain1 Tryd.prog 47 = true := by kernel_rfl
theorem one_49 : plain1 Tryd.prog 49 = true := by kernel_rfl
theorem one_50 : plain1 Tryd.prog 50 = true := by kernel_rfl
theorem one_51 : plain1 Tryd.prog 51 = true := by kernel_rfl
theorem one_52 : plain1 Tryd.prog 52 = true := by kernel_rfl
theorem one_53 : plain1 Tryd.prog 53 = true := by kernel_rfl
theorem one_54 : plain1 Tryd.prog 54 = true := by kernel_rfl
theorem kind_55 : kindOf Tryd.prog 55 = some .u32 := by kernel_rfl
theorem known_55 : knownT Tryd.prog 55 = true := by kernel_rfl
theorem one_55 : plain1 Tryd.prog 55 = true := by kernel_rfl
theorem arrn_56 : arrN Tryd.prog 56 8 = true := by kernel_rfl
theorem arr_56 : arrElem Tryd.prog 56 = some (8, 1) := by kernel_rfl
theorem zero_56 : zeroIs Tryd.prog 56 (List.replicate 8 (.u32 0)) := by unfold zeroIs; kernel_rfl
theorem agg_56 : aggN Tryd.prog 56 8 = true := by kernel_rfl
theorem one_57 : plain1 Tryd.prog 57 = true := by kernel_rfl
theorem one_58 : plain1 Tryd.prog 58 = true := by kernel_rfl
theorem ptr_59 : ptrT Tryd.prog 59 = true := by kernel_rfl
theorem one_59 : plain1 Tryd.prog 59 = true := by kernel_rfl
theorem one_60 : plain1 Tryd.prog 60 = true := by kernel_rfl
theorem one_62 : plain1 Tryd.prog 62 = true := by kernel_rfl
theorem sl_63 : slElem Tryd.prog 63 = some 1 := by kernel_rfl
theorem slof_63 : sliceOf Tryd.prog 63 31 1 = true := by kernel_rfl
theorem one_63 : plain1 Tryd.prog 63 = true := by kernel_rfl
theorem one_64 : plain1 Tryd.prog 64 = true := by kernel_rfl
theorem kind_65 : kindOf Tryd.prog 65 = some .u64 := by kernel_rfl
theorem known_65 : knownT Tryd.prog 65 = true := by kernel_rfl
theorem one_65 : plain1 Tryd.prog 65 = true := by kernel_rfl
theorem one_66 : plain1 Tryd.prog 66 = true := by kernel_rfl
theorem one_67 : plain1 Tryd.prog 67 = true := by kernel_rfl
theorem one_69 : plain1 Tryd.prog 69 = true := by kernel_rfl
theorem one_70 : plain1 Tryd.prog 70 = true := by kernel_rfl
theorem sl_71 : slElem Tryd.prog 71 = some 1 := by kernel_rfl
theorem slof_71 : sliceOf Tryd.prog 71 3 1 = true := by kernel_rfl
theorem one_71 : plain1 Tryd.prog 71 = true := by kernel_rfl
theorem agg_72 : aggN Tryd.prog 72 2 = true := by kernel_rfl
theorem agg_73 : aggN Tryd.prog 73 2 = true := by kernel_rfl
theorem zero_73 : zeroIs Tryd.prog 73 ([.nat 0] ++ ([.sl none 0 0])) := by unfold zeroIs; kernel_rfl
theorem fld_73_0 : fieldOff Tryd.prog 73 0 = some 0 := by kernel_rfl
theorem fld_73_1 : fieldOff Tryd.prog 73 1 = some 1 := by kernel_rfl
theorem one_74 : plain1 Tryd.prog 74 = true := by kernel_rfl
theorem one_76 : plain1 Tryd.prog 76 = true := by kernel_rfl
theorem one_77 : plain1 Tryd.prog 77 = true := by kernel_rfl
theorem arrn_78 : arrN Tryd.prog 78 64 = true := by kernel_rfl
theorem arr_78 : arrElem Tryd.prog 78 = some (64, 1) := by kernel_rfl
theorem zero_78 : zeroIs Tryd.prog 78 (List.replicate 64 (.u8 0)) := by unfold zeroIs; kernel_rfl
theorem agg_78 : aggN Tryd.prog 78 64 = true := by kernel_rfl
theorem agg_79 : aggN Tryd.prog 79 75 = true := by kernel_rfl
theorem agg_80 : aggN Tryd.prog 80 75 = true := by kernel_rfl
theorem zero_80 : zeroIs Tryd.prog 80 (List.replicate 8 (.u32 0) ++ (List.replicate 64 (.u8 0) ++ ([.nat 0] ++ ([.u64 0] ++ ([.bool false]))))) := by unfold zeroIs; kernel_rfl
theorem fld_80_0 : fieldOff Tryd.prog 80 0 = some 0 := by kernel_rfl
theorem fld_80_1 : fieldOff Tryd.prog 80 1 = some 8 := by kernel_rfl
theorem fld_80_2 : fieldOff Tryd.prog 80 2 = some 72 := by kernel_rfl
theorem fld_80_3 : fieldOff Tryd.prog 80 3 = some 73 := by kernel_rfl
theorem fld_80_4 : fieldOff Tryd.prog 80 4 = some 74 := by kernel_rfl
theorem one_81 : plain1 Tryd.prog 81 = true := by kernel_rfl
theorem one_82 : plain1 Tryd.prog 82 = true := by kernel_rfl
theorem one_83 : plain1 Tryd.prog 83 = true := by kernel_rfl
theorem one_84 : plain1 Tryd.prog 84 = true := by kernel_rfl
theorem one_85 : plain1 Tryd.prog 85 = true := by kernel_rfl
theorem one_86 : plain1 Tryd.prog 86 = true := by kernel_rfl
theorem arrn_87 : arrN Tryd.prog 87 32 = true := by kernel_rfl
theorem arr_87 : arrElem Tryd.prog 87 = some (32, 1) := by kernel_rfl
theorem zero_87 : zeroIs Tryd.prog 87 (List.replicate 32 (.u8 0)) := by unfold zeroIs; kernel_rfl
theorem agg_87 : aggN Tryd.prog 87 32 = true := by kernel_rfl
theorem one_88 : plain1 Tryd.prog 88 = true := by kernel_rfl
theorem one_89 : plain1 Tryd.prog 89 = true := by kernel_rfl
theorem one_90 : plain1 Tryd.prog 90 = true := by kernel_rfl
theorem one_92 : plain1 Tryd.prog 92 = true := by kernel_rfl
theorem one_94 : plain1 Tryd.prog 94 = true := by kernel_rfl
theorem arrn_95 : arrN Tryd.prog 95 64 = true := by kernel_rfl
theorem arr_95 : arrElem Tryd.prog 95 = some (64, 1) := by kernel_rfl
theorem zero_95 : zeroIs Tryd.prog 95 (List.replicate 64 (.u32 0)) := by unfold zeroIs; kernel_rfl
theorem agg_95 : aggN Tryd.prog 95 64 = true := by kernel_rfl
theorem one_96 : plain1 Tryd.prog 96 = true := by kernel_rfl
theorem arrn_97 : arrN Tryd.prog 97 72 = true := by kernel_rfl
theorem arr_97 : arrElem Tryd.prog 97 = some (72, 1) := by kernel_rfl
theorem zero_97 : zeroIs Tryd.prog 97 (List.replicate 72 (.u8 0)) := by unfold zeroIs; kernel_rfl
theorem agg_97 : aggN Tryd.prog 97 72 = true := by kernel_rfl
theorem one_98 : plain1 Tryd.prog 98 = true := by kernel_rfl
theorem one_99 : plain1 Tryd.prog 99 = true := by kernel_rfl
theorem ptr_100 : ptrT Tryd.prog 100 = true := by kernel_rfl
theorem one_100 : plain1 Tryd.prog 100 = true := by kernel_rfl
theorem agg_101 : aggN Tryd.prog 101 1 = true := by kernel_rfl
theorem agg_102 : aggN Tryd.prog 102 1 = true := by kernel_rfl
theorem fld_102_0 : fieldOff Tryd.prog 102 0 = some 0 := by kernel_rfl
theorem one_103 : plain1 Tryd.prog 103 = true := by kernel_rfl
theorem one_104 : plain1 Tryd.prog 104 = true := by kernel_rfl
theorem one_105 : plain1 Tryd.prog 105 = true := by kernel_rfl
theorem agg_106 : aggN Tryd.prog 106 4 = true := by kernel_rfl
theorem agg_107 : aggN Tryd.prog 107 4 = true := by kernel_rfl
theorem fld_107_0 : fieldOff Tryd.prog 107 0 = some 0 := by kernel_rfl
theorem fld_107_1 : fieldOff Tryd.prog 107 1 = some 1 := by kernel_rfl
theorem fld_107_2 : fieldOff Tryd.prog 107 2 = some 2 := by kernel_rfl
theorem fld_107_3 : fieldOff Tryd.prog 107 3 = some 3 := by kernel_rfl
theorem arrn_108 : arrN Tryd.prog 108 0 = true := by kernel_rfl
theorem one_111 : plain1 Tryd.prog 111 = true := by kernel_rfl
theorem kind_112 : kindOf Tryd.prog 112 = some .u8 := by kernel_rfl
theorem known_112 : knownT Tryd.prog 112 = true := by kernel_rfl
theorem one_112 : plain1 Tryd.prog 112 = true := by kernel_rfl
theorem kind_113 : kindOf Tryd.prog 113 = some .u8 := by kernel_rfl
theorem known_113 : knownT Tryd.prog 113 = true := by kernel_rfl
theorem one_113 : plain1 Tryd.prog 113 = true := by kernel_rfl
theorem one_114 : plain1 Tryd.prog 114 = true := by kernel_rfl
theorem ptr_115 : ptrT Tryd.prog 115 = true := by kernel_rfl
theorem one_115 : plain1 Tryd.prog 115 = true := by kernel_rfl
theorem kind_116 : kindOf Tryd.prog 116 = some .i32 := by kernel_rfl
theorem known_116 : knownT Tryd.prog 116 = true := by kernel_rfl
theorem one_116 : plain1 Tryd.prog 116 = true := by kernel_rfl
theorem kind_117 : kindOf Tryd.prog 117 = some .i32 := by kernel_rfl
theorem known_117 : knownT Tryd.prog 117 = true := by kernel_rfl
theorem one_117 : plain1 Tryd.prog 117 = true := by kernel_rfl
theorem agg_118 : aggN Tryd.prog 118 11 = true := by kernel_rfl
theorem agg_119 : aggN Tryd.prog 119 11 = true := by kernel_rfl
theorem fld_119_0 : fieldOff Tryd.prog 119 0 = some 0 := by kernel_rfl
theorem fld_119_1 : fieldOff Tryd.prog 119 1 = some 1 := by kernel_rfl
theorem fld_119_2 : fieldOff Tryd.prog 119 2 = some 2 := by kernel_rfl
theorem fld_119_3 : fieldOff Tryd.prog 119 3 = some 3 := by kernel_rfl
theorem fld_119_4 : fieldOff Tryd.prog 119 4 = some 4 := by kernel_rfl
theorem fld_119_5 : fieldOff Tryd.prog 119 5 = some 5 := by kernel_rfl
theorem fld_119_6 : fieldOff Tryd.prog 119 6 = some 6 := by kernel_rfl
theorem fld_119_8 : fieldOff Tryd.prog 119 8 = some 8 := by kernel_rfl
theorem fld_119_9 : fieldOff Tryd.prog 119 9 = some 9 := by kernel_rfl
theorem fld_119_10 : fieldOff Tryd.prog 119 10 = some 10 := by kernel_rfl
theorem fn_3 : plainFn Tryd.prog 3 = true := by kernel_rfl
theorem fn_4 : plainFn Tryd.prog 4 = true := by kernel_rfl
theorem fn_5 : plainFn Tryd.prog 5 = true := by kernel_rfl
theorem fn_6 : plainFn Tryd.prog 6 = true := by kernel_rfl
theorem fn_7 : plainFn Tryd.prog 7 = true := by kernel_rfl
theorem fn_8 : plainFn Tryd.prog 8 = true := by kernel_rfl
theorem fn_9 : plainFn Tryd.prog 9 = true := by kernel_rfl
theorem fn_10 : plainFn Tryd.prog 10 = true := by kernel_rfl
theorem fn_11 : plainFn Tryd.prog 11 = true := by kernel_rfl
theorem fn_12 : plainFn Tryd.prog 12 = true := by kernel_rfl
theorem fn_13 : plainFn Tryd.prog 13 = true := by kernel_rfl
theorem fn_14 : plainFn Tryd.prog 14 = true := by kernel_rfl
theorem fn_15 : plainFn Tryd.prog 15 = true := by kernel_rfl
theorem fn_16 : plainFn Tryd.prog 16 = true := by kernel_rfl
theorem fn_17 : plainFn Tryd.prog 17 = true := by kernel_rfl
theorem fn_18 : plainFn Tryd.prog 18 = true := by kernel_rfl
theorem fn_19 : plainFn Tryd.prog 19 = true := by kernel_rfl
theorem fn_20 : plainFn Tryd.prog 20 = true := by kernel_rfl
theorem fn_21 : plainFn Tryd.prog 21 = true := by kernel_rfl
theorem fn_22 : plainFn Tryd.prog 22 = true := by kernel_rfl
theorem fn_23 : plainFn Tryd.prog 23 = true := by kernel_rfl
theorem fn_24 : plainFn Tryd.prog 24 = true := by kernel_rfl
theorem fn_25 : plainFn Tryd.prog 25 = true := by kernel_rfl
theorem fn_26 : plainFn Tryd.prog 26 = true := by kernel_rfl
theorem fn_27 : plainFn Tryd.prog 27 = true := by kernel_rfl
theorem fn_28 : plainFn Tryd.prog 28 = true := by kernel_rfl
theorem fn_29 : plainFn Tryd.prog 29 = true := by kernel_rfl
theorem fn_30 : plainFn Tryd.prog 30 = true := by kernel_rfl
theorem fn_31 : plainFn Tryd.prog 31 = true := by kernel_rfl
theorem fn_32 : plainFn Tryd.prog 32 = true := by kernel_rfl
theorem fn_33 : plainFn Tryd.prog 33 = true := by kernel_rfl
theorem fn_34 : plainFn Tryd.prog 34 = true := by kernel_rfl
theorem fn_35 : plainFn Tryd.prog 35 = true := by kernel_rfl
theorem fn_36 : plainFn Tryd.prog 36 = true := by kernel_rfl
theorem fn_37 : plainFn Tryd.prog 37 = true := by kernel_rfl
theorem fn_38 : plainFn Tryd.prog 38 = true := by kernel_rfl
theorem fn_39 : plainFn Tryd.prog 39 = true := by kernel_rfl
theorem fn_40 : plainFn Tryd.prog 40 = true := by kernel_rfl
theorem fn_41 : plainFn Tryd.prog 41 = true := by kernel_rfl
theorem fn_42 : plainFn Tryd.prog 42 = true := by kernel_rfl
theorem fn_43 : plainFn Tryd.prog 43 = true := by kernel_rfl
theorem fn_44 : plainFn Tryd.prog 44 = true := by kernel_rfl
theorem fn_45 : plainFn Tryd.prog 45 = true := by kernel_rfl
theorem fn_46 : plainFn Tryd.prog 46 = true := by kernel_rfl
theorem fn_47 : plainFn Tryd.prog 47 = true := by kernel_rfl
theorem fn_48 : plainFn Tryd.prog 48 = true := by kernel_rfl
theorem fn_49 : plainFn Tryd.prog 49 = true := by kernel_rfl
theorem fn_50 : plainFn Tryd.prog 50 = true := by kernel_rfl
theorem fn_51 : plainFn Tryd.prog 51 = true := by kernel_rfl
theorem fn_52 : plainFn Tryd.prog 52 = true := by kernel_rfl
theorem fn_53 : plainFn Tryd.prog 53 = true := by kernel_rfl
theorem fn_54 : plainFn Tryd.prog 54 = true := by kernel_rfl
theorem fn_55 : plainFn Tryd.prog 55 = true := by kernel_rfl
theorem fn_56 : plainFn Tryd.prog 56 = true := by kernel_rfl
theorem fn_57 : plainFn Tryd.prog 57 = true := by kernel_rfl
theorem fn_58 : plainFn Tryd.prog 58 = true := by kernel_rfl
theorem fn_59 : plainFn Tryd.prog 59 = true := by kernel_rfl
theorem fn_60 : plainFn Tryd.prog 60 = true := by kernel_rfl
theorem fn_61 : plainFn Tryd.prog 61 = true := by kernel_rfl
theorem fn_62 : plainFn Tryd.prog 62 = true := by kernel_rfl
theorem fn_63 : plainFn Tryd.prog 63 = true := by kernel_rfl
theorem mixed : Tryd.prog.follows .mixedOrders = true := by kernel_rfl
theorem fx :
    (kindOf Tryd.prog 2 = some .i64) ∧
    (knownT Tryd.prog 2 = true) ∧
    (kindOf Tryd.prog 3 = some .i64) ∧
    (knownT Tryd.prog 3 = true) ∧
    (kindOf Tryd.prog 5 = some .u8) ∧
    (knownT Tryd.prog 5 = true) ∧
    (kindOf Tryd.prog 6 = some .u8) ∧
    (knownT Tryd.prog 6 = true) ∧
    (fieldOff Tryd.prog 8 0 = some 0) ∧
    (fieldOff Tryd.prog 8 1 = some 1) ∧
    (fieldOff Tryd.prog 8 2 = some 2) ∧
    (fieldOff Tryd.prog 8 3 = some 3) ∧
    (kindOf Tryd.prog 12 = some .u64) ∧
    (knownT Tryd.prog 12 = true) ∧
    (fieldOff Tryd.prog 14 0 = some 0) ∧
    (fieldOff Tryd.prog 14 1 = some 1) ∧
    (fieldOff Tryd.prog 19 0 = some 0) ∧
    (kindOf Tryd.prog 21 = some .i32) ∧
    (knownT Tryd.prog 21 = true) ∧
    (slElem Tryd.prog 22 = some 1) ∧
    (slElem Tryd.prog 23 = some 1) ∧
    (slElem Tryd.prog 28 = some 1) ∧
    (kindOf Tryd.prog 31 = some .u64) ∧
    (knownT Tryd.prog 31 = true) ∧
    (slElem Tryd.prog 47 = some 2) ∧
    (kindOf Tryd.prog 55 = some .u32) ∧
    (knownT Tryd.prog 55 = true) ∧
    (arrElem Tryd.prog 56 = some (8, 1)) ∧
    (slElem Tryd.prog 63 = some 1) ∧
    (kindOf Tryd.prog 65 = some .u64) ∧
    (knownT Tryd.prog 65 = true) ∧
    (slElem Tryd.prog 71 = some 1) ∧
    (fieldOff Tryd.prog 73 0 = some 0) ∧
    (fieldOff Tryd.prog 73 1 = some 1) ∧
    (arrElem Tryd.prog 78 = some (64, 1)) ∧
    (fieldOff Tryd.prog 80 0 = some 0) ∧
    (fieldOff Tryd.prog 80 1 = some 8) ∧
    (fieldOff Tryd.prog 80 2 = some 72) ∧
    (fieldOff Tryd.prog 80 3 = some 73) ∧
    (fieldOff Tryd.prog 80 4 = some 74) ∧
    (arrElem Tryd.prog 87 = some (32, 1)) ∧
    (arrElem Tryd.prog 95 = some (64, 1)) ∧
    (arrElem Tryd.prog 97 = some (72, 1)) ∧
    (fieldOff Tryd.prog 102 0 = some 0) ∧
    (fieldOff Tryd.prog 107 0 = some 0) ∧
    (fieldOff Tryd.prog 107 1 = some 1) ∧
    (fieldOff Tryd.prog 107 2 = some 2) ∧
    (fieldOff Tryd.prog 107 3 = some 3) ∧
    (kindOf Tryd.prog 112 = some .u8) ∧
    (knownT Tryd.prog 112 = true) ∧
    (kindOf Tryd.prog 113 = some .u8) ∧
    (knownT Tryd.prog 113 = true) ∧
    (kindOf Tryd.prog 116 = some .i32) ∧
    (knownT Tryd.prog 116 = true) ∧
    (kindOf Tryd.prog 117 = some .i32) ∧
    (knownT Tryd.prog 117 = true) ∧
    (fieldOff Tryd.prog 119 0 = some 0) ∧
    (fieldOff Tryd.prog 119 1 = some 1) ∧
    (fieldOff Tryd.prog 119 2 = some 2) ∧
    (fieldOff Tryd.prog 119 3 = some 3) ∧
    (fieldOff Tryd.prog 119 4 = some 4) ∧
    (fieldOff Tryd.prog 119 5 = some 5) ∧
    (fieldOff Tryd.prog 119 6 = some 6) ∧
    (fieldOff Tryd.prog 119 8 = some 8) ∧
    (fieldOff Tryd.prog 119 9 = some 9) ∧
    (fieldOff Tryd.prog 119 10 = some 10) :=
  ⟨kind_2, known_2, kind_3, known_3, kind_5, known_5, kind_6, known_6, fld_8_0, fld_8_1, fld_8_2, fld_8_3, kind_12, known_12, fld_14_0, fld_14_1, fld_19_0, kind_21, known_21, sl_22, sl_23, sl_28, kind_31, known_31, sl_47, kind_55, known_55, arr_56, sl_63, kind_65, known_65, sl_71, fld_73_0, fld_73_1, arr_78, fld_80_0, fld_80_1, fld_80_2, fld_80_3, fld_80_4, arr_87, arr_95, arr_97, fld_102_0, fld_107_0, fld_107_1, fld_107_2, fld_107_3, kind_112, known_112, kind_113, known_113, kind_116, known_116, kind_117, known_117, fld_119_0, fld_119_1, fld_119_2, fld_119_3, fld_119_4, fld_119_5, fld_119_6, fld_119_8, fld_119_9, fld_119_10⟩
end Go.Proofs.YtkfblgkicopjjaaDoor
