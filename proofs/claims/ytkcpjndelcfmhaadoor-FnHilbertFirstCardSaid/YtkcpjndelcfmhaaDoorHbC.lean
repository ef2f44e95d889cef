import Derived.Test.YtkcpjndelcfmhaaDoorHbB
import Derived.Deep.RegionLaw
namespace Go.Proofs.YtkcpjndelcfmhaaDoor
open Go.ChangeShapes Go.WideShapes Go.ChangeAt Go.RowKit Go.GrowR
set_option linter.unusedVariables false
set_option linter.unusedSimpArgs false
@[go_sem] theorem wr_0 : IntKind.i64.wrap 0 = 0 := by kernel_rfl
@[go_sem] theorem wr_1 : IntKind.i64.wrap 1 = 1 := by kernel_rfl
@[go_sem] theorem wr_2 : IntKind.i64.wrap 2 = 2 := by kernel_rfl
@[go_sem] theorem wr_3 : IntKind.i64.wrap 3 = 3 := by kernel_rfl
@[go_sem] theorem wr_4 : IntKind.i64.wrap 4 = 4 := by kernel_rfl
@[go_sem] theorem wr_5 : IntKind.i64.wrap 5 = 5 := by kernel_rfl
@[go_sem] theorem wr_6 : IntKind.i64.wrap 6 = 6 := by kernel_rfl
@[go_sem] theorem wr_7 : IntKind.i64.wrap 7 = 7 := by kernel_rfl
@[go_sem] theorem wr_8 : IntKind.i64.wrap 8 = 8 := by kernel_rfl
@[go_sem] theorem wr_9 : IntKind.i64.wrap 9 = 9 := by kernel_rfl
@[go_sem] theorem wr_10 : IntKind.i64.wrap 10 = 10 := by kernel_rfl
@[go_sem] theorem wr_11 : IntKind.i64.wrap 11 = 11 := by kernel_rfl
@[go_sem] theorem wr_12 : IntKind.i64.wrap 12 = 12 := by kernel_rfl
@[go_sem] theorem wr_13 : IntKind.i64.wrap 13 = 13 := by kernel_rfl
@[go_sem] theorem wr_14 : IntKind.i64.wrap 14 = 14 := by kernel_rfl
@[go_sem] theorem wr_15 : IntKind.i64.wrap 15 = 15 := by kernel_rfl
@[go_sem] theorem wr_16 : IntKind.i64.wrap 16 = 16 := by kernel_rfl
@[go_sem] theorem wr_17 : IntKind.i64.wrap 17 = 17 := by kernel_rfl
@[go_sem] theorem wr_18 : IntKind.i64.wrap 18 = 18 := by kernel_rfl
@[go_sem] theorem wr_19 : IntKind.i64.wrap 19 = 19 := by kernel_rfl
@[go_sem] theorem wr_20 : IntKind.i64.wrap 20 = 20 := by kernel_rfl
@[go_sem] theorem wr_21 : IntKind.i64.wrap 21 = 21 := by kernel_rfl
@[go_sem] theorem wr_22 : IntKind.i64.wrap 22 = 22 := by kernel_rfl
@[go_sem] theorem wr_23 : IntKind.i64.wrap 23 = 23 := by kernel_rfl
@[go_sem] theorem wr_24 : IntKind.i64.wrap 24 = 24 := by kernel_rfl
@[go_sem] theorem wr_25 : IntKind.i64.wrap 25 = 25 := by kernel_rfl
@[go_sem] theorem wr_26 : IntKind.i64.wrap 26 = 26 := by kernel_rfl
@[go_sem] theorem wr_27 : IntKind.i64.wrap 27 = 27 := by kernel_rfl
@[go_sem] theorem wr_28 : IntKind.i64.wrap 28 = 28 := by kernel_rfl
@[go_sem] theorem wr_29 : IntKind.i64.wrap 29 = 29 := by kernel_rfl
@[go_sem] theorem wr_30 : IntKind.i64.wrap 30 = 30 := by kernel_rfl
@[go_sem] theorem wr_31 : IntKind.i64.wrap 31 = 31 := by kernel_rfl
@[go_sem] theorem wr_32 : IntKind.i64.wrap 32 = 32 := by kernel_rfl
@[go_sem] theorem wr_m1 : IntKind.i64.wrap (-1) = -1 := by kernel_rfl
@[go_sem] theorem an_0_1 : bits BinOp.and IntKind.i64 0 1 = 0 := by kernel_rfl
@[go_sem] theorem an_0_3 : bits BinOp.and IntKind.i64 0 3 = 0 := by kernel_rfl
@[go_sem] theorem an_0_7 : bits BinOp.and IntKind.i64 0 7 = 0 := by kernel_rfl
@[go_sem] theorem an_0_15 : bits BinOp.and IntKind.i64 0 15 = 0 := by kernel_rfl
@[go_sem] theorem xo_0_0 : bits BinOp.xor IntKind.i64 0 0 = 0 := by kernel_rfl
@[go_sem] theorem or_0_0 : bits BinOp.or IntKind.i64 0 0 = 0 := by kernel_rfl
@[go_sem] theorem xo_0_1 : bits BinOp.xor IntKind.i64 0 1 = 1 := by kernel_rfl
@[go_sem] theorem or_0_1 : bits BinOp.or IntKind.i64 0 1 = 1 := by kernel_rfl
@[go_sem] theorem xo_0_2 : bits BinOp.xor IntKind.i64 0 2 = 2 := by kernel_rfl
@[go_sem] theorem or_0_2 : bits BinOp.or IntKind.i64 0 2 = 2 := by kernel_rfl
@[go_sem] theorem xo_0_3 : bits BinOp.xor IntKind.i64 0 3 = 3 := by kernel_rfl
@[go_sem] theorem or_0_3 : bits BinOp.or IntKind.i64 0 3 = 3 := by kernel_rfl
@[go_sem] theorem xo_0_4 : bits BinOp.xor IntKind.i64 0 4 = 4 := by kernel_rfl
@[go_sem] theorem or_0_4 : bits BinOp.or IntKind.i64 0 4 = 4 := by kernel_rfl
@[go_sem] theorem xo_0_5 : bits BinOp.xor IntKind.i64 0 5 = 5 := by kernel_rfl
@[go_sem] theorem or_0_5 : bits BinOp.or IntKind.i64 0 5 = 5 := by kernel_rfl
@[go_sem] theorem xo_0_6 : bits BinOp.xor IntKind.i64 0 6 = 6 := by kernel_rfl
@[go_sem] theorem or_0_6 : bits BinOp.or IntKind.i64 0 6 = 6 := by kernel_rfl
@[go_sem] theorem xo_0_7 : bits BinOp.xor IntKind.i64 0 7 = 7 := by kernel_rfl
@[go_sem] theorem or_0_7 : bits BinOp.or IntKind.i64 0 7 = 7 := by kernel_rfl
@[go_sem] theorem xo_0_8 : bits BinOp.xor IntKind.i64 0 8 = 8 := by kernel_rfl
@[go_sem] theorem xo_0_9 : bits BinOp.xor IntKind.i64 0 9 = 9 := by kernel_rfl
@[go_sem] theorem xo_0_10 : bits BinOp.xor IntKind.i64 0 10 = 10 := by kernel_rfl
@[go_sem] theorem xo_0_11 : bits BinOp.xor IntKind.i64 0 11 = 11 := by kernel_rfl
@[go_sem] theorem xo_0_12 : bits BinOp.xor IntKind.i64 0 12 = 12 := by kernel_rfl
@[go_sem] theorem xo_0_13 : bits BinOp.xor IntKind.i64 0 13 = 13 := by kernel_rfl
@[go_sem] theorem xo_0_14 : bits BinOp.xor IntKind.i64 0 14 = 14 := by kernel_rfl
@[go_sem] theorem xo_0_15 : bits BinOp.xor IntKind.i64 0 15 = 15 := by kernel_rfl
@[go_sem] theorem an_1_1 : bits BinOp.and IntKind.i64 1 1 = 1 := by kernel_rfl
@[go_sem] theorem an_1_3 : bits BinOp.and IntKind.i64 1 3 = 1 := by kernel_rfl
@[go_sem] theorem an_1_7 : bits BinOp.and IntKind.i64 1 7 = 1 := by kernel_rfl
@[go_sem] theorem an_1_15 : bits BinOp.and IntKind.i64 1 15 = 1 := by kernel_rfl
@[go_sem] theorem xo_1_0 : bits BinOp.xor IntKind.i64 1 0 = 1 := by kernel_rfl
@[go_sem] theorem or_1_0 : bits BinOp.or IntKind.i64 1 0 = 1 := by kernel_rfl
@[go_sem] theorem xo_1_1 : bits BinOp.xor IntKind.i64 1 1 = 0 := by kernel_rfl
@[go_sem] theorem or_1_1 : bits BinOp.or IntKind.i64 1 1 = 1 := by kernel_rfl
@[go_sem] theorem xo_1_2 : bits BinOp.xor IntKind.i64 1 2 = 3 := by kernel_rfl
@[go_sem] theorem or_1_2 : bits BinOp.or IntKind.i64 1 2 = 3 := by kernel_rfl
@[go_sem] theorem xo_1_3 : bits BinOp.xor IntKind.i64 1 3 = 2 := by kernel_rfl
@[go_sem] theorem or_1_3 : bits BinOp.or IntKind.i64 1 3 = 3 := by kernel_rfl
@[go_sem] theorem xo_1_4 : bits BinOp.xor IntKind.i64 1 4 = 5 := by kernel_rfl
@[go_sem] theorem or_1_4 : bits BinOp.or IntKind.i64 1 4 = 5 := by kernel_rfl
@[go_sem] theorem xo_1_5 : bits BinOp.xor IntKind.i64 1 5 = 4 := by kernel_rfl
@[go_sem] theorem or_1_5 : bits BinOp.or IntKind.i64 1 5 = 5 := by kernel_rfl
@[go_sem] theorem xo_1_6 : bits BinOp.xor IntKind.i64 1 6 = 7 := by kernel_rfl
@[go_sem] theorem or_1_6 : bits BinOp.or IntKind.i64 1 6 = 7 := by kernel_rfl
@[go_sem] theorem xo_1_7 : bits BinOp.xor IntKind.i64 1 7 = 6 := by kernel_rfl
@[go_sem] theorem or_1_7 : bits BinOp.or IntKind.i64 1 7 = 7 := by kernel_rfl
@[go_sem] theorem xo_1_8 : bits BinOp.xor IntKind.i64 1 8 = 9 := by kernel_rfl
@[go_sem] theorem xo_1_9 : bits BinOp.xor IntKind.i64 1 9 = 8 := by kernel_rfl
@[go_sem] theorem xo_1_10 : bits BinOp.xor IntKind.i64 1 10 = 11 := by kernel_rfl
@[go_sem] theorem xo_1_11 : bits BinOp.xor IntKind.i64 1 11 = 10 := by kernel_rfl
@[go_sem] theorem xo_1_12 : bits BinOp.xor IntKind.i64 1 12 = 13 := by kernel_rfl
@[go_sem] theorem xo_1_13 : bits BinOp.xor IntKind.i64 1 13 = 12 := by kernel_rfl
@[go_sem] theorem xo_1_14 : bits BinOp.xor IntKind.i64 1 14 = 15 := by kernel_rfl
@[go_sem] theorem xo_1_15 : bits BinOp.xor IntKind.i64 1 15 = 14 := by kernel_rfl
@[go_sem] theorem an_2_1 : bits BinOp.and IntKind.i64 2 1 = 0 := by kernel_rfl
@[go_sem] theorem an_2_3 : bits BinOp.and IntKind.i64 2 3 = 2 := by kernel_rfl
@[go_sem] theorem an_2_7 : bits BinOp.and IntKind.i64 2 7 = 2 := by kernel_rfl
@[go_sem] theorem an_2_15 : bits BinOp.and IntKind.i64 2 15 = 2 := by kernel_rfl
@[go_sem] theorem xo_2_0 : bits BinOp.xor IntKind.i64 2 0 = 2 := by kernel_rfl
@[go_sem] theorem or_2_0 : bits BinOp.or IntKind.i64 2 0 = 2 := by kernel_rfl
@[go_sem] theorem xo_2_1 : bits BinOp.xor IntKind.i64 2 1 = 3 := by kernel_rfl
@[go_sem] theorem or_2_1 : bits BinOp.or IntKind.i64 2 1 = 3 := by kernel_rfl
@[go_sem] theorem xo_2_2 : bits BinOp.xor IntKind.i64 2 2 = 0 := by kernel_rfl
@[go_sem] theorem or_2_2 : bits BinOp.or IntKind.i64 2 2 = 2 := by kernel_rfl
@[go_sem] theorem xo_2_3 : bits BinOp.xor IntKind.i64 2 3 = 1 := by kernel_rfl
@[go_sem] theorem or_2_3 : bits BinOp.or IntKind.i64 2 3 = 3 := by kernel_rfl
@[go_sem] theorem xo_2_4 : bits BinOp.xor IntKind.i64 2 4 = 6 := by kernel_rfl
@[go_sem] theorem or_2_4 : bits BinOp.or IntKind.i64 2 4 = 6 := by kernel_rfl
@[go_sem] theorem xo_2_5 : bits BinOp.xor IntKind.i64 2 5 = 7 := by kernel_rfl
@[go_sem] theorem or_2_5 : bits BinOp.or IntKind.i64 2 5 = 7 := by kernel_rfl
@[go_sem] theorem xo_2_6 : bits BinOp.xor IntKind.i64 2 6 = 4 := by kernel_rfl
@[go_sem] theorem or_2_6 : bits BinOp.or IntKind.i64 2 6 = 6 := by kernel_rfl
@[go_sem] theorem xo_2_7 : bits BinOp.xor IntKind.i64 2 7 = 5 := by kernel_rfl
@[go_sem] theorem or_2_7 : bits BinOp.or IntKind.i64 2 7 = 7 := by kernel_rfl
@[go_sem] theorem xo_2_8 : bits BinOp.xor IntKind.i64 2 8 = 10 := by kernel_rfl
@[go_sem] theorem xo_2_9 : bits BinOp.xor IntKind.i64 2 9 = 11 := by kernel_rfl
@[go_sem] theorem xo_2_10 : bits BinOp.xor IntKind.i64 2 10 = 8 := by kernel_rfl
@[go_sem] theorem xo_2_11 : bits BinOp.xor IntKind.i64 2 11 = 9 := by kernel_rfl
@[go_sem] theorem xo_2_12 : bits BinOp.xor IntKind.i64 2 12 = 14 := by kernel_rfl
@[go_sem] theorem xo_2_13 : bits BinOp.xor IntKind.i64 2 13 = 15 := by kernel_rfl
@[go_sem] theorem xo_2_14 : bits BinOp.xor IntKind.i64 2 14 = 12 := by kernel_rfl
@[go_sem] theorem xo_2_15 : bits BinOp.xor IntKind.i64 2 15 = 13 := by kernel_rfl
@[go_sem] theorem an_3_1 : bits BinOp.and IntKind.i64 3 1 = 1 := by kernel_rfl
@[go_sem] theorem an_3_3 : bits BinOp.and IntKind.i64 3 3 = 3 := by kernel_rfl
@[go_sem] theorem an_3_7 : bits BinOp.and IntKind.i64 3 7 = 3 := by kernel_rfl
@[go_sem] theorem an_3_15 : bits BinOp.and IntKind.i64 3 15 = 3 := by kernel_rfl
@[go_sem] theorem xo_3_0 : bits BinOp.xor IntKind.i64 3 0 = 3 := by kernel_rfl
@[go_sem] theorem or_3_0 : bits BinOp.or IntKind.i64 3 0 = 3 := by kernel_rfl
@[go_sem] theorem xo_3_1 : bits BinOp.xor IntKind.i64 3 1 = 2 := by kernel_rfl
@[go_sem] theorem or_3_1 : bits BinOp.or IntKind.i64 3 1 = 3 := by kernel_rfl
@[go_sem] theorem xo_3_2 : bits BinOp.xor IntKind.i64 3 2 = 1 := by kernel_rfl
@[go_sem] theorem or_3_2 : bits BinOp.or IntKind.i64 3 2 = 3 := by kernel_rfl
@[go_sem] theorem xo_3_3 : bits BinOp.xor IntKind.i64 3 3 = 0 := by kernel_rfl
@[go_sem] theorem or_3_3 : bits BinOp.or IntKind.i64 3 3 = 3 := by kernel_rfl
@[go_sem] theorem xo_3_4 : bits BinOp.xor IntKind.i64 3 4 = 7 := by kernel_rfl
@[go_sem] theorem or_3_4 : bits BinOp.or IntKind.i64 3 4 = 7 := by kernel_rfl
@[go_sem] theorem xo_3_5 : bits BinOp.xor IntKind.i64 3 5 = 6 := by kernel_rfl
@[go_sem] theorem or_3_5 : bits BinOp.or IntKind.i64 3 5 = 7 := by kernel_rfl
@[go_sem] theorem xo_3_6 : bits BinOp.xor IntKind.i64 3 6 = 5 := by kernel_rfl
@[go_sem] theorem or_3_6 : bits BinOp.or IntKind.i64 3 6 = 7 := by kernel_rfl
@[go_sem] theorem xo_3_7 : bits BinOp.xor IntKind.i64 3 7 = 4 := by kernel_rfl
@[go_sem] theorem or_3_7 : bits BinOp.or IntKind.i64 3 7 = 7 := by kernel_rfl
@[go_sem] theorem xo_3_8 : bits BinOp.xor IntKind.i64 3 8 = 11 := by kernel_rfl
@[go_sem] theorem xo_3_9 : bits BinOp.xor IntKind.i64 3 9 = 10 := by kernel_rfl
@[go_sem] theorem xo_3_10 : bits BinOp.xor IntKind.i64 3 10 = 9 := by kernel_rfl
@[go_sem] theorem xo_3_11 : bits BinOp.xor IntKind.i64 3 11 = 8 := by kernel_rfl
@[go_sem] theorem xo_3_12 : bits BinOp.xor IntKind.i64 3 12 = 15 := by kernel_rfl
@[go_sem] theorem xo_3_13 : bits BinOp.xor IntKind.i64 3 13 = 14 := by kernel_rfl
@[go_sem] theorem xo_3_14 : bits BinOp.xor IntKind.i64 3 14 = 13 := by kernel_rfl
@[go_sem] theorem xo_3_15 : bits BinOp.xor IntKind.i64 3 15 = 12 := by kernel_rfl
@[go_sem] theorem an_4_1 : bits BinOp.and IntKind.i64 4 1 = 0 := by kernel_rfl
@[go_sem] theorem an_4_3 : bits BinOp.and IntKind.i64 4 3 = 0 := by kernel_rfl
@[go_sem] theorem an_4_7 : bits BinOp.and IntKind.i64 4 7 = 4 := by kernel_rfl
@[go_sem] theorem an_4_15 : bits BinOp.and IntKind.i64 4 15 = 4 := by kernel_rfl
@[go_sem] theorem xo_4_0 : bits BinOp.xor IntKind.i64 4 0 = 4 := by kernel_rfl
@[go_sem] theorem or_4_0 : bits BinOp.or IntKind.i64 4 0 = 4 := by kernel_rfl
@[go_sem] theorem xo_4_1 : bits BinOp.xor IntKind.i64 4 1 = 5 := by kernel_rfl
@[go_sem] theorem or_4_1 : bits BinOp.or IntKind.i64 4 1 = 5 := by kernel_rfl
@[go_sem] theorem xo_4_2 : bits BinOp.xor IntKind.i64 4 2 = 6 := by kernel_rfl
@[go_sem] theorem or_4_2 : bits BinOp.or IntKind.i64 4 2 = 6 := by kernel_rfl
@[go_sem] theorem xo_4_3 : bits BinOp.xor IntKind.i64 4 3 = 7 := by kernel_rfl
@[go_sem] theorem or_4_3 : bits BinOp.or IntKind.i64 4 3 = 7 := by kernel_rfl
@[go_sem] theorem xo_4_4 : bits BinOp.xor IntKind.i64 4 4 = 0 := by kernel_rfl
@[go_sem] theorem or_4_4 : bits BinOp.or IntKind.i64 4 4 = 4 := by kernel_rfl
@[go_sem] theorem xo_4_5 : bits BinOp.xor IntKind.i64 4 5 = 1 := by kernel_rfl
@[go_sem] theorem or_4_5 : bits BinOp.or IntKind.i64 4 5 = 5 := by kernel_rfl
@[go_sem] theorem xo_4_6 : bits BinOp.xor IntKind.i64 4 6 = 2 := by kernel_rfl
@[go_sem] theorem or_4_6 : bits BinOp.or IntKind.i64 4 6 = 6 := by kernel_rfl
@[go_sem] theorem xo_4_7 : bits BinOp.xor IntKind.i64 4 7 = 3 := by kernel_rfl
@[go_sem] theorem or_4_7 : bits BinOp.or IntKind.i64 4 7 = 7 := by kernel_rfl
@[go_sem] theorem xo_4_8 : bits BinOp.xor IntKind.i64 4 8 = 12 := by kernel_rfl
@[go_sem] theorem xo_4_9 : bits BinOp.xor IntKind.i64 4 9 = 13 := by kernel_rfl
@[go_sem] theorem xo_4_10 : bits BinOp.xor IntKind.i64 4 10 = 14 := by kernel_rfl
@[go_sem] theorem xo_4_11 : bits BinOp.xor IntKind.i64 4 11 = 15 := by kernel_rfl
@[go_sem] theorem xo_4_12 : bits BinOp.xor IntKind.i64 4 12 = 8 := by kernel_rfl
@[go_sem] theorem xo_4_13 : bits BinOp.xor IntKind.i64 4 13 = 9 := by kernel_rfl
@[go_sem] theorem xo_4_14 : bits BinOp.xor IntKind.i64 4 14 = 10 := by kernel_rfl
@[go_sem] theorem xo_4_15 : bits BinOp.xor IntKind.i64 4 15 = 11 := by kernel_rfl
@[go_sem] theorem an_5_1 : bits BinOp.and IntKind.i64 5 1 = 1 := by kernel_rfl
@[go_sem] theorem an_5_3 : bits BinOp.and IntKind.i64 5 3 = 1 := by kernel_rfl
@[go_sem] theorem an_5_7 : bits BinOp.and IntKind.i64 5 7 = 5 := by kernel_rfl
@[go_sem] theorem an_5_15 : bits BinOp.and IntKind.i64 5 15 = 5 := by kernel_rfl
@[go_sem] theorem xo_5_0 : bits BinOp.xor IntKind.i64 5 0 = 5 := by kernel_rfl
@[go_sem] theorem or_5_0 : bits BinOp.or IntKind.i64 5 0 = 5 := by kernel_rfl
@[go_sem] theorem xo_5_1 : bits BinOp.xor IntKind.i64 5 1 = 4 := by kernel_rfl
@[go_sem] theorem or_5_1 : bits BinOp.or IntKind.i64 5 1 = 5 := by kernel_rfl
@[go_sem] theorem xo_5_2 : bits BinOp.xor IntKind.i64 5 2 = 7 := by kernel_rfl
@[go_sem] theorem or_5_2 : bits BinOp.or IntKind.i64 5 2 = 7 := by kernel_rfl
@[go_sem] theorem xo_5_3 : bits BinOp.xor IntKind.i64 5 3 = 6 := by kernel_rfl
@[go_sem] theorem or_5_3 : bits BinOp.or IntKind.i64 5 3 = 7 := by kernel_rfl
@[go_sem] theorem xo_5_4 : bits BinOp.xor IntKind.i64 5 4 = 1 := by kernel_rfl
@[go_sem] theorem or_5_4 : bits BinOp.or IntKind.i64 5 4 = 5 := by kernel_rfl
@[go_sem] theorem xo_5_5 : bits BinOp.xor IntKind.i64 5 5 = 0 := by kernel_rfl
@[go_sem] theorem or_5_5 : bits BinOp.or IntKind.i64 5 5 = 5 := by kernel_rfl
@[go_sem] theorem xo_5_6 : bits BinOp.xor IntKind.i64 5 6 = 3 := by kernel_rfl
@[go_sem] theorem or_5_6 : bits BinOp.or IntKind.i64 5 6 = 7 := by kernel_rfl
@[go_sem] theorem xo_5_7 : bits BinOp.xor IntKind.i64 5 7 = 2 := by kernel_rfl
@[go_sem] theorem or_5_7 : bits BinOp.or IntKind.i64 5 7 = 7 := by kernel_rfl
@[go_sem] theorem xo_5_8 : bits BinOp.xor IntKind.i64 5 8 = 13 := by kernel_rfl
@[go_sem] theorem xo_5_9 : bits BinOp.xor IntKind.i64 5 9 = 12 := by kernel_rfl
@[go_sem] theorem xo_5_10 : bits BinOp.xor IntKind.i64 5 10 = 15 := by kernel_rfl
@[go_sem] theorem xo_5_11 : bits BinOp.xor IntKind.i64 5 11 = 14 := by kernel_rfl
@[go_sem] theorem xo_5_12 : bits BinOp.xor IntKind.i64 5 12 = 9 := by kernel_rfl
@[go_sem] theorem xo_5_13 : bits BinOp.xor IntKind.i64 5 13 = 8 := by kernel_rfl
@[go_sem] theorem xo_5_14 : bits BinOp.xor IntKind.i64 5 14 = 11 := by kernel_rfl
@[go_sem] theorem xo_5_15 : bits BinOp.xor IntKind.i64 5 15 = 10 := by kernel_rfl
@[go_sem] theorem an_6_1 : bits BinOp.and IntKind.i64 6 1 = 0 := by kernel_rfl
@[go_sem] theorem an_6_3 : bits BinOp.and IntKind.i64 6 3 = 2 := by kernel_rfl
@[go_sem] theorem an_6_7 : bits BinOp.and IntKind.i64 6 7 = 6 := by kernel_rfl
@[go_sem] theorem an_6_15 : bits BinOp.and IntKind.i64 6 15 = 6 := by kernel_rfl
@[go_sem] theorem xo_6_0 : bits BinOp.xor IntKind.i64 6 0 = 6 := by kernel_rfl
@[go_sem] theorem or_6_0 : bits BinOp.or IntKind.i64 6 0 = 6 := by kernel_rfl
@[go_sem] theorem xo_6_1 : bits BinOp.xor IntKind.i64 6 1 = 7 := by kernel_rfl
@[go_sem] theorem or_6_1 : bits BinOp.or IntKind.i64 6 1 = 7 := by kernel_rfl
@[go_sem] theorem xo_6_2 : bits BinOp.xor IntKind.i64 6 2 = 4 := by kernel_rfl
@[go_sem] theorem or_6_2 : bits BinOp.or IntKind.i64 6 2 = 6 := by kernel_rfl
@[go_sem] theorem xo_6_3 : bits BinOp.xor IntKind.i64 6 3 = 5 := by kernel_rfl
@[go_sem] theorem or_6_3 : bits BinOp.or IntKind.i64 6 3 = 7 := by kernel_rfl
@[go_sem] theorem xo_6_4 : bits BinOp.xor IntKind.i64 6 4 = 2 := by kernel_rfl
@[go_sem] theorem or_6_4 : bits BinOp.or IntKind.i64 6 4 = 6 := by kernel_rfl
@[go_sem] theorem xo_6_5 : bits BinOp.xor IntKind.i64 6 5 = 3 := by kernel_rfl
@[go_sem] theorem or_6_5 : bits BinOp.or IntKind.i64 6 5 = 7 := by kernel_rfl
@[go_sem] theorem xo_6_6 : bits BinOp.xor IntKind.i64 6 6 = 0 := by kernel_rfl
@[go_sem] theorem or_6_6 : bits BinOp.or IntKind.i64 6 6 = 6 := by kernel_rfl
@[go_sem] theorem xo_6_7 : bits BinOp.xor IntKind.i64 6 7 = 1 := by kernel_rfl
@[go_sem] theorem or_6_7 : bits BinOp.or IntKind.i64 6 7 = 7 := by kernel_rfl
@[go_sem] theorem xo_6_8 : bits BinOp.xor IntKind.i64 6 8 = 14 := by kernel_rfl
@[go_sem] theorem xo_6_9 : bits BinOp.xor IntKind.i64 6 9 = 15 := by kernel_rfl
@[go_sem] theorem xo_6_10 : bits BinOp.xor IntKind.i64 6 10 = 12 := by kernel_rfl
@[go_sem] theorem xo_6_11 : bits BinOp.xor IntKind.i64 6 11 = 13 := by kernel_rfl
@[go_sem] theorem xo_6_12 : bits BinOp.xor IntKind.i64 6 12 = 10 := by kernel_rfl
@[go_sem] theorem xo_6_13 : bits BinOp.xor IntKind.i64 6 13 = 11 := by kernel_rfl
@[go_sem] theorem xo_6_14 : bits BinOp.xor IntKind.i64 6 14 = 8 := by kernel_rfl
@[go_sem] theorem xo_6_15 : bits BinOp.xor IntKind.i64 6 15 = 9 := by kernel_rfl
@[go_sem] theorem an_7_1 : bits BinOp.and IntKind.i64 7 1 = 1 := by kernel_rfl
@[go_sem] theorem an_7_3 : bits BinOp.and IntKind.i64 7 3 = 3 := by kernel_rfl
@[go_sem] theorem an_7_7 : bits BinOp.and IntKind.i64 7 7 = 7 := by kernel_rfl
@[go_sem] theorem an_7_15 : bits BinOp.and IntKind.i64 7 15 = 7 := by kernel_rfl
@[go_sem] theorem xo_7_0 : bits BinOp.xor IntKind.i64 7 0 = 7 := by kernel_rfl
@[go_sem] theorem or_7_0 : bits BinOp.or IntKind.i64 7 0 = 7 := by kernel_rfl
@[go_sem] theorem xo_7_1 : bits BinOp.xor IntKind.i64 7 1 = 6 := by kernel_rfl
@[go_sem] theorem or_7_1 : bits BinOp.or IntKind.i64 7 1 = 7 := by kernel_rfl
@[go_sem] theorem xo_7_2 : bits BinOp.xor IntKind.i64 7 2 = 5 := by kernel_rfl
@[go_sem] theorem or_7_2 : bits BinOp.or IntKind.i64 7 2 = 7 := by kernel_rfl
@[go_sem] theorem xo_7_3 : bits BinOp.xor IntKind.i64 7 3 = 4 := by kernel_rfl
@[go_sem] theorem or_7_3 : bits BinOp.or IntKind.i64 7 3 = 7 := by kernel_rfl
@[go_sem] theorem xo_7_4 : bits BinOp.xor IntKind.i64 7 4 = 3 := by kernel_rfl
@[go_sem] theorem or_7_4 : bits BinOp.or IntKind.i64 7 4 = 7 := by kernel_rfl
@[go_sem] theorem xo_7_5 : bits BinOp.xor IntKind.i64 7 5 = 2 := by kernel_rfl
@[go_sem] theorem or_7_5 : bits BinOp.or IntKind.i64 7 5 = 7 := by kernel_rfl
@[go_sem] theorem xo_7_6 : bits BinOp.xor IntKind.i64 7 6 = 1 := by kernel_rfl
@[go_sem] theorem or_7_6 : bits BinOp.or IntKind.i64 7 6 = 7 := by kernel_rfl
@[go_sem] theorem xo_7_7 : bits BinOp.xor IntKind.i64 7 7 = 0 := by kernel_rfl
@[go_sem] theorem or_7_7 : bits BinOp.or IntKind.i64 7 7 = 7 := by kernel_rfl
@[go_sem] theorem xo_7_8 : bits BinOp.xor IntKind.i64 7 8 = 15 := by kernel_rfl
@[go_sem] theorem xo_7_9 : bits BinOp.xor IntKind.i64 7 9 = 14 := by kernel_rfl
@[go_sem] theorem xo_7_10 : bits BinOp.xor IntKind.i64 7 10 = 13 := by kernel_rfl
@[go_sem] theorem xo_7_11 : bits BinOp.xor IntKind.i64 7 11 = 12 := by kernel_rfl
@[go_sem] theorem xo_7_12 : bits BinOp.xor IntKind.i64 7 12 = 11 := by kernel_rfl
@[go_sem] theorem xo_7_13 : bits BinOp.xor IntKind.i64 7 13 = 10 := by kernel_rfl
@[go_sem] theorem xo_7_14 : bits BinOp.xor IntKind.i64 7 14 = 9 := by kernel_rfl
@[go_sem] theorem xo_7_15 : bits BinOp.xor IntKind.i64 7 15 = 8 := by kernel_rfl
@[go_sem] theorem an_8_1 : bits BinOp.and IntKind.i64 8 1 = 0 := by kernel_rfl
@[go_sem] theorem an_8_3 : bits BinOp.and IntKind.i64 8 3 = 0 := by kernel_rfl
@[go_sem] theorem an_8_7 : bits BinOp.and IntKind.i64 8 7 = 0 := by kernel_rfl
@[go_sem] theorem an_8_15 : bits BinOp.and IntKind.i64 8 15 = 8 := by kernel_rfl
@[go_sem] theorem xo_8_0 : bits BinOp.xor IntKind.i64 8 0 = 8 := by kernel_rfl
@[go_sem] theorem or_8_0 : bits BinOp.or IntKind.i64 8 0 = 8 := by kernel_rfl
@[go_sem] theorem xo_8_1 : bits BinOp.xor IntKind.i64 8 1 = 9 := by kernel_rfl
@[go_sem] theorem or_8_1 : bits BinOp.or IntKind.i64 8 1 = 9 := by kernel_rfl
@[go_sem] theorem xo_8_2 : bits BinOp.xor IntKind.i64 8 2 = 10 := by kernel_rfl
@[go_sem] theorem or_8_2 : bits BinOp.or IntKind.i64 8 2 = 10 := by kernel_rfl
@[go_sem] theorem xo_8_3 : bits BinOp.xor IntKind.i64 8 3 = 11 := by kernel_rfl
@[go_sem] theorem or_8_3 : bits BinOp.or IntKind.i64 8 3 = 11 := by kernel_rfl
@[go_sem] theorem xo_8_4 : bits BinOp.xor IntKind.i64 8 4 = 12 := by kernel_rfl
@[go_sem] theorem or_8_4 : bits BinOp.or IntKind.i64 8 4 = 12 := by kernel_rfl
@[go_sem] theorem xo_8_5 : bits BinOp.xor IntKind.i64 8 5 = 13 := by kernel_rfl
@[go_sem] theorem or_8_5 : bits BinOp.or IntKind.i64 8 5 = 13 := by kernel_rfl
@[go_sem] theorem xo_8_6 : bits BinOp.xor IntKind.i64 8 6 = 14 := by kernel_rfl
@[go_sem] theorem or_8_6 : bits BinOp.or IntKind.i64 8 6 = 14 := by kernel_rfl
@[go_sem] theorem xo_8_7 : bits BinOp.xor IntKind.i64 8 7 = 15 := by kernel_rfl
@[go_sem] theorem or_8_7 : bits BinOp.or IntKind.i64 8 7 = 15 := by kernel_rfl
@[go_sem] theorem xo_8_8 : bits BinOp.xor IntKind.i64 8 8 = 0 := by kernel_rfl
@[go_sem] theorem xo_8_9 : bits BinOp.xor IntKind.i64 8 9 = 1 := by kernel_rfl
@[go_sem] theorem xo_8_10 : bits BinOp.xor IntKind.i64 8 10 = 2 := by kernel_rfl
@[go_sem] theorem xo_8_11 : bits BinOp.xor IntKind.i64 8 11 = 3 := by kernel_rfl
@[go_sem] theorem xo_8_12 : bits BinOp.xor IntKind.i64 8 12 = 4 := by kernel_rfl
@[go_sem] theorem xo_8_13 : bits BinOp.xor IntKind.i64 8 13 = 5 := by kernel_rfl
@[go_sem] theorem xo_8_14 : bits BinOp.xor IntKind.i64 8 14 = 6 := by kernel_rfl
@[go_sem] theorem xo_8_15 : bits BinOp.xor IntKind.i64 8 15 = 7 := by kernel_rfl
@[go_sem] theorem an_9_1 : bits BinOp.and IntKind.i64 9 1 = 1 := by kernel_rfl
@[go_sem] theorem an_9_3 : bits BinOp.and IntKind.i64 9 3 = 1 := by kernel_rfl
@[go_sem] theorem an_9_7 : bits BinOp.and IntKind.i64 9 7 = 1 := by kernel_rfl
@[go_sem] theorem an_9_15 : bits BinOp.and IntKind.i64 9 15 = 9 := by kernel_rfl
@[go_sem] theorem xo_9_0 : bits BinOp.xor IntKind.i64 9 0 = 9 := by kernel_rfl
@[go_sem] theorem or_9_0 : bits BinOp.or IntKind.i64 9 0 = 9 := by kernel_rfl
@[go_sem] theorem xo_9_1 : bits BinOp.xor IntKind.i64 9 1 = 8 := by kernel_rfl
@[go_sem] theorem or_9_1 : bits BinOp.or IntKind.i64 9 1 = 9 := by kernel_rfl
@[go_sem] theorem xo_9_2 : bits BinOp.xor IntKind.i64 9 2 = 11 := by kernel_rfl
@[go_sem] theorem or_9_2 : bits BinOp.or IntKind.i64 9 2 = 11 := by kernel_rfl
@[go_sem] theorem xo_9_3 : bits BinOp.xor IntKind.i64 9 3 = 10 := by kernel_rfl
@[go_sem] theorem or_9_3 : bits BinOp.or IntKind.i64 9 3 = 11 := by kernel_rfl
@[go_sem] theorem xo_9_4 : bits BinOp.xor IntKind.i64 9 4 = 13 := by kernel_rfl
@[go_sem] theorem or_9_4 : bits BinOp.or IntKind.i64 9 4 = 13 := by kernel_rfl
@[go_sem] theorem xo_9_5 : bits BinOp.xor IntKind.i64 9 5 = 12 := by kernel_rfl
@[go_sem] theorem or_9_5 : bits BinOp.or IntKind.i64 9 5 = 13 := by kernel_rfl
@[go_sem] theorem xo_9_6 : bits BinOp.xor IntKind.i64 9 6 = 15 := by kernel_rfl
@[go_sem] theorem or_9_6 : bits BinOp.or IntKind.i64 9 6 = 15 := by kernel_rfl
@[go_sem] theorem xo_9_7 : bits BinOp.xor IntKind.i64 9 7 = 14 := by kernel_rfl
@[go_sem] theorem or_9_7 : bits BinOp.or IntKind.i64 9 7 = 15 := by kernel_rfl
@[go_sem] theorem xo_9_8 : bits BinOp.xor IntKind.i64 9 8 = 1 := by kernel_rfl
@[go_sem] theorem xo_9_9 : bits BinOp.xor IntKind.i64 9 9 = 0 := by kernel_rfl
@[go_sem] theorem xo_9_10 : bits BinOp.xor IntKind.i64 9 10 = 3 := by kernel_rfl
@[go_sem] theorem xo_9_11 : bits BinOp.xor IntKind.i64 9 11 = 2 := by kernel_rfl
@[go_sem] theorem xo_9_12 : bits BinOp.xor IntKind.i64 9 12 = 5 := by kernel_rfl
@[go_sem] theorem xo_9_13 : bits BinOp.xor IntKind.i64 9 13 = 4 := by kernel_rfl
@[go_sem] theorem xo_9_14 : bits BinOp.xor IntKind.i64 9 14 = 7 := by kernel_rfl
@[go_sem] theorem xo_9_15 : bits BinOp.xor IntKind.i64 9 15 = 6 := by kernel_rfl
@[go_sem] theorem an_10_1 : bits BinOp.and IntKind.i64 10 1 = 0 := by kernel_rfl
@[go_sem] theorem an_10_3 : bits BinOp.and IntKind.i64 10 3 = 2 := by kernel_rfl
@[go_sem] theorem an_10_7 : bits BinOp.and IntKind.i64 10 7 = 2 := by kernel_rfl
@[go_sem] theorem an_10_15 : bits BinOp.and IntKind.i64 10 15 = 10 := by kernel_rfl
@[go_sem] theorem xo_10_0 : bits BinOp.xor IntKind.i64 10 0 = 10 := by kernel_rfl
@[go_sem] theorem or_10_0 : bits BinOp.or IntKind.i64 10 0 = 10 := by kernel_rfl
@[go_sem] theorem xo_10_1 : bits BinOp.xor IntKind.i64 10 1 = 11 := by kernel_rfl
@[go_sem] theorem or_10_1 : bits BinOp.or IntKind.i64 10 1 = 11 := by kernel_rfl
@[go_sem] theorem xo_10_2 : bits BinOp.xor IntKind.i64 10 2 = 8 := by kernel_rfl
@[go_sem] theorem or_10_2 : bits BinOp.or IntKind.i64 10 2 = 10 := by kernel_rfl
@[go_sem] theorem xo_10_3 : bits BinOp.xor IntKind.i64 10 3 = 9 := by kernel_rfl
@[go_sem] theorem or_10_3 : bits BinOp.or IntKind.i64 10 3 = 11 := by kernel_rfl
@[go_sem] theorem xo_10_4 : bits BinOp.xor IntKind.i64 10 4 = 14 := by kernel_rfl
@[go_sem] theorem or_10_4 : bits BinOp.or IntKind.i64 10 4 = 14 := by kernel_rfl
@[go_sem] theorem xo_10_5 : bits BinOp.xor IntKind.i64 10 5 = 15 := by kernel_rfl
@[go_sem] theorem or_10_5 : bits BinOp.or IntKind.i64 10 5 = 15 := by kernel_rfl
@[go_sem] theorem xo_10_6 : bits BinOp.xor IntKind.i64 10 6 = 12 := by kernel_rfl
@[go_sem] theorem or_10_6 : bits BinOp.or IntKind.i64 10 6 = 14 := by kernel_rfl
@[go_sem] theorem xo_10_7 : bits BinOp.xor IntKind.i64 10 7 = 13 := by kernel_rfl
@[go_sem] theorem or_10_7 : bits BinOp.or IntKind.i64 10 7 = 15 := by kernel_rfl
@[go_sem] theorem xo_10_8 : bits BinOp.xor IntKind.i64 10 8 = 2 := by kernel_rfl
@[go_sem] theorem xo_10_9 : bits BinOp.xor IntKind.i64 10 9 = 3 := by kernel_rfl
@[go_sem] theorem xo_10_10 : bits BinOp.xor IntKind.i64 10 10 = 0 := by kernel_rfl
@[go_sem] theorem xo_10_11 : bits BinOp.xor IntKind.i64 10 11 = 1 := by kernel_rfl
@[go_sem] theorem xo_10_12 : bits BinOp.xor IntKind.i64 10 12 = 6 := by kernel_rfl
@[go_sem] theorem xo_10_13 : bits BinOp.xor IntKind.i64 10 13 = 7 := by kernel_rfl
@[go_sem] theorem xo_10_14 : bits BinOp.xor IntKind.i64 10 14 = 4 := by kernel_rfl
@[go_sem] theorem xo_10_15 : bits BinOp.xor IntKind.i64 10 15 = 5 := by kernel_rfl
@[go_sem] theorem an_11_1 : bits BinOp.and IntKind.i64 11 1 = 1 := by kernel_rfl
@[go_sem] theorem an_11_3 : bits BinOp.and IntKind.i64 11 3 = 3 := by kernel_rfl
@[go_sem] theorem an_11_7 : bits BinOp.and IntKind.i64 11 7 = 3 := by kernel_rfl
@[go_sem] theorem an_11_15 : bits BinOp.and IntKind.i64 11 15 = 11 := by kernel_rfl
@[go_sem] theorem xo_11_0 : bits BinOp.xor IntKind.i64 11 0 = 11 := by kernel_rfl
@[go_sem] theorem or_11_0 : bits BinOp.or IntKind.i64 11 0 = 11 := by kernel_rfl
@[go_sem] theorem xo_11_1 : bits BinOp.xor IntKind.i64 11 1 = 10 := by kernel_rfl
@[go_sem] theorem or_11_1 : bits BinOp.or IntKind.i64 11 1 = 11 := by kernel_rfl
@[go_sem] theorem xo_11_2 : bits BinOp.xor IntKind.i64 11 2 = 9 := by kernel_rfl
@[go_sem] theorem or_11_2 : bits BinOp.or IntKind.i64 11 2 = 11 := by kernel_rfl
@[go_sem] theorem xo_11_3 : bits BinOp.xor IntKind.i64 11 3 = 8 := by kernel_rfl
@[go_sem] theorem or_11_3 : bits BinOp.or IntKind.i64 11 3 = 11 := by kernel_rfl
@[go_sem] theorem xo_11_4 : bits BinOp.xor IntKind.i64 11 4 = 15 := by kernel_rfl
@[go_sem] theorem or_11_4 : bits BinOp.or IntKind.i64 11 4 = 15 := by kernel_rfl
@[go_sem] theorem xo_11_5 : bits BinOp.xor IntKind.i64 11 5 = 14 := by kernel_rfl
@[go_sem] theorem or_11_5 : bits BinOp.or IntKind.i64 11 5 = 15 := by kernel_rfl
@[go_sem] theorem xo_11_6 : bits BinOp.xor IntKind.i64 11 6 = 13 := by kernel_rfl
@[go_sem] theorem or_11_6 : bits BinOp.or IntKind.i64 11 6 = 15 := by kernel_rfl
@[go_sem] theorem xo_11_7 : bits BinOp.xor IntKind.i64 11 7 = 12 := by kernel_rfl
@[go_sem] theorem or_11_7 : bits BinOp.or IntKind.i64 11 7 = 15 := by kernel_rfl
@[go_sem] theorem xo_11_8 : bits BinOp.xor IntKind.i64 11 8 = 3 := by kernel_rfl
@[go_sem] theorem xo_11_9 : bits BinOp.xor IntKind.i64 11 9 = 2 := by kernel_rfl
@[go_sem] theorem xo_11_10 : bits BinOp.xor IntKind.i64 11 10 = 1 := by kernel_rfl
@[go_sem] theorem xo_11_11 : bits BinOp.xor IntKind.i64 11 11 = 0 := by kernel_rfl
@[go_sem] theorem xo_11_12 : bits BinOp.xor IntKind.i64 11 12 = 7 := by kernel_rfl
@[go_sem] theorem xo_11_13 : bits BinOp.xor IntKind.i64 11 13 = 6 := by kernel_rfl
@[go_sem] theorem xo_11_14 : bits BinOp.xor IntKind.i64 11 14 = 5 := by kernel_rfl
@[go_sem] theorem xo_11_15 : bits BinOp.xor IntKind.i64 11 15 = 4 := by kernel_rfl
@[go_sem] theorem an_12_1 : bits BinOp.and IntKind.i64 12 1 = 0 := by kernel_rfl
@[go_sem] theorem an_12_3 : bits BinOp.and IntKind.i64 12 3 = 0 := by kernel_rfl
@[go_sem] theorem an_12_7 : bits BinOp.and IntKind.i64 12 7 = 4 := by kernel_rfl
@[go_sem] theorem an_12_15 : bits BinOp.and IntKind.i64 12 15 = 12 := by kernel_rfl
@[go_sem] theorem xo_12_0 : bits BinOp.xor IntKind.i64 12 0 = 12 := by kernel_rfl
@[go_sem] theorem or_12_0 : bits BinOp.or IntKind.i64 12 0 = 12 := by kernel_rfl
@[go_sem] theorem xo_12_1 : bits BinOp.xor IntKind.i64 12 1 = 13 := by kernel_rfl
@[go_sem] theorem or_12_1 : bits BinOp.or IntKind.i64 12 1 = 13 := by kernel_rfl
@[go_sem] theorem xo_12_2 : bits BinOp.xor IntKind.i64 12 2 = 14 := by kernel_rfl
@[go_sem] theorem or_12_2 : bits BinOp.or IntKind.i64 12 2 = 14 := by kernel_rfl
@[go_sem] theorem xo_12_3 : bits BinOp.xor IntKind.i64 12 3 = 15 := by kernel_rfl
@[go_sem] theorem or_12_3 : bits BinOp.or IntKind.i64 12 3 = 15 := by kernel_rfl
@[go_sem] theorem xo_12_4 : bits BinOp.xor IntKind.i64 12 4 = 8 := by kernel_rfl
@[go_sem] theorem or_12_4 : bits BinOp.or IntKind.i64 12 4 = 12 := by kernel_rfl
@[go_sem] theorem xo_12_5 : bits BinOp.xor IntKind.i64 12 5 = 9 := by kernel_rfl
@[go_sem] theorem or_12_5 : bits BinOp.or IntKind.i64 12 5 = 13 := by kernel_rfl
@[go_sem] theorem xo_12_6 : bits BinOp.xor IntKind.i64 12 6 = 10 := by kernel_rfl
@[go_sem] theorem or_12_6 : bits BinOp.or IntKind.i64 12 6 = 14 := by kernel_rfl
@[go_sem] theorem xo_12_7 : bits BinOp.xor IntKind.i64 12 7 = 11 := by kernel_rfl
@[go_sem] theorem or_12_7 : bits BinOp.or IntKind.i64 12 7 = 15 := by kernel_rfl
@[go_sem] theorem xo_12_8 : bits BinOp.xor IntKind.i64 12 8 = 4 := by kernel_rfl
@[go_sem] theorem xo_12_9 : bits BinOp.xor IntKind.i64 12 9 = 5 := by kernel_rfl
@[go_sem] theorem xo_12_10 : bits BinOp.xor IntKind.i64 12 10 = 6 := by kernel_rfl
@[go_sem] theorem xo_12_11 : bits BinOp.xor IntKind.i64 12 11 = 7 := by kernel_rfl
@[go_sem] theorem xo_12_12 : bits BinOp.xor IntKind.i64 12 12 = 0 := by kernel_rfl
@[go_sem] theorem xo_12_13 : bits BinOp.xor IntKind.i64 12 13 = 1 := by kernel_rfl
@[go_sem] theorem xo_12_14 : bits BinOp.xor IntKind.i64 12 14 = 2 := by kernel_rfl
@[go_sem] theorem xo_12_15 : bits BinOp.xor IntKind.i64 12 15 = 3 := by kernel_rfl
@[go_sem] theorem an_13_1 : bits BinOp.and IntKind.i64 13 1 = 1 := by kernel_rfl
@[go_sem] theorem an_13_3 : bits BinOp.and IntKind.i64 13 3 = 1 := by kernel_rfl
@[go_sem] theorem an_13_7 : bits BinOp.and IntKind.i64 13 7 = 5 := by kernel_rfl
@[go_sem] theorem an_13_15 : bits BinOp.and IntKind.i64 13 15 = 13 := by kernel_rfl
@[go_sem] theorem xo_13_0 : bits BinOp.xor IntKind.i64 13 0 = 13 := by kernel_rfl
@[go_sem] theorem or_13_0 : bits BinOp.or IntKind.i64 13 0 = 13 := by kernel_rfl
@[go_sem] theorem xo_13_1 : bits BinOp.xor IntKind.i64 13 1 = 12 := by kernel_rfl
@[go_sem] theorem or_13_1 : bits BinOp.or IntKind.i64 13 1 = 13 := by kernel_rfl
@[go_sem] theorem xo_13_2 : bits BinOp.xor IntKind.i64 13 2 = 15 := by kernel_rfl
@[go_sem] theorem or_13_2 : bits BinOp.or IntKind.i64 13 2 = 15 := by kernel_rfl
@[go_sem] theorem xo_13_3 : bits BinOp.xor IntKind.i64 13 3 = 14 := by kernel_rfl
@[go_sem] theorem or_13_3 : bits BinOp.or IntKind.i64 13 3 = 15 := by kernel_rfl
@[go_sem] theorem xo_13_4 : bits BinOp.xor IntKind.i64 13 4 = 9 := by kernel_rfl
@[go_sem] theorem or_13_4 : bits BinOp.or IntKind.i64 13 4 = 13 := by kernel_rfl
@[go_sem] theorem xo_13_5 : bits BinOp.xor IntKind.i64 13 5 = 8 := by kernel_rfl
@[go_sem] theorem or_13_5 : bits BinOp.or IntKind.i64 13 5 = 13 := by kernel_rfl
@[go_sem] theorem xo_13_6 : bits BinOp.xor IntKind.i64 13 6 = 11 := by kernel_rfl
@[go_sem] theorem or_13_6 : bits BinOp.or IntKind.i64 13 6 = 15 := by kernel_rfl
@[go_sem] theorem xo_13_7 : bits BinOp.xor IntKind.i64 13 7 = 10 := by kernel_rfl
@[go_sem] theorem or_13_7 : bits BinOp.or IntKind.i64 13 7 = 15 := by kernel_rfl
@[go_sem] theorem xo_13_8 : bits BinOp.xor IntKind.i64 13 8 = 5 := by kernel_rfl
@[go_sem] theorem xo_13_9 : bits BinOp.xor IntKind.i64 13 9 = 4 := by kernel_rfl
@[go_sem] theorem xo_13_10 : bits BinOp.xor IntKind.i64 13 10 = 7 := by kernel_rfl
@[go_sem] theorem xo_13_11 : bits BinOp.xor IntKind.i64 13 11 = 6 := by kernel_rfl
@[go_sem] theorem xo_13_12 : bits BinOp.xor IntKind.i64 13 12 = 1 := by kernel_rfl
@[go_sem] theorem xo_13_13 : bits BinOp.xor IntKind.i64 13 13 = 0 := by kernel_rfl
@[go_sem] theorem xo_13_14 : bits BinOp.xor IntKind.i64 13 14 = 3 := by kernel_rfl
@[go_sem] theorem xo_13_15 : bits BinOp.xor IntKind.i64 13 15 = 2 := by kernel_rfl
@[go_sem] theorem an_14_1 : bits BinOp.and IntKind.i64 14 1 = 0 := by kernel_rfl
@[go_sem] theorem an_14_3 : bits BinOp.and IntKind.i64 14 3 = 2 := by kernel_rfl
@[go_sem] theorem an_14_7 : bits BinOp.and IntKind.i64 14 7 = 6 := by kernel_rfl
@[go_sem] theorem an_14_15 : bits BinOp.and IntKind.i64 14 15 = 14 := by kernel_rfl
@[go_sem] theorem xo_14_0 : bits BinOp.xor IntKind.i64 14 0 = 14 := by kernel_rfl
@[go_sem] theorem or_14_0 : bits BinOp.or IntKind.i64 14 0 = 14 := by kernel_rfl
@[go_sem] theorem xo_14_1 : bits BinOp.xor IntKind.i64 14 1 = 15 := by kernel_rfl
@[go_sem] theorem or_14_1 : bits BinOp.or IntKind.i64 14 1 = 15 := by kernel_rfl
@[go_sem] theorem xo_14_2 : bits BinOp.xor IntKind.i64 14 2 = 12 := by kernel_rfl
@[go_sem] theorem or_14_2 : bits BinOp.or IntKind.i64 14 2 = 14 := by kernel_rfl
@[go_sem] theorem xo_14_3 : bits BinOp.xor IntKind.i64 14 3 = 13 := by kernel_rfl
@[go_sem] theorem or_14_3 : bits BinOp.or IntKind.i64 14 3 = 15 := by kernel_rfl
@[go_sem] theorem xo_14_4 : bits BinOp.xor IntKind.i64 14 4 = 10 := by kernel_rfl
@[go_sem] theorem or_14_4 : bits BinOp.or IntKind.i64 14 4 = 14 := by kernel_rfl
@[go_sem] theorem xo_14_5 : bits BinOp.xor IntKind.i64 14 5 = 11 := by kernel_rfl
@[go_sem] theorem or_14_5 : bits BinOp.or IntKind.i64 14 5 = 15 := by kernel_rfl
@[go_sem] theorem xo_14_6 : bits BinOp.xor IntKind.i64 14 6 = 8 := by kernel_rfl
@[go_sem] theorem or_14_6 : bits BinOp.or IntKind.i64 14 6 = 14 := by kernel_rfl
@[go_sem] theorem xo_14_7 : bits BinOp.xor IntKind.i64 14 7 = 9 := by kernel_rfl
@[go_sem] theorem or_14_7 : bits BinOp.or IntKind.i64 14 7 = 15 := by kernel_rfl
@[go_sem] theorem xo_14_8 : bits BinOp.xor IntKind.i64 14 8 = 6 := by kernel_rfl
@[go_sem] theorem xo_14_9 : bits BinOp.xor IntKind.i64 14 9 = 7 := by kernel_rfl
@[go_sem] theorem xo_14_10 : bits BinOp.xor IntKind.i64 14 10 = 4 := by kernel_rfl
@[go_sem] theorem xo_14_11 : bits BinOp.xor IntKind.i64 14 11 = 5 := by kernel_rfl
@[go_sem] theorem xo_14_12 : bits BinOp.xor IntKind.i64 14 12 = 2 := by kernel_rfl
@[go_sem] theorem xo_14_13 : bits BinOp.xor IntKind.i64 14 13 = 3 := by kernel_rfl
@[go_sem] theorem xo_14_14 : bits BinOp.xor IntKind.i64 14 14 = 0 := by kernel_rfl
@[go_sem] theorem xo_14_15 : bits BinOp.xor IntKind.i64 14 15 = 1 := by kernel_rfl
@[go_sem] theorem an_15_1 : bits BinOp.and IntKind.i64 15 1 = 1 := by kernel_rfl
@[go_sem] theorem an_15_3 : bits BinOp.and IntKind.i64 15 3 = 3 := by kernel_rfl
@[go_sem] theorem an_15_7 : bits BinOp.and IntKind.i64 15 7 = 7 := by kernel_rfl
@[go_sem] theorem an_15_15 : bits BinOp.and IntKind.i64 15 15 = 15 := by kernel_rfl
@[go_sem] theorem xo_15_0 : bits BinOp.xor IntKind.i64 15 0 = 15 := by kernel_rfl
@[go_sem] theorem or_15_0 : bits BinOp.or IntKind.i64 15 0 = 15 := by kernel_rfl
@[go_sem] theorem xo_15_1 : bits BinOp.xor IntKind.i64 15 1 = 14 := by kernel_rfl
@[go_sem] theorem or_15_1 : bits BinOp.or IntKind.i64 15 1 = 15 := by kernel_rfl
@[go_sem] theorem xo_15_2 : bits BinOp.xor IntKind.i64 15 2 = 13 := by kernel_rfl
@[go_sem] theorem or_15_2 : bits BinOp.or IntKind.i64 15 2 = 15 := by kernel_rfl
@[go_sem] theorem xo_15_3 : bits BinOp.xor IntKind.i64 15 3 = 12 := by kernel_rfl
@[go_sem] theorem or_15_3 : bits BinOp.or IntKind.i64 15 3 = 15 := by kernel_rfl
@[go_sem] theorem xo_15_4 : bits BinOp.xor IntKind.i64 15 4 = 11 := by kernel_rfl
@[go_sem] theorem or_15_4 : bits BinOp.or IntKind.i64 15 4 = 15 := by kernel_rfl
@[go_sem] theorem xo_15_5 : bits BinOp.xor IntKind.i64 15 5 = 10 := by kernel_rfl
@[go_sem] theorem or_15_5 : bits BinOp.or IntKind.i64 15 5 = 15 := by kernel_rfl
@[go_sem] theorem xo_15_6 : bits BinOp.xor IntKind.i64 15 6 = 9 := by kernel_rfl
@[go_sem] theorem or_15_6 : bits BinOp.or IntKind.i64 15 6 = 15 := by kernel_rfl
@[go_sem] theorem xo_15_7 : bits BinOp.xor IntKind.i64 15 7 = 8 := by kernel_rfl
@[go_sem] theorem or_15_7 : bits BinOp.or IntKind.i64 15 7 = 15 := by kernel_rfl
@[go_sem] theorem xo_15_8 : bits BinOp.xor IntKind.i64 15 8 = 7 := by kernel_rfl
@[go_sem] theorem xo_15_9 : bits BinOp.xor IntKind.i64 15 9 = 6 := by kernel_rfl
@[go_sem] theorem xo_15_10 : bits BinOp.xor IntKind.i64 15 10 = 5 := by kernel_rfl
@[go_sem] theorem xo_15_11 : bits BinOp.xor IntKind.i64 15 11 = 4 := by kernel_rfl
@[go_sem] theorem xo_15_12 : bits BinOp.xor IntKind.i64 15 12 = 3 := by kernel_rfl
@[go_sem] theorem xo_15_13 : bits BinOp.xor IntKind.i64 15 13 = 2 := by kernel_rfl
@[go_sem] theorem xo_15_14 : bits BinOp.xor IntKind.i64 15 14 = 1 := by kernel_rfl
@[go_sem] theorem xo_15_15 : bits BinOp.xor IntKind.i64 15 15 = 0 := by kernel_rfl

/-- Gray's code -/
def gB (p k : Nat) : Int := (((p >>> k) ^^^ (p >>> (k + 1))) &&& 1 : Nat)
def gC (d p : Nat) : List Int := (List.range d).map (gB p)
theorem IB.cast {g : Nat} {xs ys : List Int} {w : World} (h : IB g xs w) (e : xs = ys) : IB g ys w := e ▸ h
theorem IB.made (w : World) (m : Nat) : IB w.heap.size (List.replicate m 0) (w.alloc (.cells (madeCells #[.int .i64 0] m) 3)) := by
  refine ⟨by simp, fun i x hi => ?_⟩
  have hx : i < m ∧ x = 0 := by
    rw [List.getElem?_replicate] at hi
    split at hi
    · next h => exact ⟨h, by simpa using hi.symm⟩
    · cases hi
  obtain ⟨h1, rfl⟩ := hx
  refine ⟨?_, by go_simp⟩
  rw [cell_of_row _ _ _ _ _ _ (heap_alloc_new w _)]
  have h2 : i % 1 = 0 := Nat.mod_one i
  simp [madeCells, h1, h2]
theorem infoI : (Tryd.prog.info? 3).map (fun i => (i.zero, i.size, i.bytes)) = some (some (.int .i64 0), 1, 8) := by kernel_rfl
theorem undI : Tryd.prog.underlying 22 = some (.slice 3) := by kernel_rfl
/-- a piece of code that does not panic: what is behind a panic need not be shown -/
theorem wp_normal {P : Program} {c : Code} {Q : Exit → Act → World → Prop} {a : Act} {w : World} (h : c.wp P (Exit.then (fun a w => Q .normal a w) fun _ _ _ => False) a w) : c.wp P Q a w :=
  Code.wp_mono (fun e a w hq => by cases e <;> first | exact hq | exact False.elim hq) h
def CoQ (d p : Nat) (w : World) (e : Ending) (w' : World) : Prop := ∃ g, e = .returned (.slice (some ⟨g, 0, none⟩) d d) ∧ Grow w w' ∧ IB g (gC d p) w'
end Go.Proofs.YtkcpjndelcfmhaaDoor
