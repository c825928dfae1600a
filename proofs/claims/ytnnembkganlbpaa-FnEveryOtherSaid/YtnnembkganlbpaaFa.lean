/- Closed facts on the program: its types, the places of fields, its functions (laid by a program). -/
import Derived.Test.YtnnembkganlbpaaProg
import Derived.Test.YtnnembkganlbpaaRm
namespace Go.Proofs.Ytnnembkganlbpaa
open Go Go.Wk
theorem mix : Try.prog.follows .mixedOrders = true := by kernel_rfl
theorem fo_26_0 : fieldOff Try.prog 26 0 = some 0 := by kernel_rfl
theorem fo_26_1 : fieldOff Try.prog 26 1 = some 1 := by kernel_rfl
theorem fo_26_2 : fieldOff Try.prog 26 2 = some 2 := by kernel_rfl
theorem fo_26_3 : fieldOff Try.prog 26 3 = some 3 := by kernel_rfl
theorem fo_26_4 : fieldOff Try.prog 26 4 = some 4 := by kernel_rfl
theorem fo_26_5 : fieldOff Try.prog 26 5 = some 5 := by kernel_rfl
theorem fo_36_0 : fieldOff Try.prog 36 0 = some 0 := by kernel_rfl
theorem fo_36_1 : fieldOff Try.prog 36 1 = some 1 := by kernel_rfl
theorem fo_36_2 : fieldOff Try.prog 36 2 = some 2 := by kernel_rfl
theorem fo_45_0 : fieldOff Try.prog 45 0 = some 0 := by kernel_rfl
theorem fo_45_1 : fieldOff Try.prog 45 1 = some 1 := by kernel_rfl
theorem fo_77_0 : fieldOff Try.prog 77 0 = some 0 := by kernel_rfl
theorem fo_79_1 : fieldOff Try.prog 79 1 = some 0 := by kernel_rfl
theorem fo_81_0 : fieldOff Try.prog 81 0 = some 0 := by kernel_rfl
theorem fo_81_1 : fieldOff Try.prog 81 1 = some 2 := by kernel_rfl
theorem fo_84_0 : fieldOff Try.prog 84 0 = some 0 := by kernel_rfl
theorem fo_84_1 : fieldOff Try.prog 84 1 = some 1 := by kernel_rfl
theorem fo_87_0 : fieldOff Try.prog 87 0 = some 0 := by kernel_rfl
theorem fo_87_1 : fieldOff Try.prog 87 1 = some 1 := by kernel_rfl
theorem fo_87_2 : fieldOff Try.prog 87 2 = some 2 := by kernel_rfl
theorem fo_87_3 : fieldOff Try.prog 87 3 = some 3 := by kernel_rfl
theorem fo_89_0 : fieldOff Try.prog 89 0 = some 0 := by kernel_rfl
theorem fo_89_1 : fieldOff Try.prog 89 1 = some 1 := by kernel_rfl
theorem fo_103_0 : fieldOff Try.prog 103 0 = some 0 := by kernel_rfl
theorem fo_103_1 : fieldOff Try.prog 103 1 = some 1 := by kernel_rfl
theorem fo_103_2 : fieldOff Try.prog 103 2 = some 2 := by kernel_rfl
theorem fo_116_0 : fieldOff Try.prog 116 0 = some 0 := by kernel_rfl
theorem fo_116_1 : fieldOff Try.prog 116 1 = some 2 := by kernel_rfl
theorem pl_2 : plainT Try.prog 2 = true := by kernel_rfl
theorem pl_3 : plainT Try.prog 3 = true := by kernel_rfl
theorem pl_4 : plainT Try.prog 4 = true := by kernel_rfl
theorem pl_21 : plainT Try.prog 21 = true := by kernel_rfl
theorem pl_34 : plainT Try.prog 34 = true := by kernel_rfl
theorem pl_59 : plainT Try.prog 59 = true := by kernel_rfl
theorem pl_62 : plainT Try.prog 62 = true := by kernel_rfl
theorem pl_66 : plainT Try.prog 66 = true := by kernel_rfl
theorem pl_69 : plainT Try.prog 69 = true := by kernel_rfl
theorem pl_72 : plainT Try.prog 72 = true := by kernel_rfl
theorem pl_82 : plainT Try.prog 82 = true := by kernel_rfl
theorem pl_85 : plainT Try.prog 85 = true := by kernel_rfl
theorem pl_100 : plainT Try.prog 100 = true := by kernel_rfl
theorem pl_101 : plainT Try.prog 101 = true := by kernel_rfl
theorem ag_26 : aggT Try.prog 26 6 = true := by kernel_rfl
theorem ag_36 : aggT Try.prog 36 3 = true := by kernel_rfl
theorem ag_45 : aggT Try.prog 45 2 = true := by kernel_rfl
theorem ag_60 : aggT Try.prog 60 8 = true := by kernel_rfl
theorem ag_84 : aggT Try.prog 84 2 = true := by kernel_rfl
theorem ag_87 : aggT Try.prog 87 4 = true := by kernel_rfl
theorem ag_89 : aggT Try.prog 89 2 = true := by kernel_rfl
theorem ag_116 : aggT Try.prog 116 3 = true := by kernel_rfl
theorem sl_22 : sliceT Try.prog 22 2 1 = true := by kernel_rfl
theorem sl_24 : sliceT Try.prog 24 26 6 = true := by kernel_rfl
theorem sl_28 : sliceT Try.prog 28 36 3 = true := by kernel_rfl
theorem sl_34 : sliceT Try.prog 34 45 2 = true := by kernel_rfl
theorem sl_72 : sliceT Try.prog 72 85 1 = true := by kernel_rfl
theorem sl_100 : sliceT Try.prog 100 45 2 = true := by kernel_rfl
theorem sl_101 : sliceT Try.prog 101 85 1 = true := by kernel_rfl
theorem zr_2 : zeroOf Try.prog 2 = some (.int .i64 0) := by kernel_rfl
theorem zr_26 : zeroOf Try.prog 26 = some (.agg #[.int .i64 0, .int .i64 0, .int .i64 0, .int .i64 0, .int .i64 0, .int .i64 0]) := by kernel_rfl
theorem zr_36 : zeroOf Try.prog 36 = some (.agg #[.bool false, .int .i64 0, .slice none 0 0]) := by kernel_rfl
theorem zr_45 : zeroOf Try.prog 45 = some (.agg #[.int .i64 0, .int .i64 0]) := by kernel_rfl
theorem zr_60 : zeroOf Try.prog 60 = some (.agg #[.pointer none, .pointer none, .pointer none, .pointer none, .pointer none, .pointer none, .pointer none, .pointer none]) := by kernel_rfl
theorem zr_84 : zeroOf Try.prog 84 = some (.agg #[.pointer none, .nilFunc]) := by kernel_rfl
theorem zr_85 : zeroOf Try.prog 85 = some (.pointer none) := by kernel_rfl
theorem zr_87 : zeroOf Try.prog 87 = some (.agg #[.int .i64 0, .int .i64 0, .pointer none, .pointer none]) := by kernel_rfl
theorem zr_89 : zeroOf Try.prog 89 = some (.agg #[.slice none 0 0, .int .i64 0]) := by kernel_rfl
theorem zr_103 : zeroOf Try.prog 103 = some (.agg #[.slice none 0 0, .slice none 0 0, .pointer none]) := by kernel_rfl
theorem zr_116 : zeroOf Try.prog 116 = some (.agg #[.int .i64 0, .int .i64 0, .bool false]) := by kernel_rfl
theorem zc_2 : zeroC Try.prog 2 = some #[.int .i64 0] := by kernel_rfl
theorem zc_26 : zeroC Try.prog 26 = some #[.int .i64 0, .int .i64 0, .int .i64 0, .int .i64 0, .int .i64 0, .int .i64 0] := by kernel_rfl
theorem zc_36 : zeroC Try.prog 36 = some #[.bool false, .int .i64 0, .slice none 0 0] := by kernel_rfl
theorem zc_45 : zeroC Try.prog 45 = some #[.int .i64 0, .int .i64 0] := by kernel_rfl
theorem zc_60 : zeroC Try.prog 60 = some #[.pointer none, .pointer none, .pointer none, .pointer none, .pointer none, .pointer none, .pointer none, .pointer none] := by kernel_rfl
theorem zc_84 : zeroC Try.prog 84 = some #[.pointer none, .nilFunc] := by kernel_rfl
theorem zc_85 : zeroC Try.prog 85 = some #[.pointer none] := by kernel_rfl
theorem zc_87 : zeroC Try.prog 87 = some #[.int .i64 0, .int .i64 0, .pointer none, .pointer none] := by kernel_rfl
theorem zc_89 : zeroC Try.prog 89 = some #[.slice none 0 0, .int .i64 0] := by kernel_rfl
theorem zc_103 : zeroC Try.prog 103 = some #[.slice none 0 0, .slice none 0 0, .pointer none] := by kernel_rfl
theorem zc_116 : zeroC Try.prog 116 = some #[.int .i64 0, .int .i64 0, .bool false] := by kernel_rfl
theorem pt_82 : ptrT Try.prog 82 = true := by kernel_rfl
theorem pt_85 : ptrT Try.prog 85 = true := by kernel_rfl
theorem by_2 : Try.prog.bytesOf 2 = 8 := by kernel_rfl
theorem by_26 : Try.prog.bytesOf 26 = 48 := by kernel_rfl
theorem by_36 : Try.prog.bytesOf 36 = 40 := by kernel_rfl
theorem by_45 : Try.prog.bytesOf 45 = 16 := by kernel_rfl
theorem by_85 : Try.prog.bytesOf 85 = 8 := by kernel_rfl
theorem bl_4 : Try.prog.underlying 4 = some .bool := by kernel_rfl
theorem ck_20 : CallOk Try.prog 20 := callOk_of Try.func20 rfl (by kernel_rfl)
theorem ck_21 : CallOk Try.prog 21 := callOk_of Try.func21 rfl (by kernel_rfl)
theorem ck_22 : CallOk Try.prog 22 := callOk_of Try.func22 rfl (by kernel_rfl)
theorem ck_23 : CallOk Try.prog 23 := callOk_of Try.func23 rfl (by kernel_rfl)
theorem ck_24 : CallOk Try.prog 24 := callOk_of Try.func24 rfl (by kernel_rfl)
theorem ck_25 : CallOk Try.prog 25 := callOk_of Try.func25 rfl (by kernel_rfl)
theorem ck_26 : CallOk Try.prog 26 := callOk_of Try.func26 rfl (by kernel_rfl)
theorem ck_27 : CallOk Try.prog 27 := callOk_of Try.func27 rfl (by kernel_rfl)
theorem ck_28 : CallOk Try.prog 28 := callOk_of Try.func28 rfl (by kernel_rfl)
theorem ck_29 : CallOk Try.prog 29 := callOk_of Try.func29 rfl (by kernel_rfl)
theorem ck_30 : CallOk Try.prog 30 := callOk_of Try.func30 rfl (by kernel_rfl)
theorem ck_31 : CallOk Try.prog 31 := callOk_of Try.func31 rfl (by kernel_rfl)
theorem ck_32 : CallOk Try.prog 32 := callOk_of Try.func32 rfl (by kernel_rfl)
theorem ck_33 : CallOk Try.prog 33 := callOk_of Try.func33 rfl (by kernel_rfl)
theorem ck_34 : CallOk Try.prog 34 := callOk_of Try.func34 rfl (by kernel_rfl)
theorem ck_35 : CallOk Try.prog 35 := callOk_of Try.func35 rfl (by kernel_rfl)
theorem ck_36 : CallOk Try.prog 36 := callOk_of Try.func36 rfl (by kernel_rfl)
theorem ck_37 : CallOk Try.prog 37 := callOk_of Try.func37 rfl (by kernel_rfl)
theorem ck_38 : CallOk Try.prog 38 := callOk_of Try.func38 rfl (by kernel_rfl)
theorem ck_39 : CallOk Try.prog 39 := callOk_of Try.func39 rfl (by kernel_rfl)
theorem ck_40 : CallOk Try.prog 40 := callOk_of Try.func40 rfl (by kernel_rfl)
theorem ck_41 : CallOk Try.prog 41 := callOk_of Try.func41 rfl (by kernel_rfl)
theorem ck_42 : CallOk Try.prog 42 := callOk_of Try.func42 rfl (by kernel_rfl)
theorem ck_43 : CallOk Try.prog 43 := callOk_of Try.func43 rfl (by kernel_rfl)
theorem ck_44 : CallOk Try.prog 44 := callOk_of Try.func44 rfl (by kernel_rfl)
theorem ck_45 : CallOk Try.prog 45 := callOk_of Try.func45 rfl (by kernel_rfl)
theorem ck_46 : CallOk Try.prog 46 := callOk_of Try.func46 rfl (by kernel_rfl)
theorem ck_47 : CallOk Try.prog 47 := callOk_of Try.func47 rfl (by kernel_rfl)
theorem ck_48 : CallOk Try.prog 48 := callOk_of Try.func48 rfl (by kernel_rfl)
theorem ck_49 : CallOk Try.prog 49 := callOk_of Try.func49 rfl (by kernel_rfl)
theorem ck_50 : CallOk Try.prog 50 := callOk_of Try.func50 rfl (by kernel_rfl)
theorem ck_51 : CallOk Try.prog 51 := callOk_of Try.func51 rfl (by kernel_rfl)
theorem ck_52 : CallOk Try.prog 52 := callOk_of Try.func52 rfl (by kernel_rfl)
theorem ck_53 : CallOk Try.prog 53 := callOk_of Try.func53 rfl (by kernel_rfl)
theorem ck_54 : CallOk Try.prog 54 := callOk_of Try.func54 rfl (by kernel_rfl)
theorem ck_55 : CallOk Try.prog 55 := callOk_of Try.func55 rfl (by kernel_rfl)
theorem ck_56 : CallOk Try.prog 56 := callOk_of Try.func56 rfl (by kernel_rfl)
theorem ck_57 : CallOk Try.prog 57 := callOk_of Try.func57 rfl (by kernel_rfl)
theorem ck_58 : CallOk Try.prog 58 := callOk_of Try.func58 rfl (by kernel_rfl)
theorem ck_59 : CallOk Try.prog 59 := callOk_of Try.func59 rfl (by kernel_rfl)
theorem ck_60 : CallOk Try.prog 60 := callOk_of Try.func60 rfl (by kernel_rfl)
theorem ck_61 : CallOk Try.prog 61 := callOk_of Try.func61 rfl (by kernel_rfl)
theorem ck_62 : CallOk Try.prog 62 := callOk_of Try.func62 rfl (by kernel_rfl)
theorem ck_63 : CallOk Try.prog 63 := callOk_of Try.func63 rfl (by kernel_rfl)
theorem ck_64 : CallOk Try.prog 64 := callOk_of Try.func64 rfl (by kernel_rfl)
theorem ck_65 : CallOk Try.prog 65 := callOk_of Try.func65 rfl (by kernel_rfl)
theorem ck_66 : CallOk Try.prog 66 := callOk_of Try.func66 rfl (by kernel_rfl)
theorem ck_67 : CallOk Try.prog 67 := callOk_of Try.func67 rfl (by kernel_rfl)
theorem ck_68 : CallOk Try.prog 68 := callOk_of Try.func68 rfl (by kernel_rfl)
theorem ck_69 : CallOk Try.prog 69 := callOk_of Try.func69 rfl (by kernel_rfl)
theorem ck_70 : CallOk Try.prog 70 := callOk_of Try.func70 rfl (by kernel_rfl)
theorem ck_71 : CallOk Try.prog 71 := callOk_of Try.func71 rfl (by kernel_rfl)
theorem ck_72 : CallOk Try.prog 72 := callOk_of Try.func72 rfl (by kernel_rfl)
theorem ck_73 : CallOk Try.prog 73 := callOk_of Try.func73 rfl (by kernel_rfl)
theorem ck_74 : CallOk Try.prog 74 := callOk_of Try.func74 rfl (by kernel_rfl)
theorem ck_75 : CallOk Try.prog 75 := callOk_of Try.func75 rfl (by kernel_rfl)
theorem ck_76 : CallOk Try.prog 76 := callOk_of Try.func76 rfl (by kernel_rfl)
theorem ck_77 : CallOk Try.prog 77 := callOk_of Try.func77 rfl (by kernel_rfl)
theorem ck_78 : CallOk Try.prog 78 := callOk_of Try.func78 rfl (by kernel_rfl)
theorem ck_79 : CallOk Try.prog 79 := callOk_of Try.func79 rfl (by kernel_rfl)
theorem ck_80 : CallOk Try.prog 80 := callOk_of Try.func80 rfl (by kernel_rfl)
theorem ck_81 : CallOk Try.prog 81 := callOk_of Try.func81 rfl (by kernel_rfl)
theorem ck_82 : CallOk Try.prog 82 := callOk_of Try.func82 rfl (by kernel_rfl)
theorem ck_83 : CallOk Try.prog 83 := callOk_of Try.func83 rfl (by kernel_rfl)
theorem ck_84 : CallOk Try.prog 84 := callOk_of Try.func84 rfl (by kernel_rfl)
theorem ck_85 : CallOk Try.prog 85 := callOk_of Try.func85 rfl (by kernel_rfl)
theorem ck_86 : CallOk Try.prog 86 := callOk_of Try.func86 rfl (by kernel_rfl)
theorem ck_87 : CallOk Try.prog 87 := callOk_of Try.func87 rfl (by kernel_rfl)
theorem ck_88 : CallOk Try.prog 88 := callOk_of Try.func88 rfl (by kernel_rfl)
theorem ck_89 : CallOk Try.prog 89 := callOk_of Try.func89 rfl (by kernel_rfl)
theorem ck_90 : CallOk Try.prog 90 := callOk_of Try.func90 rfl (by kernel_rfl)
theorem ck_91 : CallOk Try.prog 91 := callOk_of Try.func91 rfl (by kernel_rfl)
theorem ck_92 : CallOk Try.prog 92 := callOk_of Try.func92 rfl (by kernel_rfl)
theorem ck_93 : CallOk Try.prog 93 := callOk_of Try.func93 rfl (by kernel_rfl)
theorem ck_94 : CallOk Try.prog 94 := callOk_of Try.func94 rfl (by kernel_rfl)
theorem ck_95 : CallOk Try.prog 95 := callOk_of Try.func95 rfl (by kernel_rfl)
theorem ck_96 : CallOk Try.prog 96 := callOk_of Try.func96 rfl (by kernel_rfl)
theorem ck_97 : CallOk Try.prog 97 := callOk_of Try.func97 rfl (by kernel_rfl)
theorem ck_98 : CallOk Try.prog 98 := callOk_of Try.func98 rfl (by kernel_rfl)
theorem ck_99 : CallOk Try.prog 99 := callOk_of Try.func99 rfl (by kernel_rfl)
theorem ck_100 : CallOk Try.prog 100 := callOk_of Try.func100 rfl (by kernel_rfl)
theorem ck_101 : CallOk Try.prog 101 := callOk_of Try.func101 rfl (by kernel_rfl)
theorem ck_102 : CallOk Try.prog 102 := callOk_of Try.func102 rfl (by kernel_rfl)
theorem ck_107 : CallOk Try.prog 107 := callOk_of Try.func107 rfl (by kernel_rfl)
theorem ck_110 : CallOk Try.prog 110 := callOk_of Try.func110 rfl (by kernel_rfl)
end Go.Proofs.Ytnnembkganlbpaa
