/- Runs over known values: the types of this program. -/
import Derived.KernelRfl
import Derived.Test.YtbjaapiliegegaaGreatDoorSa0
import Derived.Test.YtbjaapiliegegaaGreatDoorProg
namespace Go.Proofs.YtbjaapiliegegaaGreatDoor.Sy
open Go
theorem a_1 : aggT Tryz.prog 1 = some false := by kernel_rfl
theorem s_1 : sizeT Tryz.prog 1 = some 1 := by kernel_rfl
theorem b_1 : bytesT Tryz.prog 1 = some 8 := by kernel_rfl
theorem c_1 : cmpT Tryz.prog 1 = some false := by kernel_rfl
theorem z_1 : zeroT Tryz.prog 1 = some (.nilFunc) := by kernel_rfl
theorem a_2 : aggT Tryz.prog 2 = some false := by kernel_rfl
theorem s_2 : sizeT Tryz.prog 2 = some 1 := by kernel_rfl
theorem b_2 : bytesT Tryz.prog 2 = some 8 := by kernel_rfl
theorem c_2 : cmpT Tryz.prog 2 = some true := by kernel_rfl
theorem z_2 : zeroT Tryz.prog 2 = some (.int .i64 (0)) := by kernel_rfl
theorem a_3 : aggT Tryz.prog 3 = some false := by kernel_rfl
theorem s_3 : sizeT Tryz.prog 3 = some 1 := by kernel_rfl
theorem b_3 : bytesT Tryz.prog 3 = some 8 := by kernel_rfl
theorem c_3 : cmpT Tryz.prog 3 = some true := by kernel_rfl
theorem z_3 : zeroT Tryz.prog 3 = some (.int .i64 (0)) := by kernel_rfl
theorem a_4 : aggT Tryz.prog 4 = some false := by kernel_rfl
theorem s_4 : sizeT Tryz.prog 4 = some 1 := by kernel_rfl
theorem b_4 : bytesT Tryz.prog 4 = some 1 := by kernel_rfl
theorem c_4 : cmpT Tryz.prog 4 = some true := by kernel_rfl
theorem z_4 : zeroT Tryz.prog 4 = some (.bool false) := by kernel_rfl
theorem a_5 : aggT Tryz.prog 5 = some false := by kernel_rfl
theorem s_5 : sizeT Tryz.prog 5 = some 1 := by kernel_rfl
theorem b_5 : bytesT Tryz.prog 5 = some 1 := by kernel_rfl
theorem c_5 : cmpT Tryz.prog 5 = some true := by kernel_rfl
theorem z_5 : zeroT Tryz.prog 5 = some (.int .u8 (0)) := by kernel_rfl
theorem a_9 : aggT Tryz.prog 9 = some false := by kernel_rfl
theorem s_9 : sizeT Tryz.prog 9 = some 1 := by kernel_rfl
theorem b_9 : bytesT Tryz.prog 9 = some 16 := by kernel_rfl
theorem c_9 : cmpT Tryz.prog 9 = some true := by kernel_rfl
theorem z_9 : zeroT Tryz.prog 9 = some (.string ⟨#[]⟩) := by kernel_rfl
theorem a_17 : aggT Tryz.prog 17 = some false := by kernel_rfl
theorem s_17 : sizeT Tryz.prog 17 = some 1 := by kernel_rfl
theorem b_17 : bytesT Tryz.prog 17 = some 8 := by kernel_rfl
theorem c_17 : cmpT Tryz.prog 17 = some true := by kernel_rfl
theorem z_17 : zeroT Tryz.prog 17 = some (.pointer none) := by kernel_rfl
theorem a_20 : aggT Tryz.prog 20 = some false := by kernel_rfl
theorem s_20 : sizeT Tryz.prog 20 = some 1 := by kernel_rfl
theorem b_20 : bytesT Tryz.prog 20 = some 16 := by kernel_rfl
theorem c_20 : cmpT Tryz.prog 20 = some true := by kernel_rfl
theorem z_20 : zeroT Tryz.prog 20 = some (.nilIface) := by kernel_rfl
theorem a_21 : aggT Tryz.prog 21 = some false := by kernel_rfl
theorem s_21 : sizeT Tryz.prog 21 = some 1 := by kernel_rfl
theorem b_21 : bytesT Tryz.prog 21 = some 4 := by kernel_rfl
theorem c_21 : cmpT Tryz.prog 21 = some true := by kernel_rfl
theorem z_21 : zeroT Tryz.prog 21 = some (.int .i32 (0)) := by kernel_rfl
theorem a_27 : aggT Tryz.prog 27 = some false := by kernel_rfl
theorem s_27 : sizeT Tryz.prog 27 = some 1 := by kernel_rfl
theorem b_27 : bytesT Tryz.prog 27 = some 24 := by kernel_rfl
theorem c_27 : cmpT Tryz.prog 27 = some false := by kernel_rfl
theorem z_27 : zeroT Tryz.prog 27 = some (.slice none 0 0) := by kernel_rfl
theorem a_29 : aggT Tryz.prog 29 = some false := by kernel_rfl
theorem s_29 : sizeT Tryz.prog 29 = some 1 := by kernel_rfl
theorem b_29 : bytesT Tryz.prog 29 = some 24 := by kernel_rfl
theorem c_29 : cmpT Tryz.prog 29 = some false := by kernel_rfl
theorem z_29 : zeroT Tryz.prog 29 = some (.slice none 0 0) := by kernel_rfl
theorem a_31 : aggT Tryz.prog 31 = some true := by kernel_rfl
theorem s_31 : sizeT Tryz.prog 31 = some 9 := by kernel_rfl
theorem b_31 : bytesT Tryz.prog 31 = some 144 := by kernel_rfl
theorem c_31 : cmpT Tryz.prog 31 = some false := by kernel_rfl
theorem z_31 : zeroT Tryz.prog 31 = some (.agg #[.string ⟨#[]⟩, .string ⟨#[]⟩, .int .i64 (0), .string ⟨#[]⟩, .int .i64 (0), .int .i64 (0), .slice none 0 0, .slice none 0 0, .slice none 0 0]) := by kernel_rfl
theorem f_31_0 : fieldOff Tryz.prog 31 0 = some (0, 9) := by kernel_rfl
theorem f_31_1 : fieldOff Tryz.prog 31 1 = some (1, 9) := by kernel_rfl
theorem f_31_2 : fieldOff Tryz.prog 31 2 = some (2, 3) := by kernel_rfl
theorem f_31_3 : fieldOff Tryz.prog 31 3 = some (3, 9) := by kernel_rfl
theorem f_31_4 : fieldOff Tryz.prog 31 4 = some (4, 3) := by kernel_rfl
theorem f_31_5 : fieldOff Tryz.prog 31 5 = some (5, 3) := by kernel_rfl
theorem f_31_6 : fieldOff Tryz.prog 31 6 = some (6, 29) := by kernel_rfl
theorem f_31_7 : fieldOff Tryz.prog 31 7 = some (7, 27) := by kernel_rfl
theorem f_31_8 : fieldOff Tryz.prog 31 8 = some (8, 29) := by kernel_rfl
theorem p_31 : partsT Tryz.prog 31 = some [(0, 1), (1, 1), (2, 1), (3, 1), (4, 1), (5, 1), (6, 1), (7, 1), (8, 1)] := by kernel_rfl
theorem a_35 : aggT Tryz.prog 35 = some true := by kernel_rfl
theorem s_35 : sizeT Tryz.prog 35 = some 14 := by kernel_rfl
theorem b_35 : bytesT Tryz.prog 35 = some 184 := by kernel_rfl
theorem c_35 : cmpT Tryz.prog 35 = some false := by kernel_rfl
theorem z_35 : zeroT Tryz.prog 35 = some (.agg #[.string ⟨#[]⟩, .string ⟨#[]⟩, .int .i64 (0), .string ⟨#[]⟩, .int .i64 (0), .int .i64 (0), .slice none 0 0, .slice none 0 0, .slice none 0 0, .string ⟨#[]⟩, .int .i64 (0), .bool false, .bool false, .int .i64 (0)]) := by kernel_rfl
theorem f_35_0 : fieldOff Tryz.prog 35 0 = some (0, 31) := by kernel_rfl
theorem f_35_1 : fieldOff Tryz.prog 35 1 = some (9, 9) := by kernel_rfl
theorem f_35_2 : fieldOff Tryz.prog 35 2 = some (10, 2) := by kernel_rfl
theorem f_35_3 : fieldOff Tryz.prog 35 3 = some (11, 4) := by kernel_rfl
theorem f_35_4 : fieldOff Tryz.prog 35 4 = some (12, 4) := by kernel_rfl
theorem f_35_5 : fieldOff Tryz.prog 35 5 = some (13, 3) := by kernel_rfl
theorem p_35 : partsT Tryz.prog 35 = some [(0, 9), (9, 1), (10, 1), (11, 1), (12, 1), (13, 1)] := by kernel_rfl
theorem a_38 : aggT Tryz.prog 38 = some false := by kernel_rfl
theorem s_38 : sizeT Tryz.prog 38 = some 1 := by kernel_rfl
theorem b_38 : bytesT Tryz.prog 38 = some 24 := by kernel_rfl
theorem c_38 : cmpT Tryz.prog 38 = some false := by kernel_rfl
theorem z_38 : zeroT Tryz.prog 38 = some (.slice none 0 0) := by kernel_rfl
theorem a_40 : aggT Tryz.prog 40 = some true := by kernel_rfl
theorem s_40 : sizeT Tryz.prog 40 = some 14 := by kernel_rfl
theorem b_40 : bytesT Tryz.prog 40 = some 184 := by kernel_rfl
theorem c_40 : cmpT Tryz.prog 40 = some false := by kernel_rfl
theorem z_40 : zeroT Tryz.prog 40 = some (.agg #[.string ⟨#[]⟩, .string ⟨#[]⟩, .int .i64 (0), .string ⟨#[]⟩, .int .i64 (0), .int .i64 (0), .string ⟨#[]⟩, .slice none 0 0, .int .i64 (0), .bool false, .bool false, .slice none 0 0, .bool false, .slice none 0 0]) := by kernel_rfl
theorem f_40_0 : fieldOff Tryz.prog 40 0 = some (0, 9) := by kernel_rfl
theorem f_40_1 : fieldOff Tryz.prog 40 1 = some (1, 9) := by kernel_rfl
theorem f_40_2 : fieldOff Tryz.prog 40 2 = some (2, 3) := by kernel_rfl
theorem f_40_3 : fieldOff Tryz.prog 40 3 = some (3, 9) := by kernel_rfl
theorem f_40_4 : fieldOff Tryz.prog 40 4 = some (4, 3) := by kernel_rfl
theorem f_40_5 : fieldOff Tryz.prog 40 5 = some (5, 3) := by kernel_rfl
theorem f_40_6 : fieldOff Tryz.prog 40 6 = some (6, 9) := by kernel_rfl
theorem f_40_7 : fieldOff Tryz.prog 40 7 = some (7, 38) := by kernel_rfl
theorem f_40_8 : fieldOff Tryz.prog 40 8 = some (8, 2) := by kernel_rfl
theorem f_40_9 : fieldOff Tryz.prog 40 9 = some (9, 4) := by kernel_rfl
theorem f_40_10 : fieldOff Tryz.prog 40 10 = some (10, 4) := by kernel_rfl
theorem f_40_11 : fieldOff Tryz.prog 40 11 = some (11, 27) := by kernel_rfl
theorem f_40_12 : fieldOff Tryz.prog 40 12 = some (12, 4) := by kernel_rfl
theorem f_40_13 : fieldOff Tryz.prog 40 13 = some (13, 38) := by kernel_rfl
theorem p_40 : partsT Tryz.prog 40 = some [(0, 1), (1, 1), (2, 1), (3, 1), (4, 1), (5, 1), (6, 1), (7, 1), (8, 1), (9, 1), (10, 1), (11, 1), (12, 1), (13, 1)] := by kernel_rfl
theorem a_48 : aggT Tryz.prog 48 = some false := by kernel_rfl
theorem s_48 : sizeT Tryz.prog 48 = some 1 := by kernel_rfl
theorem b_48 : bytesT Tryz.prog 48 = some 24 := by kernel_rfl
theorem c_48 : cmpT Tryz.prog 48 = some false := by kernel_rfl
theorem z_48 : zeroT Tryz.prog 48 = some (.slice none 0 0) := by kernel_rfl
theorem a_57 : aggT Tryz.prog 57 = some false := by kernel_rfl
theorem s_57 : sizeT Tryz.prog 57 = some 1 := by kernel_rfl
theorem b_57 : bytesT Tryz.prog 57 = some 8 := by kernel_rfl
theorem c_57 : cmpT Tryz.prog 57 = some false := by kernel_rfl
theorem z_57 : zeroT Tryz.prog 57 = some (.nilFunc) := by kernel_rfl
theorem a_60 : aggT Tryz.prog 60 = some true := by kernel_rfl
theorem s_60 : sizeT Tryz.prog 60 = some 2 := by kernel_rfl
theorem b_60 : bytesT Tryz.prog 60 = some 32 := by kernel_rfl
theorem c_60 : cmpT Tryz.prog 60 = some true := by kernel_rfl
theorem z_60 : zeroT Tryz.prog 60 = some (.agg #[.string ⟨#[]⟩, .string ⟨#[]⟩]) := by kernel_rfl
theorem f_60_0 : fieldOff Tryz.prog 60 0 = some (0, 9) := by kernel_rfl
theorem f_60_1 : fieldOff Tryz.prog 60 1 = some (1, 9) := by kernel_rfl
theorem p_60 : partsT Tryz.prog 60 = some [(0, 1), (1, 1)] := by kernel_rfl
theorem a_62 : aggT Tryz.prog 62 = some false := by kernel_rfl
theorem s_62 : sizeT Tryz.prog 62 = some 1 := by kernel_rfl
theorem b_62 : bytesT Tryz.prog 62 = some 8 := by kernel_rfl
theorem c_62 : cmpT Tryz.prog 62 = some true := by kernel_rfl
theorem z_62 : zeroT Tryz.prog 62 = some (.pointer none) := by kernel_rfl
theorem a_64 : aggT Tryz.prog 64 = some true := by kernel_rfl
theorem s_64 : sizeT Tryz.prog 64 = some 2 := by kernel_rfl
theorem b_64 : bytesT Tryz.prog 64 = some 32 := by kernel_rfl
theorem c_64 : cmpT Tryz.prog 64 = some false := by kernel_rfl
theorem z_64 : zeroT Tryz.prog 64 = some (.agg #[.slice none 0 0, .int .i64 (0)]) := by kernel_rfl
theorem f_64_0 : fieldOff Tryz.prog 64 0 = some (0, 27) := by kernel_rfl
theorem f_64_1 : fieldOff Tryz.prog 64 1 = some (1, 3) := by kernel_rfl
theorem p_64 : partsT Tryz.prog 64 = some [(0, 1), (1, 1)] := by kernel_rfl
theorem a_75 : aggT Tryz.prog 75 = some false := by kernel_rfl
theorem s_75 : sizeT Tryz.prog 75 = some 1 := by kernel_rfl
theorem b_75 : bytesT Tryz.prog 75 = some 8 := by kernel_rfl
theorem c_75 : cmpT Tryz.prog 75 = some true := by kernel_rfl
theorem z_75 : zeroT Tryz.prog 75 = some (.pointer none) := by kernel_rfl
theorem m_75_Read : amethod Tryz.prog 75 "Read" = some 307 := by kernel_rfl
theorem a_77 : aggT Tryz.prog 77 = some false := by kernel_rfl
theorem s_77 : sizeT Tryz.prog 77 = some 1 := by kernel_rfl
theorem b_77 : bytesT Tryz.prog 77 = some 8 := by kernel_rfl
theorem c_77 : cmpT Tryz.prog 77 = some true := by kernel_rfl
theorem z_77 : zeroT Tryz.prog 77 = some (.pointer none) := by kernel_rfl
theorem a_79 : aggT Tryz.prog 79 = some false := by kernel_rfl
theorem s_79 : sizeT Tryz.prog 79 = some 1 := by kernel_rfl
theorem b_79 : bytesT Tryz.prog 79 = some 16 := by kernel_rfl
theorem c_79 : cmpT Tryz.prog 79 = some true := by kernel_rfl
theorem z_79 : zeroT Tryz.prog 79 = some (.nilIface) := by kernel_rfl
theorem a_82 : aggT Tryz.prog 82 = some false := by kernel_rfl
theorem s_82 : sizeT Tryz.prog 82 = some 1 := by kernel_rfl
theorem b_82 : bytesT Tryz.prog 82 = some 8 := by kernel_rfl
theorem c_82 : cmpT Tryz.prog 82 = some true := by kernel_rfl
theorem z_82 : zeroT Tryz.prog 82 = some (.pointer none) := by kernel_rfl
theorem a_85 : aggT Tryz.prog 85 = some false := by kernel_rfl
theorem s_85 : sizeT Tryz.prog 85 = some 1 := by kernel_rfl
theorem b_85 : bytesT Tryz.prog 85 = some 8 := by kernel_rfl
theorem c_85 : cmpT Tryz.prog 85 = some false := by kernel_rfl
theorem z_85 : zeroT Tryz.prog 85 = some (.map none) := by kernel_rfl
theorem k_85 : strMap Tryz.prog 85 = some 88 := by kernel_rfl
theorem a_87 : aggT Tryz.prog 87 = some false := by kernel_rfl
theorem s_87 : sizeT Tryz.prog 87 = some 1 := by kernel_rfl
theorem b_87 : bytesT Tryz.prog 87 = some 16 := by kernel_rfl
theorem c_87 : cmpT Tryz.prog 87 = some true := by kernel_rfl
theorem z_87 : zeroT Tryz.prog 87 = some (.nilIface) := by kernel_rfl
theorem a_88 : aggT Tryz.prog 88 = some false := by kernel_rfl
theorem s_88 : sizeT Tryz.prog 88 = some 1 := by kernel_rfl
theorem b_88 : bytesT Tryz.prog 88 = some 24 := by kernel_rfl
theorem c_88 : cmpT Tryz.prog 88 = some false := by kernel_rfl
theorem z_88 : zeroT Tryz.prog 88 = some (.slice none 0 0) := by kernel_rfl
theorem a_90 : aggT Tryz.prog 90 = some true := by kernel_rfl
theorem s_90 : sizeT Tryz.prog 90 = some 13 := by kernel_rfl
theorem b_90 : bytesT Tryz.prog 90 = some 136 := by kernel_rfl
theorem c_90 : cmpT Tryz.prog 90 = some false := by kernel_rfl
theorem z_90 : zeroT Tryz.prog 90 = some (.agg #[.string ⟨#[]⟩, .int .i64 (0), .string ⟨#[]⟩, .int .i64 (0), .int .i64 (0), .map none, .nilIface, .int .i64 (0), .slice none 0 0, .bool false, .bool false, .map none, .pointer none]) := by kernel_rfl
theorem f_90_0 : fieldOff Tryz.prog 90 0 = some (0, 9) := by kernel_rfl
theorem f_90_1 : fieldOff Tryz.prog 90 1 = some (1, 3) := by kernel_rfl
theorem f_90_2 : fieldOff Tryz.prog 90 2 = some (2, 9) := by kernel_rfl
theorem f_90_3 : fieldOff Tryz.prog 90 3 = some (3, 3) := by kernel_rfl
theorem f_90_4 : fieldOff Tryz.prog 90 4 = some (4, 3) := by kernel_rfl
theorem f_90_5 : fieldOff Tryz.prog 90 5 = some (5, 85) := by kernel_rfl
theorem f_90_6 : fieldOff Tryz.prog 90 6 = some (6, 87) := by kernel_rfl
theorem f_90_7 : fieldOff Tryz.prog 90 7 = some (7, 2) := by kernel_rfl
theorem f_90_8 : fieldOff Tryz.prog 90 8 = some (8, 88) := by kernel_rfl
theorem f_90_9 : fieldOff Tryz.prog 90 9 = some (9, 4) := by kernel_rfl
theorem f_90_10 : fieldOff Tryz.prog 90 10 = some (10, 4) := by kernel_rfl
theorem f_90_11 : fieldOff Tryz.prog 90 11 = some (11, 85) := by kernel_rfl
theorem f_90_12 : fieldOff Tryz.prog 90 12 = some (12, 82) := by kernel_rfl
theorem p_90 : partsT Tryz.prog 90 = some [(0, 1), (1, 1), (2, 1), (3, 1), (4, 1), (5, 1), (6, 1), (7, 1), (8, 1), (9, 1), (10, 1), (11, 1), (12, 1)] := by kernel_rfl
theorem a_102 : aggT Tryz.prog 102 = some false := by kernel_rfl
theorem s_102 : sizeT Tryz.prog 102 = some 1 := by kernel_rfl
theorem b_102 : bytesT Tryz.prog 102 = some 8 := by kernel_rfl
theorem c_102 : cmpT Tryz.prog 102 = some true := by kernel_rfl
theorem z_102 : zeroT Tryz.prog 102 = some (.pointer none) := by kernel_rfl
theorem a_104 : aggT Tryz.prog 104 = some true := by kernel_rfl
theorem s_104 : sizeT Tryz.prog 104 = some 15 := by kernel_rfl
theorem b_104 : bytesT Tryz.prog 104 = some 184 := by kernel_rfl
theorem c_104 : cmpT Tryz.prog 104 = some false := by kernel_rfl
theorem z_104 : zeroT Tryz.prog 104 = some (.agg #[.string ⟨#[]⟩, .pointer none, .string ⟨#[]⟩, .int .i64 (0), .int .i64 (0), .map none, .nilIface, .int .i64 (0), .slice none 0 0, .bool false, .string ⟨#[]⟩, .map none, .string ⟨#[]⟩, .string ⟨#[]⟩, .pointer none]) := by kernel_rfl
theorem f_104_0 : fieldOff Tryz.prog 104 0 = some (0, 9) := by kernel_rfl
theorem f_104_1 : fieldOff Tryz.prog 104 1 = some (1, 102) := by kernel_rfl
theorem f_104_2 : fieldOff Tryz.prog 104 2 = some (2, 9) := by kernel_rfl
theorem f_104_3 : fieldOff Tryz.prog 104 3 = some (3, 3) := by kernel_rfl
theorem f_104_4 : fieldOff Tryz.prog 104 4 = some (4, 3) := by kernel_rfl
theorem f_104_5 : fieldOff Tryz.prog 104 5 = some (5, 85) := by kernel_rfl
theorem f_104_6 : fieldOff Tryz.prog 104 6 = some (6, 87) := by kernel_rfl
theorem f_104_7 : fieldOff Tryz.prog 104 7 = some (7, 2) := by kernel_rfl
theorem f_104_8 : fieldOff Tryz.prog 104 8 = some (8, 88) := by kernel_rfl
theorem f_104_9 : fieldOff Tryz.prog 104 9 = some (9, 4) := by kernel_rfl
theorem f_104_10 : fieldOff Tryz.prog 104 10 = some (10, 9) := by kernel_rfl
theorem f_104_11 : fieldOff Tryz.prog 104 11 = some (11, 85) := by kernel_rfl
theorem f_104_12 : fieldOff Tryz.prog 104 12 = some (12, 9) := by kernel_rfl
theorem f_104_13 : fieldOff Tryz.prog 104 13 = some (13, 9) := by kernel_rfl
theorem f_104_14 : fieldOff Tryz.prog 104 14 = some (14, 77) := by kernel_rfl
theorem p_104 : partsT Tryz.prog 104 = some [(0, 1), (1, 1), (2, 1), (3, 1), (4, 1), (5, 1), (6, 1), (7, 1), (8, 1), (9, 1), (10, 1), (11, 1), (12, 1), (13, 1), (14, 1)] := by kernel_rfl
theorem a_107 : aggT Tryz.prog 107 = some true := by kernel_rfl
theorem s_107 : sizeT Tryz.prog 107 = some 2 := by kernel_rfl
theorem b_107 : bytesT Tryz.prog 107 = some 32 := by kernel_rfl
theorem c_107 : cmpT Tryz.prog 107 = some true := by kernel_rfl
theorem z_107 : zeroT Tryz.prog 107 = some (.agg #[.string ⟨#[]⟩, .string ⟨#[]⟩]) := by kernel_rfl
theorem f_107_0 : fieldOff Tryz.prog 107 0 = some (0, 9) := by kernel_rfl
theorem f_107_1 : fieldOff Tryz.prog 107 1 = some (1, 9) := by kernel_rfl
theorem p_107 : partsT Tryz.prog 107 = some [(0, 1), (1, 1)] := by kernel_rfl
theorem a_109 : aggT Tryz.prog 109 = some false := by kernel_rfl
theorem s_109 : sizeT Tryz.prog 109 = some 1 := by kernel_rfl
theorem b_109 : bytesT Tryz.prog 109 = some 8 := by kernel_rfl
theorem c_109 : cmpT Tryz.prog 109 = some true := by kernel_rfl
theorem z_109 : zeroT Tryz.prog 109 = some (.int .u64 (0)) := by kernel_rfl
theorem a_125 : aggT Tryz.prog 125 = some false := by kernel_rfl
theorem s_125 : sizeT Tryz.prog 125 = some 1 := by kernel_rfl
theorem b_125 : bytesT Tryz.prog 125 = some 8 := by kernel_rfl
theorem c_125 : cmpT Tryz.prog 125 = some true := by kernel_rfl
theorem z_125 : zeroT Tryz.prog 125 = some (.pointer none) := by kernel_rfl
theorem m_125_Read : amethod Tryz.prog 125 "Read" = some 312 := by kernel_rfl
theorem a_127 : aggT Tryz.prog 127 = some true := by kernel_rfl
theorem s_127 : sizeT Tryz.prog 127 = some 1 := by kernel_rfl
theorem b_127 : bytesT Tryz.prog 127 = some 24 := by kernel_rfl
theorem c_127 : cmpT Tryz.prog 127 = some false := by kernel_rfl
theorem z_127 : zeroT Tryz.prog 127 = some (.agg #[.slice none 0 0]) := by kernel_rfl
theorem f_127_0 : fieldOff Tryz.prog 127 0 = some (0, 27) := by kernel_rfl
theorem p_127 : partsT Tryz.prog 127 = some [(0, 1)] := by kernel_rfl
theorem a_128 : aggT Tryz.prog 128 = some false := by kernel_rfl
theorem s_128 : sizeT Tryz.prog 128 = some 1 := by kernel_rfl
theorem b_128 : bytesT Tryz.prog 128 = some 8 := by kernel_rfl
theorem c_128 : cmpT Tryz.prog 128 = some true := by kernel_rfl
theorem z_128 : zeroT Tryz.prog 128 = some (.pointer none) := by kernel_rfl
theorem a_132 : aggT Tryz.prog 132 = some false := by kernel_rfl
theorem s_132 : sizeT Tryz.prog 132 = some 1 := by kernel_rfl
theorem b_132 : bytesT Tryz.prog 132 = some 16 := by kernel_rfl
theorem c_132 : cmpT Tryz.prog 132 = some true := by kernel_rfl
theorem z_132 : zeroT Tryz.prog 132 = some (.string ⟨#[]⟩) := by kernel_rfl
theorem m_132_Error : amethod Tryz.prog 132 "Error" = some 313 := by kernel_rfl
theorem a_138 : aggT Tryz.prog 138 = some false := by kernel_rfl
theorem s_138 : sizeT Tryz.prog 138 = some 1 := by kernel_rfl
theorem b_138 : bytesT Tryz.prog 138 = some 8 := by kernel_rfl
theorem c_138 : cmpT Tryz.prog 138 = some false := by kernel_rfl
theorem z_138 : zeroT Tryz.prog 138 = some (.map none) := by kernel_rfl
theorem k_138 : strMap Tryz.prog 138 = some 88 := by kernel_rfl
theorem a_148 : aggT Tryz.prog 148 = some false := by kernel_rfl
theorem s_148 : sizeT Tryz.prog 148 = some 1 := by kernel_rfl
theorem b_148 : bytesT Tryz.prog 148 = some 8 := by kernel_rfl
theorem c_148 : cmpT Tryz.prog 148 = some false := by kernel_rfl
theorem z_148 : zeroT Tryz.prog 148 = some (.nilFunc) := by kernel_rfl
theorem a_151 : aggT Tryz.prog 151 = some false := by kernel_rfl
theorem s_151 : sizeT Tryz.prog 151 = some 1 := by kernel_rfl
theorem b_151 : bytesT Tryz.prog 151 = some 4 := by kernel_rfl
theorem c_151 : cmpT Tryz.prog 151 = some true := by kernel_rfl
theorem z_151 : zeroT Tryz.prog 151 = some (.int .u32 (0)) := by kernel_rfl
theorem a_154 : aggT Tryz.prog 154 = some false := by kernel_rfl
theorem s_154 : sizeT Tryz.prog 154 = some 1 := by kernel_rfl
theorem b_154 : bytesT Tryz.prog 154 = some 24 := by kernel_rfl
theorem c_154 : cmpT Tryz.prog 154 = some false := by kernel_rfl
theorem z_154 : zeroT Tryz.prog 154 = some (.slice none 0 0) := by kernel_rfl
theorem a_159 : aggT Tryz.prog 159 = some false := by kernel_rfl
theorem s_159 : sizeT Tryz.prog 159 = some 1 := by kernel_rfl
theorem b_159 : bytesT Tryz.prog 159 = some 16 := by kernel_rfl
theorem c_159 : cmpT Tryz.prog 159 = some true := by kernel_rfl
theorem z_159 : zeroT Tryz.prog 159 = some (.nilIface) := by kernel_rfl
theorem a_161 : aggT Tryz.prog 161 = some false := by kernel_rfl
theorem s_161 : sizeT Tryz.prog 161 = some 1 := by kernel_rfl
theorem b_161 : bytesT Tryz.prog 161 = some 8 := by kernel_rfl
theorem c_161 : cmpT Tryz.prog 161 = some true := by kernel_rfl
theorem z_161 : zeroT Tryz.prog 161 = some (.pointer none) := by kernel_rfl
theorem m_161_Read : amethod Tryz.prog 161 "Read" = some 189 := by kernel_rfl
theorem a_163 : aggT Tryz.prog 163 = some true := by kernel_rfl
theorem s_163 : sizeT Tryz.prog 163 = some 3 := by kernel_rfl
theorem b_163 : bytesT Tryz.prog 163 = some 40 := by kernel_rfl
theorem c_163 : cmpT Tryz.prog 163 = some false := by kernel_rfl
theorem z_163 : zeroT Tryz.prog 163 = some (.agg #[.pointer none, .pointer none, .slice none 0 0]) := by kernel_rfl
theorem f_163_0 : fieldOff Tryz.prog 163 0 = some (0, 75) := by kernel_rfl
theorem f_163_1 : fieldOff Tryz.prog 163 1 = some (1, 161) := by kernel_rfl
theorem f_163_2 : fieldOff Tryz.prog 163 2 = some (2, 27) := by kernel_rfl
theorem p_163 : partsT Tryz.prog 163 = some [(0, 1), (1, 1), (2, 1)] := by kernel_rfl
theorem a_165 : aggT Tryz.prog 165 = some false := by kernel_rfl
theorem s_165 : sizeT Tryz.prog 165 = some 1 := by kernel_rfl
theorem b_165 : bytesT Tryz.prog 165 = some 16 := by kernel_rfl
theorem c_165 : cmpT Tryz.prog 165 = some true := by kernel_rfl
theorem z_165 : zeroT Tryz.prog 165 = some (.string ⟨#[]⟩) := by kernel_rfl
theorem m_165_Error : amethod Tryz.prog 165 "Error" = some 314 := by kernel_rfl
theorem a_168 : aggT Tryz.prog 168 = some false := by kernel_rfl
theorem s_168 : sizeT Tryz.prog 168 = some 1 := by kernel_rfl
theorem b_168 : bytesT Tryz.prog 168 = some 8 := by kernel_rfl
theorem c_168 : cmpT Tryz.prog 168 = some true := by kernel_rfl
theorem z_168 : zeroT Tryz.prog 168 = some (.pointer none) := by kernel_rfl
theorem a_170 : aggT Tryz.prog 170 = some true := by kernel_rfl
theorem s_170 : sizeT Tryz.prog 170 = some 10 := by kernel_rfl
theorem b_170 : bytesT Tryz.prog 170 = some 88 := by kernel_rfl
theorem c_170 : cmpT Tryz.prog 170 = some false := by kernel_rfl
theorem z_170 : zeroT Tryz.prog 170 = some (.agg #[.map none, .int .i64 (0), .string ⟨#[]⟩, .int .i64 (0), .int .i64 (0), .nilIface, .int .i64 (0), .bool false, .bool false, .map none]) := by kernel_rfl
theorem f_170_0 : fieldOff Tryz.prog 170 0 = some (0, 85) := by kernel_rfl
theorem f_170_1 : fieldOff Tryz.prog 170 1 = some (1, 3) := by kernel_rfl
theorem f_170_2 : fieldOff Tryz.prog 170 2 = some (2, 9) := by kernel_rfl
theorem f_170_3 : fieldOff Tryz.prog 170 3 = some (3, 3) := by kernel_rfl
theorem f_170_4 : fieldOff Tryz.prog 170 4 = some (4, 3) := by kernel_rfl
theorem f_170_5 : fieldOff Tryz.prog 170 5 = some (5, 87) := by kernel_rfl
theorem f_170_6 : fieldOff Tryz.prog 170 6 = some (6, 2) := by kernel_rfl
theorem f_170_7 : fieldOff Tryz.prog 170 7 = some (7, 4) := by kernel_rfl
theorem f_170_8 : fieldOff Tryz.prog 170 8 = some (8, 4) := by kernel_rfl
theorem f_170_9 : fieldOff Tryz.prog 170 9 = some (9, 85) := by kernel_rfl
theorem p_170 : partsT Tryz.prog 170 = some [(0, 1), (1, 1), (2, 1), (3, 1), (4, 1), (5, 1), (6, 1), (7, 1), (8, 1), (9, 1)] := by kernel_rfl
theorem a_180 : aggT Tryz.prog 180 = some true := by kernel_rfl
theorem s_180 : sizeT Tryz.prog 180 = some 0 := by kernel_rfl
theorem b_180 : bytesT Tryz.prog 180 = some 0 := by kernel_rfl
theorem c_180 : cmpT Tryz.prog 180 = some true := by kernel_rfl
theorem z_180 : zeroT Tryz.prog 180 = some (.agg #[]) := by kernel_rfl
theorem p_180 : partsT Tryz.prog 180 = some [] := by kernel_rfl
theorem m_180_Close : amethod Tryz.prog 180 "Close" = some 315 := by kernel_rfl
theorem m_180_Read : amethod Tryz.prog 180 "Read" = some 316 := by kernel_rfl
theorem a_182 : aggT Tryz.prog 182 = some false := by kernel_rfl
theorem s_182 : sizeT Tryz.prog 182 = some 1 := by kernel_rfl
theorem b_182 : bytesT Tryz.prog 182 = some 8 := by kernel_rfl
theorem c_182 : cmpT Tryz.prog 182 = some true := by kernel_rfl
theorem z_182 : zeroT Tryz.prog 182 = some (.pointer none) := by kernel_rfl
theorem m_182_Close : amethod Tryz.prog 182 "Close" = some 317 := by kernel_rfl
theorem m_182_Read : amethod Tryz.prog 182 "Read" = some 318 := by kernel_rfl
theorem a_185 : aggT Tryz.prog 185 = some true := by kernel_rfl
theorem s_185 : sizeT Tryz.prog 185 = some 11 := by kernel_rfl
theorem b_185 : bytesT Tryz.prog 185 = some 72 := by kernel_rfl
theorem c_185 : cmpT Tryz.prog 185 = some false := by kernel_rfl
theorem z_185 : zeroT Tryz.prog 185 = some (.agg #[.nilIface, .nilIface, .pointer none, .bool false, .bool false, .int .i64 (0), .bool false, .bool false, .bool false, .bool false, .nilFunc]) := by kernel_rfl
theorem f_185_0 : fieldOff Tryz.prog 185 0 = some (0, 159) := by kernel_rfl
theorem f_185_1 : fieldOff Tryz.prog 185 1 = some (1, 20) := by kernel_rfl
theorem f_185_2 : fieldOff Tryz.prog 185 2 = some (2, 75) := by kernel_rfl
theorem f_185_3 : fieldOff Tryz.prog 185 3 = some (3, 4) := by kernel_rfl
theorem f_185_4 : fieldOff Tryz.prog 185 4 = some (4, 4) := by kernel_rfl
theorem f_185_5 : fieldOff Tryz.prog 185 5 = some (5, 2) := by kernel_rfl
theorem f_185_6 : fieldOff Tryz.prog 185 6 = some (6, 4) := by kernel_rfl
theorem f_185_7 : fieldOff Tryz.prog 185 7 = some (7, 4) := by kernel_rfl
theorem f_185_8 : fieldOff Tryz.prog 185 8 = some (8, 4) := by kernel_rfl
theorem f_185_9 : fieldOff Tryz.prog 185 9 = some (9, 4) := by kernel_rfl
theorem f_185_10 : fieldOff Tryz.prog 185 10 = some (10, 1) := by kernel_rfl
theorem p_185 : partsT Tryz.prog 185 = some [(0, 1), (1, 1), (2, 1), (3, 1), (4, 1), (5, 1), (6, 1), (7, 1), (8, 1), (9, 1), (10, 1)] := by kernel_rfl
theorem a_189 : aggT Tryz.prog 189 = some false := by kernel_rfl
theorem s_189 : sizeT Tryz.prog 189 = some 1 := by kernel_rfl
theorem b_189 : bytesT Tryz.prog 189 = some 8 := by kernel_rfl
theorem c_189 : cmpT Tryz.prog 189 = some true := by kernel_rfl
theorem z_189 : zeroT Tryz.prog 189 = some (.int .u64 (0)) := by kernel_rfl
theorem a_192 : aggT Tryz.prog 192 = some false := by kernel_rfl
theorem s_192 : sizeT Tryz.prog 192 = some 1 := by kernel_rfl
theorem b_192 : bytesT Tryz.prog 192 = some 8 := by kernel_rfl
theorem c_192 : cmpT Tryz.prog 192 = some true := by kernel_rfl
theorem z_192 : zeroT Tryz.prog 192 = some (.int .u64 (0)) := by kernel_rfl
theorem a_194 : aggT Tryz.prog 194 = some true := by kernel_rfl
theorem s_194 : sizeT Tryz.prog 194 = some 3 := by kernel_rfl
theorem b_194 : bytesT Tryz.prog 194 = some 24 := by kernel_rfl
theorem c_194 : cmpT Tryz.prog 194 = some true := by kernel_rfl
theorem z_194 : zeroT Tryz.prog 194 = some (.agg #[.pointer none, .pointer none, .int .u64 (0)]) := by kernel_rfl
theorem f_194_0 : fieldOff Tryz.prog 194 0 = some (0, 17) := by kernel_rfl
theorem f_194_1 : fieldOff Tryz.prog 194 1 = some (1, 191) := by kernel_rfl
theorem f_194_2 : fieldOff Tryz.prog 194 2 = some (2, 192) := by kernel_rfl
theorem p_194 : partsT Tryz.prog 194 = some [(0, 1), (1, 1), (2, 1)] := by kernel_rfl
theorem a_196 : aggT Tryz.prog 196 = some false := by kernel_rfl
theorem s_196 : sizeT Tryz.prog 196 = some 1 := by kernel_rfl
theorem b_196 : bytesT Tryz.prog 196 = some 8 := by kernel_rfl
theorem c_196 : cmpT Tryz.prog 196 = some false := by kernel_rfl
theorem z_196 : zeroT Tryz.prog 196 = some (.nilFunc) := by kernel_rfl
theorem a_200 : aggT Tryz.prog 200 = some true := by kernel_rfl
theorem s_200 : sizeT Tryz.prog 200 = some 2 := by kernel_rfl
theorem b_200 : bytesT Tryz.prog 200 = some 16 := by kernel_rfl
theorem c_200 : cmpT Tryz.prog 200 = some false := by kernel_rfl
theorem z_200 : zeroT Tryz.prog 200 = some (.agg #[.nilFunc, .nilFunc]) := by kernel_rfl
theorem f_200_0 : fieldOff Tryz.prog 200 0 = some (0, 148) := by kernel_rfl
theorem f_200_1 : fieldOff Tryz.prog 200 1 = some (1, 196) := by kernel_rfl
theorem p_200 : partsT Tryz.prog 200 = some [(0, 1), (1, 1)] := by kernel_rfl
theorem a_202 : aggT Tryz.prog 202 = some false := by kernel_rfl
theorem s_202 : sizeT Tryz.prog 202 = some 1 := by kernel_rfl
theorem b_202 : bytesT Tryz.prog 202 = some 8 := by kernel_rfl
theorem c_202 : cmpT Tryz.prog 202 = some true := by kernel_rfl
theorem z_202 : zeroT Tryz.prog 202 = some (.int .i64 (0)) := by kernel_rfl
theorem m_202_Error : amethod Tryz.prog 202 "Error" = some 326 := by kernel_rfl
theorem a_204 : aggT Tryz.prog 204 = some false := by kernel_rfl
theorem s_204 : sizeT Tryz.prog 204 = some 1 := by kernel_rfl
theorem b_204 : bytesT Tryz.prog 204 = some 8 := by kernel_rfl
theorem c_204 : cmpT Tryz.prog 204 = some true := by kernel_rfl
theorem z_204 : zeroT Tryz.prog 204 = some (.pointer none) := by kernel_rfl
theorem m_204_Error : amethod Tryz.prog 204 "Error" = some 327 := by kernel_rfl
theorem a_207 : aggT Tryz.prog 207 = some true := by kernel_rfl
theorem s_207 : sizeT Tryz.prog 207 = some 256 := by kernel_rfl
theorem b_207 : bytesT Tryz.prog 207 = some 256 := by kernel_rfl
theorem c_207 : cmpT Tryz.prog 207 = some true := by kernel_rfl
theorem a_209 : aggT Tryz.prog 209 = some true := by kernel_rfl
theorem s_209 : sizeT Tryz.prog 209 = some 2 := by kernel_rfl
theorem b_209 : bytesT Tryz.prog 209 = some 2 := by kernel_rfl
theorem c_209 : cmpT Tryz.prog 209 = some true := by kernel_rfl
theorem z_209 : zeroT Tryz.prog 209 = some (.agg #[.int .u8 (0), .int .u8 (0)]) := by kernel_rfl
theorem f_209_0 : fieldOff Tryz.prog 209 0 = some (0, 5) := by kernel_rfl
theorem f_209_1 : fieldOff Tryz.prog 209 1 = some (1, 5) := by kernel_rfl
theorem p_209 : partsT Tryz.prog 209 = some [(0, 1), (1, 1)] := by kernel_rfl
theorem a_210 : aggT Tryz.prog 210 = some true := by kernel_rfl
theorem s_210 : sizeT Tryz.prog 210 = some 32 := by kernel_rfl
theorem b_210 : bytesT Tryz.prog 210 = some 32 := by kernel_rfl
theorem c_210 : cmpT Tryz.prog 210 = some true := by kernel_rfl
theorem z_210 : zeroT Tryz.prog 210 = some (.agg #[.int .u8 (0), .int .u8 (0), .int .u8 (0), .int .u8 (0), .int .u8 (0), .int .u8 (0), .int .u8 (0), .int .u8 (0), .int .u8 (0), .int .u8 (0), .int .u8 (0), .int .u8 (0), .int .u8 (0), .int .u8 (0), .int .u8 (0), .int .u8 (0), .int .u8 (0), .int .u8 (0), .int .u8 (0), .int .u8 (0), .int .u8 (0), .int .u8 (0), .int .u8 (0), .int .u8 (0), .int .u8 (0), .int .u8 (0), .int .u8 (0), .int .u8 (0), .int .u8 (0), .int .u8 (0), .int .u8 (0), .int .u8 (0)]) := by kernel_rfl
theorem a_211 : aggT Tryz.prog 211 = some false := by kernel_rfl
theorem s_211 : sizeT Tryz.prog 211 = some 1 := by kernel_rfl
theorem b_211 : bytesT Tryz.prog 211 = some 8 := by kernel_rfl
theorem c_211 : cmpT Tryz.prog 211 = some true := by kernel_rfl
theorem z_211 : zeroT Tryz.prog 211 = some (.pointer none) := by kernel_rfl
theorem a_217 : aggT Tryz.prog 217 = some true := by kernel_rfl
theorem s_217 : sizeT Tryz.prog 217 = some 7 := by kernel_rfl
theorem b_217 : bytesT Tryz.prog 217 = some 88 := by kernel_rfl
theorem c_217 : cmpT Tryz.prog 217 = some false := by kernel_rfl
theorem z_217 : zeroT Tryz.prog 217 = some (.agg #[.slice none 0 0, .nilIface, .int .i64 (0), .int .i64 (0), .nilIface, .int .i64 (0), .int .i64 (0)]) := by kernel_rfl
theorem f_217_0 : fieldOff Tryz.prog 217 0 = some (0, 27) := by kernel_rfl
theorem f_217_1 : fieldOff Tryz.prog 217 1 = some (1, 159) := by kernel_rfl
theorem f_217_2 : fieldOff Tryz.prog 217 2 = some (2, 3) := by kernel_rfl
theorem f_217_3 : fieldOff Tryz.prog 217 3 = some (3, 3) := by kernel_rfl
theorem f_217_4 : fieldOff Tryz.prog 217 4 = some (4, 79) := by kernel_rfl
theorem f_217_5 : fieldOff Tryz.prog 217 5 = some (5, 3) := by kernel_rfl
theorem f_217_6 : fieldOff Tryz.prog 217 6 = some (6, 3) := by kernel_rfl
theorem p_217 : partsT Tryz.prog 217 = some [(0, 1), (1, 1), (2, 1), (3, 1), (4, 1), (5, 1), (6, 1)] := by kernel_rfl
theorem a_221 : aggT Tryz.prog 221 = some false := by kernel_rfl
theorem s_221 : sizeT Tryz.prog 221 = some 1 := by kernel_rfl
theorem b_221 : bytesT Tryz.prog 221 = some 16 := by kernel_rfl
theorem c_221 : cmpT Tryz.prog 221 = some true := by kernel_rfl
theorem z_221 : zeroT Tryz.prog 221 = some (.string ⟨#[]⟩) := by kernel_rfl
theorem m_221_Error : amethod Tryz.prog 221 "Error" = some 337 := by kernel_rfl
theorem a_224 : aggT Tryz.prog 224 = some false := by kernel_rfl
theorem s_224 : sizeT Tryz.prog 224 = some 1 := by kernel_rfl
theorem b_224 : bytesT Tryz.prog 224 = some 16 := by kernel_rfl
theorem c_224 : cmpT Tryz.prog 224 = some true := by kernel_rfl
theorem z_224 : zeroT Tryz.prog 224 = some (.string ⟨#[]⟩) := by kernel_rfl
theorem m_224_Error : amethod Tryz.prog 224 "Error" = some 338 := by kernel_rfl
theorem a_226 : aggT Tryz.prog 226 = some false := by kernel_rfl
theorem s_226 : sizeT Tryz.prog 226 = some 1 := by kernel_rfl
theorem b_226 : bytesT Tryz.prog 226 = some 8 := by kernel_rfl
theorem c_226 : cmpT Tryz.prog 226 = some false := by kernel_rfl
theorem z_226 : zeroT Tryz.prog 226 = some (.nilFunc) := by kernel_rfl
theorem a_229 : aggT Tryz.prog 229 = some false := by kernel_rfl
theorem s_229 : sizeT Tryz.prog 229 = some 1 := by kernel_rfl
theorem b_229 : bytesT Tryz.prog 229 = some 8 := by kernel_rfl
theorem c_229 : cmpT Tryz.prog 229 = some false := by kernel_rfl
theorem z_229 : zeroT Tryz.prog 229 = some (.nilFunc) := by kernel_rfl
theorem a_230 : aggT Tryz.prog 230 = some false := by kernel_rfl
theorem s_230 : sizeT Tryz.prog 230 = some 1 := by kernel_rfl
theorem b_230 : bytesT Tryz.prog 230 = some 8 := by kernel_rfl
theorem c_230 : cmpT Tryz.prog 230 = some true := by kernel_rfl
theorem z_230 : zeroT Tryz.prog 230 = some (.pointer none) := by kernel_rfl
theorem m_230_Error : amethod Tryz.prog 230 "Error" = some 339 := by kernel_rfl
theorem a_232 : aggT Tryz.prog 232 = some true := by kernel_rfl
theorem s_232 : sizeT Tryz.prog 232 = some 1 := by kernel_rfl
theorem b_232 : bytesT Tryz.prog 232 = some 16 := by kernel_rfl
theorem c_232 : cmpT Tryz.prog 232 = some true := by kernel_rfl
theorem z_232 : zeroT Tryz.prog 232 = some (.agg #[.string ⟨#[]⟩]) := by kernel_rfl
theorem f_232_0 : fieldOff Tryz.prog 232 0 = some (0, 9) := by kernel_rfl
theorem p_232 : partsT Tryz.prog 232 = some [(0, 1)] := by kernel_rfl
theorem a_237 : aggT Tryz.prog 237 = some false := by kernel_rfl
theorem s_237 : sizeT Tryz.prog 237 = some 1 := by kernel_rfl
theorem b_237 : bytesT Tryz.prog 237 = some 8 := by kernel_rfl
theorem c_237 : cmpT Tryz.prog 237 = some true := by kernel_rfl
theorem z_237 : zeroT Tryz.prog 237 = some (.pointer none) := by kernel_rfl
theorem m_237_Read : amethod Tryz.prog 237 "Read" = some 340 := by kernel_rfl
theorem a_238 : aggT Tryz.prog 238 = some true := by kernel_rfl
theorem s_238 : sizeT Tryz.prog 238 = some 2 := by kernel_rfl
theorem b_238 : bytesT Tryz.prog 238 = some 2 := by kernel_rfl
theorem c_238 : cmpT Tryz.prog 238 = some true := by kernel_rfl
theorem z_238 : zeroT Tryz.prog 238 = some (.agg #[.int .u8 (0), .int .u8 (0)]) := by kernel_rfl
theorem a_240 : aggT Tryz.prog 240 = some true := by kernel_rfl
theorem s_240 : sizeT Tryz.prog 240 = some 7 := by kernel_rfl
theorem b_240 : bytesT Tryz.prog 240 = some 48 := by kernel_rfl
theorem c_240 : cmpT Tryz.prog 240 = some true := by kernel_rfl
theorem z_240 : zeroT Tryz.prog 240 = some (.agg #[.pointer none, .int .u64 (0), .nilIface, .int .u8 (0), .int .u8 (0), .bool false, .int .i64 (0)]) := by kernel_rfl
theorem f_240_0 : fieldOff Tryz.prog 240 0 = some (0, 75) := by kernel_rfl
theorem f_240_1 : fieldOff Tryz.prog 240 1 = some (1, 109) := by kernel_rfl
theorem f_240_2 : fieldOff Tryz.prog 240 2 = some (2, 79) := by kernel_rfl
theorem f_240_3 : fieldOff Tryz.prog 240 3 = some (3, 238) := by kernel_rfl
theorem f_240_4 : fieldOff Tryz.prog 240 4 = some (5, 4) := by kernel_rfl
theorem f_240_5 : fieldOff Tryz.prog 240 5 = some (6, 2) := by kernel_rfl
theorem p_240 : partsT Tryz.prog 240 = some [(0, 1), (1, 1), (2, 1), (3, 2), (5, 1), (6, 1)] := by kernel_rfl
theorem a_241 : aggT Tryz.prog 241 = some false := by kernel_rfl
theorem s_241 : sizeT Tryz.prog 241 = some 1 := by kernel_rfl
theorem b_241 : bytesT Tryz.prog 241 = some 8 := by kernel_rfl
theorem c_241 : cmpT Tryz.prog 241 = some true := by kernel_rfl
theorem z_241 : zeroT Tryz.prog 241 = some (.pointer none) := by kernel_rfl
theorem m_241_Read : amethod Tryz.prog 241 "Read" = some 351 := by kernel_rfl
theorem a_243 : aggT Tryz.prog 243 = some true := by kernel_rfl
theorem s_243 : sizeT Tryz.prog 243 = some 2 := by kernel_rfl
theorem b_243 : bytesT Tryz.prog 243 = some 24 := by kernel_rfl
theorem c_243 : cmpT Tryz.prog 243 = some true := by kernel_rfl
theorem z_243 : zeroT Tryz.prog 243 = some (.agg #[.nilIface, .int .i64 (0)]) := by kernel_rfl
theorem f_243_0 : fieldOff Tryz.prog 243 0 = some (0, 159) := by kernel_rfl
theorem f_243_1 : fieldOff Tryz.prog 243 1 = some (1, 2) := by kernel_rfl
theorem p_243 : partsT Tryz.prog 243 = some [(0, 1), (1, 1)] := by kernel_rfl
theorem a_253 : aggT Tryz.prog 253 = some false := by kernel_rfl
theorem s_253 : sizeT Tryz.prog 253 = some 1 := by kernel_rfl
theorem b_253 : bytesT Tryz.prog 253 = some 24 := by kernel_rfl
theorem c_253 : cmpT Tryz.prog 253 = some false := by kernel_rfl
theorem z_253 : zeroT Tryz.prog 253 = some (.slice none 0 0) := by kernel_rfl
theorem a_257 : aggT Tryz.prog 257 = some false := by kernel_rfl
theorem s_257 : sizeT Tryz.prog 257 = some 1 := by kernel_rfl
theorem b_257 : bytesT Tryz.prog 257 = some 8 := by kernel_rfl
theorem c_257 : cmpT Tryz.prog 257 = some true := by kernel_rfl
theorem z_257 : zeroT Tryz.prog 257 = some (.pointer none) := by kernel_rfl
theorem a_259 : aggT Tryz.prog 259 = some true := by kernel_rfl
theorem s_259 : sizeT Tryz.prog 259 = some 11 := by kernel_rfl
theorem b_259 : bytesT Tryz.prog 259 = some 144 := by kernel_rfl
theorem c_259 : cmpT Tryz.prog 259 = some true := by kernel_rfl
theorem z_259 : zeroT Tryz.prog 259 = some (.agg #[.string ⟨#[]⟩, .string ⟨#[]⟩, .pointer none, .string ⟨#[]⟩, .string ⟨#[]⟩, .string ⟨#[]⟩, .string ⟨#[]⟩, .string ⟨#[]⟩, .string ⟨#[]⟩, .bool false, .bool false]) := by kernel_rfl
theorem f_259_0 : fieldOff Tryz.prog 259 0 = some (0, 9) := by kernel_rfl
theorem f_259_1 : fieldOff Tryz.prog 259 1 = some (1, 9) := by kernel_rfl
theorem f_259_2 : fieldOff Tryz.prog 259 2 = some (2, 257) := by kernel_rfl
theorem f_259_3 : fieldOff Tryz.prog 259 3 = some (3, 9) := by kernel_rfl
theorem f_259_4 : fieldOff Tryz.prog 259 4 = some (4, 9) := by kernel_rfl
theorem f_259_5 : fieldOff Tryz.prog 259 5 = some (5, 9) := by kernel_rfl
theorem f_259_6 : fieldOff Tryz.prog 259 6 = some (6, 9) := by kernel_rfl
theorem f_259_7 : fieldOff Tryz.prog 259 7 = some (7, 9) := by kernel_rfl
theorem f_259_8 : fieldOff Tryz.prog 259 8 = some (8, 9) := by kernel_rfl
theorem f_259_9 : fieldOff Tryz.prog 259 9 = some (9, 4) := by kernel_rfl
theorem f_259_10 : fieldOff Tryz.prog 259 10 = some (10, 4) := by kernel_rfl
theorem p_259 : partsT Tryz.prog 259 = some [(0, 1), (1, 1), (2, 1), (3, 1), (4, 1), (5, 1), (6, 1), (7, 1), (8, 1), (9, 1), (10, 1)] := by kernel_rfl
theorem a_267 : aggT Tryz.prog 267 = some true := by kernel_rfl
theorem s_267 : sizeT Tryz.prog 267 = some 3 := by kernel_rfl
theorem b_267 : bytesT Tryz.prog 267 = some 48 := by kernel_rfl
theorem c_267 : cmpT Tryz.prog 267 = some true := by kernel_rfl
theorem z_267 : zeroT Tryz.prog 267 = some (.agg #[.string ⟨#[]⟩, .string ⟨#[]⟩, .nilIface]) := by kernel_rfl
theorem f_267_0 : fieldOff Tryz.prog 267 0 = some (0, 9) := by kernel_rfl
theorem f_267_1 : fieldOff Tryz.prog 267 1 = some (1, 9) := by kernel_rfl
theorem f_267_2 : fieldOff Tryz.prog 267 2 = some (2, 79) := by kernel_rfl
theorem p_267 : partsT Tryz.prog 267 = some [(0, 1), (1, 1), (2, 1)] := by kernel_rfl
theorem a_269 : aggT Tryz.prog 269 = some true := by kernel_rfl
theorem s_269 : sizeT Tryz.prog 269 = some 3 := by kernel_rfl
theorem b_269 : bytesT Tryz.prog 269 = some 12 := by kernel_rfl
theorem c_269 : cmpT Tryz.prog 269 = some true := by kernel_rfl
theorem z_269 : zeroT Tryz.prog 269 = some (.agg #[.int .i32 (0), .int .i32 (0), .int .i32 (0)]) := by kernel_rfl
theorem a_271 : aggT Tryz.prog 271 = some true := by kernel_rfl
theorem s_271 : sizeT Tryz.prog 271 = some 5 := by kernel_rfl
theorem b_271 : bytesT Tryz.prog 271 = some 20 := by kernel_rfl
theorem c_271 : cmpT Tryz.prog 271 = some true := by kernel_rfl
theorem z_271 : zeroT Tryz.prog 271 = some (.agg #[.int .u32 (0), .int .u32 (0), .int .i32 (0), .int .i32 (0), .int .i32 (0)]) := by kernel_rfl
theorem f_271_0 : fieldOff Tryz.prog 271 0 = some (0, 151) := by kernel_rfl
theorem f_271_1 : fieldOff Tryz.prog 271 1 = some (1, 151) := by kernel_rfl
theorem f_271_2 : fieldOff Tryz.prog 271 2 = some (2, 269) := by kernel_rfl
theorem p_271 : partsT Tryz.prog 271 = some [(0, 1), (1, 1), (2, 3)] := by kernel_rfl
theorem a_273 : aggT Tryz.prog 273 = some false := by kernel_rfl
theorem s_273 : sizeT Tryz.prog 273 = some 1 := by kernel_rfl
theorem b_273 : bytesT Tryz.prog 273 = some 16 := by kernel_rfl
theorem c_273 : cmpT Tryz.prog 273 = some true := by kernel_rfl
theorem z_273 : zeroT Tryz.prog 273 = some (.string ⟨#[]⟩) := by kernel_rfl
theorem m_273_Error : amethod Tryz.prog 273 "Error" = some 355 := by kernel_rfl
theorem a_275 : aggT Tryz.prog 275 = some false := by kernel_rfl
theorem s_275 : sizeT Tryz.prog 275 = some 1 := by kernel_rfl
theorem b_275 : bytesT Tryz.prog 275 = some 8 := by kernel_rfl
theorem c_275 : cmpT Tryz.prog 275 = some true := by kernel_rfl
theorem z_275 : zeroT Tryz.prog 275 = some (.pointer none) := by kernel_rfl
theorem m_275_Error : amethod Tryz.prog 275 "Error" = some 356 := by kernel_rfl
theorem a_277 : aggT Tryz.prog 277 = some true := by kernel_rfl
theorem s_277 : sizeT Tryz.prog 277 = some 1 := by kernel_rfl
theorem b_277 : bytesT Tryz.prog 277 = some 16 := by kernel_rfl
theorem c_277 : cmpT Tryz.prog 277 = some true := by kernel_rfl
theorem z_277 : zeroT Tryz.prog 277 = some (.agg #[.string ⟨#[]⟩]) := by kernel_rfl
theorem f_277_0 : fieldOff Tryz.prog 277 0 = some (0, 9) := by kernel_rfl
theorem p_277 : partsT Tryz.prog 277 = some [(0, 1)] := by kernel_rfl
theorem a_285 : aggT Tryz.prog 285 = some false := by kernel_rfl
theorem s_285 : sizeT Tryz.prog 285 = some 1 := by kernel_rfl
theorem b_285 : bytesT Tryz.prog 285 = some 8 := by kernel_rfl
theorem c_285 : cmpT Tryz.prog 285 = some true := by kernel_rfl
theorem z_285 : zeroT Tryz.prog 285 = some (.pointer none) := by kernel_rfl
theorem m_285_Error : amethod Tryz.prog 285 "Error" = some 357 := by kernel_rfl
theorem a_287 : aggT Tryz.prog 287 = some true := by kernel_rfl
theorem s_287 : sizeT Tryz.prog 287 = some 3 := by kernel_rfl
theorem b_287 : bytesT Tryz.prog 287 = some 48 := by kernel_rfl
theorem c_287 : cmpT Tryz.prog 287 = some true := by kernel_rfl
theorem z_287 : zeroT Tryz.prog 287 = some (.agg #[.string ⟨#[]⟩, .string ⟨#[]⟩, .nilIface]) := by kernel_rfl
theorem f_287_0 : fieldOff Tryz.prog 287 0 = some (0, 9) := by kernel_rfl
theorem f_287_1 : fieldOff Tryz.prog 287 1 = some (1, 9) := by kernel_rfl
theorem f_287_2 : fieldOff Tryz.prog 287 2 = some (2, 79) := by kernel_rfl
theorem p_287 : partsT Tryz.prog 287 = some [(0, 1), (1, 1), (2, 1)] := by kernel_rfl
theorem a_288 : aggT Tryz.prog 288 = some false := by kernel_rfl
theorem s_288 : sizeT Tryz.prog 288 = some 1 := by kernel_rfl
theorem b_288 : bytesT Tryz.prog 288 = some 8 := by kernel_rfl
theorem c_288 : cmpT Tryz.prog 288 = some true := by kernel_rfl
theorem z_288 : zeroT Tryz.prog 288 = some (.pointer none) := by kernel_rfl
theorem a_290 : aggT Tryz.prog 290 = some true := by kernel_rfl
theorem s_290 : sizeT Tryz.prog 290 = some 2 := by kernel_rfl
theorem b_290 : bytesT Tryz.prog 290 = some 16 := by kernel_rfl
theorem c_290 : cmpT Tryz.prog 290 = some true := by kernel_rfl
theorem z_290 : zeroT Tryz.prog 290 = some (.agg #[.pointer none, .int .i64 (0)]) := by kernel_rfl
theorem f_290_0 : fieldOff Tryz.prog 290 0 = some (0, 128) := by kernel_rfl
theorem f_290_1 : fieldOff Tryz.prog 290 1 = some (1, 3) := by kernel_rfl
theorem p_290 : partsT Tryz.prog 290 = some [(0, 1), (1, 1)] := by kernel_rfl
theorem a_302 : aggT Tryz.prog 302 = some true := by kernel_rfl
theorem s_302 : sizeT Tryz.prog 302 = some 256 := by kernel_rfl
theorem b_302 : bytesT Tryz.prog 302 = some 256 := by kernel_rfl
theorem c_302 : cmpT Tryz.prog 302 = some true := by kernel_rfl
theorem a_304 : aggT Tryz.prog 304 = some false := by kernel_rfl
theorem s_304 : sizeT Tryz.prog 304 = some 1 := by kernel_rfl
theorem b_304 : bytesT Tryz.prog 304 = some 8 := by kernel_rfl
theorem c_304 : cmpT Tryz.prog 304 = some true := by kernel_rfl
theorem z_304 : zeroT Tryz.prog 304 = some (.pointer none) := by kernel_rfl
theorem a_306 : aggT Tryz.prog 306 = some true := by kernel_rfl
theorem s_306 : sizeT Tryz.prog 306 = some 2 := by kernel_rfl
theorem b_306 : bytesT Tryz.prog 306 = some 32 := by kernel_rfl
theorem c_306 : cmpT Tryz.prog 306 = some false := by kernel_rfl
theorem z_306 : zeroT Tryz.prog 306 = some (.agg #[.pointer none, .slice none 0 0]) := by kernel_rfl
theorem f_306_0 : fieldOff Tryz.prog 306 0 = some (0, 304) := by kernel_rfl
theorem f_306_1 : fieldOff Tryz.prog 306 1 = some (1, 27) := by kernel_rfl
theorem p_306 : partsT Tryz.prog 306 = some [(0, 1), (1, 1)] := by kernel_rfl
theorem a_312 : aggT Tryz.prog 312 = some false := by kernel_rfl
theorem s_312 : sizeT Tryz.prog 312 = some 1 := by kernel_rfl
theorem b_312 : bytesT Tryz.prog 312 = some 1 := by kernel_rfl
theorem c_312 : cmpT Tryz.prog 312 = some true := by kernel_rfl
theorem z_312 : zeroT Tryz.prog 312 = some (.int .u8 (0)) := by kernel_rfl
theorem a_316 : aggT Tryz.prog 316 = some true := by kernel_rfl
theorem s_316 : sizeT Tryz.prog 316 = some 24 := by kernel_rfl
theorem b_316 : bytesT Tryz.prog 316 = some 24 := by kernel_rfl
theorem c_316 : cmpT Tryz.prog 316 = some true := by kernel_rfl
theorem z_316 : zeroT Tryz.prog 316 = some (.agg #[.int .u8 (0), .int .u8 (0), .int .u8 (0), .int .u8 (0), .int .u8 (0), .int .u8 (0), .int .u8 (0), .int .u8 (0), .int .u8 (0), .int .u8 (0), .int .u8 (0), .int .u8 (0), .int .u8 (0), .int .u8 (0), .int .u8 (0), .int .u8 (0), .int .u8 (0), .int .u8 (0), .int .u8 (0), .int .u8 (0), .int .u8 (0), .int .u8 (0), .int .u8 (0), .int .u8 (0)]) := by kernel_rfl
theorem a_324 : aggT Tryz.prog 324 = some true := by kernel_rfl
theorem s_324 : sizeT Tryz.prog 324 = some 2 := by kernel_rfl
theorem b_324 : bytesT Tryz.prog 324 = some 16 := by kernel_rfl
theorem c_324 : cmpT Tryz.prog 324 = some true := by kernel_rfl
theorem z_324 : zeroT Tryz.prog 324 = some (.agg #[.int .u64 (0), .int .u64 (0)]) := by kernel_rfl
theorem f_324_0 : fieldOff Tryz.prog 324 0 = some (0, 109) := by kernel_rfl
theorem f_324_1 : fieldOff Tryz.prog 324 1 = some (1, 109) := by kernel_rfl
theorem p_324 : partsT Tryz.prog 324 = some [(0, 1), (1, 1)] := by kernel_rfl
theorem a_326 : aggT Tryz.prog 326 = some true := by kernel_rfl
theorem s_326 : sizeT Tryz.prog 326 = some 3 := by kernel_rfl
theorem b_326 : bytesT Tryz.prog 326 = some 24 := by kernel_rfl
theorem c_326 : cmpT Tryz.prog 326 = some true := by kernel_rfl
theorem z_326 : zeroT Tryz.prog 326 = some (.agg #[.bool false, .bool false, .string ⟨#[]⟩]) := by kernel_rfl
theorem f_326_0 : fieldOff Tryz.prog 326 0 = some (0, 4) := by kernel_rfl
theorem f_326_1 : fieldOff Tryz.prog 326 1 = some (1, 4) := by kernel_rfl
theorem f_326_2 : fieldOff Tryz.prog 326 2 = some (2, 9) := by kernel_rfl
theorem p_326 : partsT Tryz.prog 326 = some [(0, 1), (1, 1), (2, 1)] := by kernel_rfl
theorem a_328 : aggT Tryz.prog 328 = some true := by kernel_rfl
theorem s_328 : sizeT Tryz.prog 328 = some 5 := by kernel_rfl
theorem b_328 : bytesT Tryz.prog 328 = some 40 := by kernel_rfl
theorem c_328 : cmpT Tryz.prog 328 = some true := by kernel_rfl
theorem z_328 : zeroT Tryz.prog 328 = some (.agg #[.int .u64 (0), .int .u64 (0), .bool false, .bool false, .string ⟨#[]⟩]) := by kernel_rfl
theorem f_328_0 : fieldOff Tryz.prog 328 0 = some (0, 324) := by kernel_rfl
theorem f_328_1 : fieldOff Tryz.prog 328 1 = some (2, 326) := by kernel_rfl
theorem p_328 : partsT Tryz.prog 328 = some [(0, 2), (2, 3)] := by kernel_rfl
theorem a_331 : aggT Tryz.prog 331 = some false := by kernel_rfl
theorem s_331 : sizeT Tryz.prog 331 = some 1 := by kernel_rfl
theorem b_331 : bytesT Tryz.prog 331 = some 8 := by kernel_rfl
theorem c_331 : cmpT Tryz.prog 331 = some true := by kernel_rfl
theorem z_331 : zeroT Tryz.prog 331 = some (.pointer none) := by kernel_rfl
theorem m_331_Error : amethod Tryz.prog 331 "Error" = some 362 := by kernel_rfl
theorem a_333 : aggT Tryz.prog 333 = some true := by kernel_rfl
theorem s_333 : sizeT Tryz.prog 333 = some 2 := by kernel_rfl
theorem b_333 : bytesT Tryz.prog 333 = some 32 := by kernel_rfl
theorem c_333 : cmpT Tryz.prog 333 = some true := by kernel_rfl
theorem z_333 : zeroT Tryz.prog 333 = some (.agg #[.string ⟨#[]⟩, .nilIface]) := by kernel_rfl
theorem f_333_0 : fieldOff Tryz.prog 333 0 = some (0, 9) := by kernel_rfl
theorem f_333_1 : fieldOff Tryz.prog 333 1 = some (1, 79) := by kernel_rfl
theorem p_333 : partsT Tryz.prog 333 = some [(0, 1), (1, 1)] := by kernel_rfl
theorem a_334 : aggT Tryz.prog 334 = some false := by kernel_rfl
theorem s_334 : sizeT Tryz.prog 334 = some 1 := by kernel_rfl
theorem b_334 : bytesT Tryz.prog 334 = some 16 := by kernel_rfl
theorem c_334 : cmpT Tryz.prog 334 = some true := by kernel_rfl
theorem z_334 : zeroT Tryz.prog 334 = some (.string ⟨#[]⟩) := by kernel_rfl
theorem m_334_Error : amethod Tryz.prog 334 "Error" = some 363 := by kernel_rfl
theorem a_336 : aggT Tryz.prog 336 = some false := by kernel_rfl
theorem s_336 : sizeT Tryz.prog 336 = some 1 := by kernel_rfl
theorem b_336 : bytesT Tryz.prog 336 = some 16 := by kernel_rfl
theorem c_336 : cmpT Tryz.prog 336 = some true := by kernel_rfl
theorem z_336 : zeroT Tryz.prog 336 = some (.string ⟨#[]⟩) := by kernel_rfl
theorem m_336_Error : amethod Tryz.prog 336 "Error" = some 364 := by kernel_rfl
theorem a_338 : aggT Tryz.prog 338 = some true := by kernel_rfl
theorem s_338 : sizeT Tryz.prog 338 = some 3 := by kernel_rfl
theorem b_338 : bytesT Tryz.prog 338 = some 40 := by kernel_rfl
theorem c_338 : cmpT Tryz.prog 338 = some true := by kernel_rfl
theorem z_338 : zeroT Tryz.prog 338 = some (.agg #[.string ⟨#[]⟩, .string ⟨#[]⟩, .bool false]) := by kernel_rfl
theorem f_338_0 : fieldOff Tryz.prog 338 0 = some (0, 9) := by kernel_rfl
theorem f_338_1 : fieldOff Tryz.prog 338 1 = some (1, 9) := by kernel_rfl
theorem f_338_2 : fieldOff Tryz.prog 338 2 = some (2, 4) := by kernel_rfl
theorem p_338 : partsT Tryz.prog 338 = some [(0, 1), (1, 1), (2, 1)] := by kernel_rfl
theorem a_339 : aggT Tryz.prog 339 = some true := by kernel_rfl
theorem s_339 : sizeT Tryz.prog 339 = some 64 := by kernel_rfl
theorem b_339 : bytesT Tryz.prog 339 = some 64 := by kernel_rfl
theorem c_339 : cmpT Tryz.prog 339 = some true := by kernel_rfl
theorem a_347 : aggT Tryz.prog 347 = some true := by kernel_rfl
theorem s_347 : sizeT Tryz.prog 347 = some 3 := by kernel_rfl
theorem b_347 : bytesT Tryz.prog 347 = some 48 := by kernel_rfl
theorem c_347 : cmpT Tryz.prog 347 = some true := by kernel_rfl
theorem z_347 : zeroT Tryz.prog 347 = some (.agg #[.string ⟨#[]⟩, .string ⟨#[]⟩, .string ⟨#[]⟩]) := by kernel_rfl
theorem f_347_0 : fieldOff Tryz.prog 347 0 = some (0, 9) := by kernel_rfl
theorem f_347_1 : fieldOff Tryz.prog 347 1 = some (1, 9) := by kernel_rfl
theorem f_347_2 : fieldOff Tryz.prog 347 2 = some (2, 9) := by kernel_rfl
theorem p_347 : partsT Tryz.prog 347 = some [(0, 1), (1, 1), (2, 1)] := by kernel_rfl
theorem m_347_Error : amethod Tryz.prog 347 "Error" = some 365 := by kernel_rfl
theorem a_349 : aggT Tryz.prog 349 = some true := by kernel_rfl
theorem s_349 : sizeT Tryz.prog 349 = some 256 := by kernel_rfl
theorem b_349 : bytesT Tryz.prog 349 = some 256 := by kernel_rfl
theorem c_349 : cmpT Tryz.prog 349 = some true := by kernel_rfl
theorem a_350 : aggT Tryz.prog 350 = some true := by kernel_rfl
theorem s_350 : sizeT Tryz.prog 350 = some 4 := by kernel_rfl
theorem b_350 : bytesT Tryz.prog 350 = some 4 := by kernel_rfl
theorem c_350 : cmpT Tryz.prog 350 = some true := by kernel_rfl
theorem z_350 : zeroT Tryz.prog 350 = some (.agg #[.int .u8 (0), .int .u8 (0), .int .u8 (0), .int .u8 (0)]) := by kernel_rfl
theorem a_353 : aggT Tryz.prog 353 = some true := by kernel_rfl
theorem s_353 : sizeT Tryz.prog 353 = some 16 := by kernel_rfl
theorem b_353 : bytesT Tryz.prog 353 = some 16 := by kernel_rfl
theorem c_353 : cmpT Tryz.prog 353 = some true := by kernel_rfl
theorem z_353 : zeroT Tryz.prog 353 = some (.agg #[.int .u8 (0), .int .u8 (0), .int .u8 (0), .int .u8 (0), .int .u8 (0), .int .u8 (0), .int .u8 (0), .int .u8 (0), .int .u8 (0), .int .u8 (0), .int .u8 (0), .int .u8 (0), .int .u8 (0), .int .u8 (0), .int .u8 (0), .int .u8 (0)]) := by kernel_rfl
theorem a_357 : aggT Tryz.prog 357 = some true := by kernel_rfl
theorem s_357 : sizeT Tryz.prog 357 = some 32 := by kernel_rfl
theorem b_357 : bytesT Tryz.prog 357 = some 32 := by kernel_rfl
theorem c_357 : cmpT Tryz.prog 357 = some true := by kernel_rfl
theorem z_357 : zeroT Tryz.prog 357 = some (.agg #[.int .u8 (0), .int .u8 (0), .int .u8 (0), .int .u8 (0), .int .u8 (0), .int .u8 (0), .int .u8 (0), .int .u8 (0), .int .u8 (0), .int .u8 (0), .int .u8 (0), .int .u8 (0), .int .u8 (0), .int .u8 (0), .int .u8 (0), .int .u8 (0), .int .u8 (0), .int .u8 (0), .int .u8 (0), .int .u8 (0), .int .u8 (0), .int .u8 (0), .int .u8 (0), .int .u8 (0), .int .u8 (0), .int .u8 (0), .int .u8 (0), .int .u8 (0), .int .u8 (0), .int .u8 (0), .int .u8 (0), .int .u8 (0)]) := by kernel_rfl
theorem a_375 : aggT Tryz.prog 375 = some false := by kernel_rfl
theorem s_375 : sizeT Tryz.prog 375 = some 1 := by kernel_rfl
theorem b_375 : bytesT Tryz.prog 375 = some 8 := by kernel_rfl
theorem c_375 : cmpT Tryz.prog 375 = some true := by kernel_rfl
theorem z_375 : zeroT Tryz.prog 375 = some (.pointer none) := by kernel_rfl
theorem a_390 : aggT Tryz.prog 390 = some false := by kernel_rfl
theorem s_390 : sizeT Tryz.prog 390 = some 1 := by kernel_rfl
theorem b_390 : bytesT Tryz.prog 390 = some 16 := by kernel_rfl
theorem c_390 : cmpT Tryz.prog 390 = some true := by kernel_rfl
theorem z_390 : zeroT Tryz.prog 390 = some (.string ⟨#[]⟩) := by kernel_rfl
theorem m_390_Error : amethod Tryz.prog 390 "Error" = some 368 := by kernel_rfl
end Go.Proofs.YtbjaapiliegegaaGreatDoor.Sy
