/- Facts of the types and functions of the translation, as closed tests. -/
import Derived.Test.YtmbleojlnaofjaaDoorO6
namespace Go.Proofs.YtmbleojlnaofjaaDoor.F
open Go Go.Proofs.YtmbleojlnaofjaaDoor.D
theorem sc2 : scalarT Tryd.prog 2 = true := by kernel_rfl
theorem if2 : ifaceFree Tryd.prog 2 = true := by kernel_rfl
theorem co2 : Tryd.prog.cellsOf 2 = 1 := by kernel_rfl
theorem in2 : (Tryd.prog.info? 2).isSome = true := by kernel_rfl
theorem us2 : (Tryd.prog.underlying 2).isSome = true := by kernel_rfl
theorem z2 : zeroT Tryd.prog 2 = some (.int .i64 0) := by kernel_rfl
theorem sc3 : scalarT Tryd.prog 3 = true := by kernel_rfl
theorem if3 : ifaceFree Tryd.prog 3 = true := by kernel_rfl
theorem co3 : Tryd.prog.cellsOf 3 = 1 := by kernel_rfl
theorem in3 : (Tryd.prog.info? 3).isSome = true := by kernel_rfl
theorem us3 : (Tryd.prog.underlying 3).isSome = true := by kernel_rfl
theorem z3 : zeroT Tryd.prog 3 = some (.int .i64 0) := by kernel_rfl
theorem sc4 : scalarT Tryd.prog 4 = true := by kernel_rfl
theorem if4 : ifaceFree Tryd.prog 4 = true := by kernel_rfl
theorem co4 : Tryd.prog.cellsOf 4 = 1 := by kernel_rfl
theorem in4 : (Tryd.prog.info? 4).isSome = true := by kernel_rfl
theorem us4 : (Tryd.prog.underlying 4).isSome = true := by kernel_rfl
theorem z4 : zeroT Tryd.prog 4 = some (.bool false) := by kernel_rfl
theorem sc5 : scalarT Tryd.prog 5 = true := by kernel_rfl
theorem if5 : ifaceFree Tryd.prog 5 = true := by kernel_rfl
theorem co5 : Tryd.prog.cellsOf 5 = 1 := by kernel_rfl
theorem in5 : (Tryd.prog.info? 5).isSome = true := by kernel_rfl
theorem us5 : (Tryd.prog.underlying 5).isSome = true := by kernel_rfl
theorem z5 : zeroT Tryd.prog 5 = some (.int .u8 0) := by kernel_rfl
theorem sc6 : scalarT Tryd.prog 6 = true := by kernel_rfl
theorem if6 : ifaceFree Tryd.prog 6 = true := by kernel_rfl
theorem co6 : Tryd.prog.cellsOf 6 = 1 := by kernel_rfl
theorem in6 : (Tryd.prog.info? 6).isSome = true := by kernel_rfl
theorem us6 : (Tryd.prog.underlying 6).isSome = true := by kernel_rfl
theorem z6 : zeroT Tryd.prog 6 = some (.int .u8 0) := by kernel_rfl
theorem ag7 : aggT Tryd.prog 7 4 = true := by kernel_rfl
theorem if7 : ifaceFree Tryd.prog 7 = true := by kernel_rfl
theorem in7 : (Tryd.prog.info? 7).isSome = true := by kernel_rfl
theorem us7 : (Tryd.prog.underlying 7).isSome = true := by kernel_rfl
theorem z7 : zeroT Tryd.prog 7 = some (.agg #[.int .i64 0, .int .i64 0, .bool false, .int .u8 0]) := by kernel_rfl
theorem fd7_0 : fieldT Tryd.prog 7 0 0 = true := by kernel_rfl
theorem fd7_1 : fieldT Tryd.prog 7 1 1 = true := by kernel_rfl
theorem fd7_2 : fieldT Tryd.prog 7 2 2 = true := by kernel_rfl
theorem fd7_3 : fieldT Tryd.prog 7 3 3 = true := by kernel_rfl
theorem ag8 : aggT Tryd.prog 8 4 = true := by kernel_rfl
theorem if8 : ifaceFree Tryd.prog 8 = true := by kernel_rfl
theorem in8 : (Tryd.prog.info? 8).isSome = true := by kernel_rfl
theorem us8 : (Tryd.prog.underlying 8).isSome = true := by kernel_rfl
theorem z8 : zeroT Tryd.prog 8 = some (.agg #[.int .i64 0, .int .i64 0, .bool false, .int .u8 0]) := by kernel_rfl
theorem fd8_0 : fieldT Tryd.prog 8 0 0 = true := by kernel_rfl
theorem fd8_1 : fieldT Tryd.prog 8 1 1 = true := by kernel_rfl
theorem fd8_2 : fieldT Tryd.prog 8 2 2 = true := by kernel_rfl
theorem fd8_3 : fieldT Tryd.prog 8 3 3 = true := by kernel_rfl
theorem sc9 : scalarT Tryd.prog 9 = true := by kernel_rfl
theorem if9 : ifaceFree Tryd.prog 9 = true := by kernel_rfl
theorem co9 : Tryd.prog.cellsOf 9 = 1 := by kernel_rfl
theorem in9 : (Tryd.prog.info? 9).isSome = true := by kernel_rfl
theorem us9 : (Tryd.prog.underlying 9).isSome = true := by kernel_rfl
theorem z9 : zeroT Tryd.prog 9 = some (.string ⟨#[]⟩) := by kernel_rfl
theorem sc10 : scalarT Tryd.prog 10 = true := by kernel_rfl
theorem if10 : ifaceFree Tryd.prog 10 = true := by kernel_rfl
theorem co10 : Tryd.prog.cellsOf 10 = 1 := by kernel_rfl
theorem in10 : (Tryd.prog.info? 10).isSome = true := by kernel_rfl
theorem us10 : (Tryd.prog.underlying 10).isSome = true := by kernel_rfl
theorem z10 : zeroT Tryd.prog 10 = some (.string ⟨#[]⟩) := by kernel_rfl
theorem sc11 : scalarT Tryd.prog 11 = true := by kernel_rfl
theorem if11 : ifaceFree Tryd.prog 11 = true := by kernel_rfl
theorem co11 : Tryd.prog.cellsOf 11 = 1 := by kernel_rfl
theorem in11 : (Tryd.prog.info? 11).isSome = true := by kernel_rfl
theorem us11 : (Tryd.prog.underlying 11).isSome = true := by kernel_rfl
theorem z11 : zeroT Tryd.prog 11 = some (.string ⟨#[]⟩) := by kernel_rfl
theorem sc12 : scalarT Tryd.prog 12 = true := by kernel_rfl
theorem if12 : ifaceFree Tryd.prog 12 = true := by kernel_rfl
theorem co12 : Tryd.prog.cellsOf 12 = 1 := by kernel_rfl
theorem in12 : (Tryd.prog.info? 12).isSome = true := by kernel_rfl
theorem us12 : (Tryd.prog.underlying 12).isSome = true := by kernel_rfl
theorem z12 : zeroT Tryd.prog 12 = some (.int .u64 0) := by kernel_rfl
theorem ag13 : aggT Tryd.prog 13 2 = true := by kernel_rfl
theorem if13 : ifaceFree Tryd.prog 13 = true := by kernel_rfl
theorem in13 : (Tryd.prog.info? 13).isSome = true := by kernel_rfl
theorem us13 : (Tryd.prog.underlying 13).isSome = true := by kernel_rfl
theorem z13 : zeroT Tryd.prog 13 = some (.agg #[.string ⟨#[]⟩, .int .u64 0]) := by kernel_rfl
theorem fd13_0 : fieldT Tryd.prog 13 0 0 = true := by kernel_rfl
theorem fd13_1 : fieldT Tryd.prog 13 1 1 = true := by kernel_rfl
theorem ag14 : aggT Tryd.prog 14 2 = true := by kernel_rfl
theorem if14 : ifaceFree Tryd.prog 14 = true := by kernel_rfl
theorem in14 : (Tryd.prog.info? 14).isSome = true := by kernel_rfl
theorem us14 : (Tryd.prog.underlying 14).isSome = true := by kernel_rfl
theorem z14 : zeroT Tryd.prog 14 = some (.agg #[.string ⟨#[]⟩, .int .u64 0]) := by kernel_rfl
theorem fd14_0 : fieldT Tryd.prog 14 0 0 = true := by kernel_rfl
theorem fd14_1 : fieldT Tryd.prog 14 1 1 = true := by kernel_rfl
theorem sc15 : scalarT Tryd.prog 15 = true := by kernel_rfl
theorem if15 : ifaceFree Tryd.prog 15 = true := by kernel_rfl
theorem co15 : Tryd.prog.cellsOf 15 = 1 := by kernel_rfl
theorem in15 : (Tryd.prog.info? 15).isSome = true := by kernel_rfl
theorem us15 : (Tryd.prog.underlying 15).isSome = true := by kernel_rfl
theorem z15 : zeroT Tryd.prog 15 = some (.pointer none) := by kernel_rfl
theorem sc16 : scalarT Tryd.prog 16 = true := by kernel_rfl
theorem if16 : ifaceFree Tryd.prog 16 = true := by kernel_rfl
theorem co16 : Tryd.prog.cellsOf 16 = 1 := by kernel_rfl
theorem in16 : (Tryd.prog.info? 16).isSome = true := by kernel_rfl
theorem us16 : (Tryd.prog.underlying 16).isSome = true := by kernel_rfl
theorem z16 : zeroT Tryd.prog 16 = some (.pointer none) := by kernel_rfl
theorem sc17 : scalarT Tryd.prog 17 = true := by kernel_rfl
theorem if17 : ifaceFree Tryd.prog 17 = true := by kernel_rfl
theorem co17 : Tryd.prog.cellsOf 17 = 1 := by kernel_rfl
theorem in17 : (Tryd.prog.info? 17).isSome = true := by kernel_rfl
theorem us17 : (Tryd.prog.underlying 17).isSome = true := by kernel_rfl
theorem z17 : zeroT Tryd.prog 17 = some (.pointer none) := by kernel_rfl
theorem ag18 : aggT Tryd.prog 18 1 = true := by kernel_rfl
theorem if18 : ifaceFree Tryd.prog 18 = true := by kernel_rfl
theorem co18 : Tryd.prog.cellsOf 18 = 1 := by kernel_rfl
theorem in18 : (Tryd.prog.info? 18).isSome = true := by kernel_rfl
theorem us18 : (Tryd.prog.underlying 18).isSome = true := by kernel_rfl
theorem z18 : zeroT Tryd.prog 18 = some (.agg #[.pointer none]) := by kernel_rfl
theorem fd18_0 : fieldT Tryd.prog 18 0 0 = true := by kernel_rfl
theorem ag19 : aggT Tryd.prog 19 1 = true := by kernel_rfl
theorem if19 : ifaceFree Tryd.prog 19 = true := by kernel_rfl
theorem co19 : Tryd.prog.cellsOf 19 = 1 := by kernel_rfl
theorem in19 : (Tryd.prog.info? 19).isSome = true := by kernel_rfl
theorem us19 : (Tryd.prog.underlying 19).isSome = true := by kernel_rfl
theorem z19 : zeroT Tryd.prog 19 = some (.agg #[.pointer none]) := by kernel_rfl
theorem fd19_0 : fieldT Tryd.prog 19 0 0 = true := by kernel_rfl
theorem sc20 : scalarT Tryd.prog 20 = true := by kernel_rfl
theorem co20 : Tryd.prog.cellsOf 20 = 1 := by kernel_rfl
theorem in20 : (Tryd.prog.info? 20).isSome = true := by kernel_rfl
theorem us20 : (Tryd.prog.underlying 20).isSome = true := by kernel_rfl
theorem z20 : zeroT Tryd.prog 20 = some (.nilIface) := by kernel_rfl
theorem sc21 : scalarT Tryd.prog 21 = true := by kernel_rfl
theorem if21 : ifaceFree Tryd.prog 21 = true := by kernel_rfl
theorem co21 : Tryd.prog.cellsOf 21 = 1 := by kernel_rfl
theorem in21 : (Tryd.prog.info? 21).isSome = true := by kernel_rfl
theorem us21 : (Tryd.prog.underlying 21).isSome = true := by kernel_rfl
theorem z21 : zeroT Tryd.prog 21 = some (.int .i32 0) := by kernel_rfl
theorem sc22 : scalarT Tryd.prog 22 = true := by kernel_rfl
theorem if22 : ifaceFree Tryd.prog 22 = true := by kernel_rfl
theorem co22 : Tryd.prog.cellsOf 22 = 1 := by kernel_rfl
theorem in22 : (Tryd.prog.info? 22).isSome = true := by kernel_rfl
theorem us22 : (Tryd.prog.underlying 22).isSome = true := by kernel_rfl
theorem z22 : zeroT Tryd.prog 22 = some (.int .i64 0) := by kernel_rfl
theorem sc23 : scalarT Tryd.prog 23 = true := by kernel_rfl
theorem if23 : ifaceFree Tryd.prog 23 = true := by kernel_rfl
theorem co23 : Tryd.prog.cellsOf 23 = 1 := by kernel_rfl
theorem in23 : (Tryd.prog.info? 23).isSome = true := by kernel_rfl
theorem us23 : (Tryd.prog.underlying 23).isSome = true := by kernel_rfl
theorem z23 : zeroT Tryd.prog 23 = some (.slice none 0 0) := by kernel_rfl
theorem el23 : eltT Tryd.prog 23 26 6 104 = true := by kernel_rfl
theorem sl23 : sliceT Tryd.prog 23 26 6 = true := by kernel_rfl
theorem sc24 : scalarT Tryd.prog 24 = true := by kernel_rfl
theorem if24 : ifaceFree Tryd.prog 24 = true := by kernel_rfl
theorem co24 : Tryd.prog.cellsOf 24 = 1 := by kernel_rfl
theorem in24 : (Tryd.prog.info? 24).isSome = true := by kernel_rfl
theorem us24 : (Tryd.prog.underlying 24).isSome = true := by kernel_rfl
theorem z24 : zeroT Tryd.prog 24 = some (.slice none 0 0) := by kernel_rfl
theorem el24 : eltT Tryd.prog 24 9 1 16 = true := by kernel_rfl
theorem sl24 : sliceT Tryd.prog 24 9 1 = true := by kernel_rfl
theorem ag25 : aggT Tryd.prog 25 6 = true := by kernel_rfl
theorem if25 : ifaceFree Tryd.prog 25 = true := by kernel_rfl
theorem in25 : (Tryd.prog.info? 25).isSome = true := by kernel_rfl
theorem us25 : (Tryd.prog.underlying 25).isSome = true := by kernel_rfl
theorem z25 : zeroT Tryd.prog 25 = some (.agg #[.int .i64 0, .int .i64 0, .string ⟨#[]⟩, .slice none 0 0, .slice none 0 0, .slice none 0 0]) := by kernel_rfl
theorem fd25_0 : fieldT Tryd.prog 25 0 0 = true := by kernel_rfl
theorem fd25_1 : fieldT Tryd.prog 25 1 1 = true := by kernel_rfl
theorem fd25_2 : fieldT Tryd.prog 25 2 2 = true := by kernel_rfl
theorem fd25_3 : fieldT Tryd.prog 25 3 3 = true := by kernel_rfl
theorem fd25_4 : fieldT Tryd.prog 25 4 4 = true := by kernel_rfl
theorem fd25_5 : fieldT Tryd.prog 25 5 5 = true := by kernel_rfl
theorem ag26 : aggT Tryd.prog 26 6 = true := by kernel_rfl
theorem if26 : ifaceFree Tryd.prog 26 = true := by kernel_rfl
theorem in26 : (Tryd.prog.info? 26).isSome = true := by kernel_rfl
theorem us26 : (Tryd.prog.underlying 26).isSome = true := by kernel_rfl
theorem z26 : zeroT Tryd.prog 26 = some (.agg #[.int .i64 0, .int .i64 0, .string ⟨#[]⟩, .slice none 0 0, .slice none 0 0, .slice none 0 0]) := by kernel_rfl
theorem fd26_0 : fieldT Tryd.prog 26 0 0 = true := by kernel_rfl
theorem fd26_1 : fieldT Tryd.prog 26 1 1 = true := by kernel_rfl
theorem fd26_2 : fieldT Tryd.prog 26 2 2 = true := by kernel_rfl
theorem fd26_3 : fieldT Tryd.prog 26 3 3 = true := by kernel_rfl
theorem fd26_4 : fieldT Tryd.prog 26 4 4 = true := by kernel_rfl
theorem fd26_5 : fieldT Tryd.prog 26 5 5 = true := by kernel_rfl
theorem sc31 : scalarT Tryd.prog 31 = true := by kernel_rfl
theorem if31 : ifaceFree Tryd.prog 31 = true := by kernel_rfl
theorem co31 : Tryd.prog.cellsOf 31 = 1 := by kernel_rfl
theorem in31 : (Tryd.prog.info? 31).isSome = true := by kernel_rfl
theorem us31 : (Tryd.prog.underlying 31).isSome = true := by kernel_rfl
theorem z31 : zeroT Tryd.prog 31 = some (.slice none 0 0) := by kernel_rfl
theorem el31 : eltT Tryd.prog 31 21 1 4 = true := by kernel_rfl
theorem sl31 : sliceT Tryd.prog 31 21 1 = true := by kernel_rfl
theorem ag33 : aggT Tryd.prog 33 7 = true := by kernel_rfl
theorem if33 : ifaceFree Tryd.prog 33 = true := by kernel_rfl
theorem in33 : (Tryd.prog.info? 33).isSome = true := by kernel_rfl
theorem us33 : (Tryd.prog.underlying 33).isSome = true := by kernel_rfl
theorem z33 : zeroT Tryd.prog 33 = some (.agg #[.int .i64 0, .int .i64 0, .string ⟨#[]⟩, .slice none 0 0, .slice none 0 0, .slice none 0 0, .int .i64 0]) := by kernel_rfl
theorem fd33_0 : fieldT Tryd.prog 33 0 0 = true := by kernel_rfl
theorem fd33_1 : fieldT Tryd.prog 33 1 6 = true := by kernel_rfl
theorem ag34 : aggT Tryd.prog 34 7 = true := by kernel_rfl
theorem if34 : ifaceFree Tryd.prog 34 = true := by kernel_rfl
theorem in34 : (Tryd.prog.info? 34).isSome = true := by kernel_rfl
theorem us34 : (Tryd.prog.underlying 34).isSome = true := by kernel_rfl
theorem z34 : zeroT Tryd.prog 34 = some (.agg #[.int .i64 0, .int .i64 0, .string ⟨#[]⟩, .slice none 0 0, .slice none 0 0, .slice none 0 0, .int .i64 0]) := by kernel_rfl
theorem fd34_0 : fieldT Tryd.prog 34 0 0 = true := by kernel_rfl
theorem fd34_1 : fieldT Tryd.prog 34 1 6 = true := by kernel_rfl
theorem sc50 : scalarT Tryd.prog 50 = true := by kernel_rfl
theorem if50 : ifaceFree Tryd.prog 50 = true := by kernel_rfl
theorem co50 : Tryd.prog.cellsOf 50 = 1 := by kernel_rfl
theorem in50 : (Tryd.prog.info? 50).isSome = true := by kernel_rfl
theorem us50 : (Tryd.prog.underlying 50).isSome = true := by kernel_rfl
theorem z50 : zeroT Tryd.prog 50 = some (.pointer none) := by kernel_rfl
theorem ag51 : aggT Tryd.prog 51 3 = true := by kernel_rfl
theorem if51 : ifaceFree Tryd.prog 51 = true := by kernel_rfl
theorem in51 : (Tryd.prog.info? 51).isSome = true := by kernel_rfl
theorem us51 : (Tryd.prog.underlying 51).isSome = true := by kernel_rfl
theorem z51 : zeroT Tryd.prog 51 = some (.agg #[.int .i64 0, .int .i64 0, .bool false]) := by kernel_rfl
theorem fd51_0 : fieldT Tryd.prog 51 0 0 = true := by kernel_rfl
theorem fd51_1 : fieldT Tryd.prog 51 1 1 = true := by kernel_rfl
theorem fd51_2 : fieldT Tryd.prog 51 2 2 = true := by kernel_rfl
theorem ag52 : aggT Tryd.prog 52 3 = true := by kernel_rfl
theorem if52 : ifaceFree Tryd.prog 52 = true := by kernel_rfl
theorem in52 : (Tryd.prog.info? 52).isSome = true := by kernel_rfl
theorem us52 : (Tryd.prog.underlying 52).isSome = true := by kernel_rfl
theorem z52 : zeroT Tryd.prog 52 = some (.agg #[.int .i64 0, .int .i64 0, .bool false]) := by kernel_rfl
theorem fd52_0 : fieldT Tryd.prog 52 0 0 = true := by kernel_rfl
theorem fd52_1 : fieldT Tryd.prog 52 1 1 = true := by kernel_rfl
theorem fd52_2 : fieldT Tryd.prog 52 2 2 = true := by kernel_rfl
theorem sc55 : scalarT Tryd.prog 55 = true := by kernel_rfl
theorem if55 : ifaceFree Tryd.prog 55 = true := by kernel_rfl
theorem co55 : Tryd.prog.cellsOf 55 = 1 := by kernel_rfl
theorem in55 : (Tryd.prog.info? 55).isSome = true := by kernel_rfl
theorem us55 : (Tryd.prog.underlying 55).isSome = true := by kernel_rfl
theorem z55 : zeroT Tryd.prog 55 = some (.int .i64 0) := by kernel_rfl
theorem sc60 : scalarT Tryd.prog 60 = true := by kernel_rfl
theorem if60 : ifaceFree Tryd.prog 60 = true := by kernel_rfl
theorem co60 : Tryd.prog.cellsOf 60 = 1 := by kernel_rfl
theorem in60 : (Tryd.prog.info? 60).isSome = true := by kernel_rfl
theorem us60 : (Tryd.prog.underlying 60).isSome = true := by kernel_rfl
theorem z60 : zeroT Tryd.prog 60 = some (.slice none 0 0) := by kernel_rfl
theorem el60 : eltT Tryd.prog 60 20 1 16 = true := by kernel_rfl
theorem sl60 : sliceT Tryd.prog 60 20 1 = true := by kernel_rfl
theorem sc64 : scalarT Tryd.prog 64 = true := by kernel_rfl
theorem if64 : ifaceFree Tryd.prog 64 = true := by kernel_rfl
theorem co64 : Tryd.prog.cellsOf 64 = 1 := by kernel_rfl
theorem in64 : (Tryd.prog.info? 64).isSome = true := by kernel_rfl
theorem us64 : (Tryd.prog.underlying 64).isSome = true := by kernel_rfl
theorem z64 : zeroT Tryd.prog 64 = some (.float .f64 0) := by kernel_rfl
theorem sc66 : scalarT Tryd.prog 66 = true := by kernel_rfl
theorem if66 : ifaceFree Tryd.prog 66 = true := by kernel_rfl
theorem co66 : Tryd.prog.cellsOf 66 = 1 := by kernel_rfl
theorem in66 : (Tryd.prog.info? 66).isSome = true := by kernel_rfl
theorem us66 : (Tryd.prog.underlying 66).isSome = true := by kernel_rfl
theorem z66 : zeroT Tryd.prog 66 = some (.map none) := by kernel_rfl
theorem sc72 : scalarT Tryd.prog 72 = true := by kernel_rfl
theorem co72 : Tryd.prog.cellsOf 72 = 1 := by kernel_rfl
theorem in72 : (Tryd.prog.info? 72).isSome = true := by kernel_rfl
theorem us72 : (Tryd.prog.underlying 72).isSome = true := by kernel_rfl
theorem z72 : zeroT Tryd.prog 72 = some (.nilIface) := by kernel_rfl
theorem sc73 : scalarT Tryd.prog 73 = true := by kernel_rfl
theorem co73 : Tryd.prog.cellsOf 73 = 1 := by kernel_rfl
theorem in73 : (Tryd.prog.info? 73).isSome = true := by kernel_rfl
theorem us73 : (Tryd.prog.underlying 73).isSome = true := by kernel_rfl
theorem z73 : zeroT Tryd.prog 73 = some (.nilIface) := by kernel_rfl
theorem ag78 : aggT Tryd.prog 78 256 = true := by kernel_rfl
theorem if78 : ifaceFree Tryd.prog 78 = true := by kernel_rfl
theorem in78 : (Tryd.prog.info? 78).isSome = true := by kernel_rfl
theorem us78 : (Tryd.prog.underlying 78).isSome = true := by kernel_rfl
theorem ag79 : aggT Tryd.prog 79 2 = true := by kernel_rfl
theorem if79 : ifaceFree Tryd.prog 79 = true := by kernel_rfl
theorem in79 : (Tryd.prog.info? 79).isSome = true := by kernel_rfl
theorem us79 : (Tryd.prog.underlying 79).isSome = true := by kernel_rfl
theorem z79 : zeroT Tryd.prog 79 = some (.agg #[.int .u8 0, .int .u8 0]) := by kernel_rfl
theorem fd79_0 : fieldT Tryd.prog 79 0 0 = true := by kernel_rfl
theorem fd79_1 : fieldT Tryd.prog 79 1 1 = true := by kernel_rfl
theorem ag80 : aggT Tryd.prog 80 2 = true := by kernel_rfl
theorem if80 : ifaceFree Tryd.prog 80 = true := by kernel_rfl
theorem in80 : (Tryd.prog.info? 80).isSome = true := by kernel_rfl
theorem us80 : (Tryd.prog.underlying 80).isSome = true := by kernel_rfl
theorem z80 : zeroT Tryd.prog 80 = some (.agg #[.int .u8 0, .int .u8 0]) := by kernel_rfl
theorem fd80_0 : fieldT Tryd.prog 80 0 0 = true := by kernel_rfl
theorem fd80_1 : fieldT Tryd.prog 80 1 1 = true := by kernel_rfl
theorem ag81 : aggT Tryd.prog 81 32 = true := by kernel_rfl
theorem if81 : ifaceFree Tryd.prog 81 = true := by kernel_rfl
theorem in81 : (Tryd.prog.info? 81).isSome = true := by kernel_rfl
theorem us81 : (Tryd.prog.underlying 81).isSome = true := by kernel_rfl
theorem z81 : zeroT Tryd.prog 81 = some (.agg #[.int .u8 0, .int .u8 0, .int .u8 0, .int .u8 0, .int .u8 0, .int .u8 0, .int .u8 0, .int .u8 0, .int .u8 0, .int .u8 0, .int .u8 0, .int .u8 0, .int .u8 0, .int .u8 0, .int .u8 0, .int .u8 0, .int .u8 0, .int .u8 0, .int .u8 0, .int .u8 0, .int .u8 0, .int .u8 0, .int .u8 0, .int .u8 0, .int .u8 0, .int .u8 0, .int .u8 0, .int .u8 0, .int .u8 0, .int .u8 0, .int .u8 0, .int .u8 0]) := by kernel_rfl
theorem sc82 : scalarT Tryd.prog 82 = true := by kernel_rfl
theorem if82 : ifaceFree Tryd.prog 82 = true := by kernel_rfl
theorem co82 : Tryd.prog.cellsOf 82 = 1 := by kernel_rfl
theorem in82 : (Tryd.prog.info? 82).isSome = true := by kernel_rfl
theorem us82 : (Tryd.prog.underlying 82).isSome = true := by kernel_rfl
theorem z82 : zeroT Tryd.prog 82 = some (.int .u64 0) := by kernel_rfl
theorem sc85 : scalarT Tryd.prog 85 = true := by kernel_rfl
theorem if85 : ifaceFree Tryd.prog 85 = true := by kernel_rfl
theorem co85 : Tryd.prog.cellsOf 85 = 1 := by kernel_rfl
theorem in85 : (Tryd.prog.info? 85).isSome = true := by kernel_rfl
theorem us85 : (Tryd.prog.underlying 85).isSome = true := by kernel_rfl
theorem z85 : zeroT Tryd.prog 85 = some (.pointer none) := by kernel_rfl
theorem sc86 : scalarT Tryd.prog 86 = true := by kernel_rfl
theorem if86 : ifaceFree Tryd.prog 86 = true := by kernel_rfl
theorem co86 : Tryd.prog.cellsOf 86 = 1 := by kernel_rfl
theorem in86 : (Tryd.prog.info? 86).isSome = true := by kernel_rfl
theorem us86 : (Tryd.prog.underlying 86).isSome = true := by kernel_rfl
theorem z86 : zeroT Tryd.prog 86 = some (.string ⟨#[]⟩) := by kernel_rfl
theorem sc91 : scalarT Tryd.prog 91 = true := by kernel_rfl
theorem if91 : ifaceFree Tryd.prog 91 = true := by kernel_rfl
theorem co91 : Tryd.prog.cellsOf 91 = 1 := by kernel_rfl
theorem in91 : (Tryd.prog.info? 91).isSome = true := by kernel_rfl
theorem us91 : (Tryd.prog.underlying 91).isSome = true := by kernel_rfl
theorem z91 : zeroT Tryd.prog 91 = some (.int .u64 0) := by kernel_rfl
theorem sc97 : scalarT Tryd.prog 97 = true := by kernel_rfl
theorem if97 : ifaceFree Tryd.prog 97 = true := by kernel_rfl
theorem co97 : Tryd.prog.cellsOf 97 = 1 := by kernel_rfl
theorem in97 : (Tryd.prog.info? 97).isSome = true := by kernel_rfl
theorem us97 : (Tryd.prog.underlying 97).isSome = true := by kernel_rfl
theorem z97 : zeroT Tryd.prog 97 = some (.pointer none) := by kernel_rfl
theorem ag98 : aggT Tryd.prog 98 3 = true := by kernel_rfl
theorem if98 : ifaceFree Tryd.prog 98 = true := by kernel_rfl
theorem in98 : (Tryd.prog.info? 98).isSome = true := by kernel_rfl
theorem us98 : (Tryd.prog.underlying 98).isSome = true := by kernel_rfl
theorem z98 : zeroT Tryd.prog 98 = some (.agg #[.string ⟨#[]⟩, .nilIface, .nilIface]) := by kernel_rfl
theorem fd98_0 : fieldT Tryd.prog 98 0 0 = true := by kernel_rfl
theorem fd98_1 : fieldT Tryd.prog 98 1 1 = true := by kernel_rfl
theorem fd98_2 : fieldT Tryd.prog 98 2 2 = true := by kernel_rfl
theorem ag99 : aggT Tryd.prog 99 3 = true := by kernel_rfl
theorem if99 : ifaceFree Tryd.prog 99 = true := by kernel_rfl
theorem in99 : (Tryd.prog.info? 99).isSome = true := by kernel_rfl
theorem us99 : (Tryd.prog.underlying 99).isSome = true := by kernel_rfl
theorem z99 : zeroT Tryd.prog 99 = some (.agg #[.string ⟨#[]⟩, .nilIface, .nilIface]) := by kernel_rfl
theorem fd99_0 : fieldT Tryd.prog 99 0 0 = true := by kernel_rfl
theorem fd99_1 : fieldT Tryd.prog 99 1 1 = true := by kernel_rfl
theorem fd99_2 : fieldT Tryd.prog 99 2 2 = true := by kernel_rfl
theorem sc104 : scalarT Tryd.prog 104 = true := by kernel_rfl
theorem if104 : ifaceFree Tryd.prog 104 = true := by kernel_rfl
theorem co104 : Tryd.prog.cellsOf 104 = 1 := by kernel_rfl
theorem in104 : (Tryd.prog.info? 104).isSome = true := by kernel_rfl
theorem us104 : (Tryd.prog.underlying 104).isSome = true := by kernel_rfl
theorem z104 : zeroT Tryd.prog 104 = some (.slice none 0 0) := by kernel_rfl
theorem el104 : eltT Tryd.prog 104 135 1 4 = true := by kernel_rfl
theorem sl104 : sliceT Tryd.prog 104 135 1 = true := by kernel_rfl
theorem sc105 : scalarT Tryd.prog 105 = true := by kernel_rfl
theorem if105 : ifaceFree Tryd.prog 105 = true := by kernel_rfl
theorem co105 : Tryd.prog.cellsOf 105 = 1 := by kernel_rfl
theorem in105 : (Tryd.prog.info? 105).isSome = true := by kernel_rfl
theorem us105 : (Tryd.prog.underlying 105).isSome = true := by kernel_rfl
theorem z105 : zeroT Tryd.prog 105 = some (.slice none 0 0) := by kernel_rfl
theorem el105 : eltT Tryd.prog 105 135 1 4 = true := by kernel_rfl
theorem sl105 : sliceT Tryd.prog 105 135 1 = true := by kernel_rfl
theorem ag106 : aggT Tryd.prog 106 2 = true := by kernel_rfl
theorem if106 : ifaceFree Tryd.prog 106 = true := by kernel_rfl
theorem in106 : (Tryd.prog.info? 106).isSome = true := by kernel_rfl
theorem us106 : (Tryd.prog.underlying 106).isSome = true := by kernel_rfl
theorem z106 : zeroT Tryd.prog 106 = some (.agg #[.bool false, .slice none 0 0]) := by kernel_rfl
theorem fd106_0 : fieldT Tryd.prog 106 0 0 = true := by kernel_rfl
theorem fd106_1 : fieldT Tryd.prog 106 1 1 = true := by kernel_rfl
theorem ag107 : aggT Tryd.prog 107 2 = true := by kernel_rfl
theorem if107 : ifaceFree Tryd.prog 107 = true := by kernel_rfl
theorem in107 : (Tryd.prog.info? 107).isSome = true := by kernel_rfl
theorem us107 : (Tryd.prog.underlying 107).isSome = true := by kernel_rfl
theorem z107 : zeroT Tryd.prog 107 = some (.agg #[.bool false, .slice none 0 0]) := by kernel_rfl
theorem fd107_0 : fieldT Tryd.prog 107 0 0 = true := by kernel_rfl
theorem fd107_1 : fieldT Tryd.prog 107 1 1 = true := by kernel_rfl
theorem sc110 : scalarT Tryd.prog 110 = true := by kernel_rfl
theorem if110 : ifaceFree Tryd.prog 110 = true := by kernel_rfl
theorem co110 : Tryd.prog.cellsOf 110 = 1 := by kernel_rfl
theorem in110 : (Tryd.prog.info? 110).isSome = true := by kernel_rfl
theorem us110 : (Tryd.prog.underlying 110).isSome = true := by kernel_rfl
theorem z110 : zeroT Tryd.prog 110 = some (.pointer none) := by kernel_rfl
theorem ag111 : aggT Tryd.prog 111 2 = true := by kernel_rfl
theorem if111 : ifaceFree Tryd.prog 111 = true := by kernel_rfl
theorem in111 : (Tryd.prog.info? 111).isSome = true := by kernel_rfl
theorem us111 : (Tryd.prog.underlying 111).isSome = true := by kernel_rfl
theorem z111 : zeroT Tryd.prog 111 = some (.agg #[.string ⟨#[]⟩, .nilIface]) := by kernel_rfl
theorem fd111_0 : fieldT Tryd.prog 111 0 0 = true := by kernel_rfl
theorem fd111_1 : fieldT Tryd.prog 111 1 1 = true := by kernel_rfl
theorem ag112 : aggT Tryd.prog 112 2 = true := by kernel_rfl
theorem if112 : ifaceFree Tryd.prog 112 = true := by kernel_rfl
theorem in112 : (Tryd.prog.info? 112).isSome = true := by kernel_rfl
theorem us112 : (Tryd.prog.underlying 112).isSome = true := by kernel_rfl
theorem z112 : zeroT Tryd.prog 112 = some (.agg #[.string ⟨#[]⟩, .nilIface]) := by kernel_rfl
theorem fd112_0 : fieldT Tryd.prog 112 0 0 = true := by kernel_rfl
theorem fd112_1 : fieldT Tryd.prog 112 1 1 = true := by kernel_rfl
theorem sc127 : scalarT Tryd.prog 127 = true := by kernel_rfl
theorem if127 : ifaceFree Tryd.prog 127 = true := by kernel_rfl
theorem co127 : Tryd.prog.cellsOf 127 = 1 := by kernel_rfl
theorem in127 : (Tryd.prog.info? 127).isSome = true := by kernel_rfl
theorem us127 : (Tryd.prog.underlying 127).isSome = true := by kernel_rfl
theorem z127 : zeroT Tryd.prog 127 = some (.int .i64 0) := by kernel_rfl
theorem sc135 : scalarT Tryd.prog 135 = true := by kernel_rfl
theorem if135 : ifaceFree Tryd.prog 135 = true := by kernel_rfl
theorem co135 : Tryd.prog.cellsOf 135 = 1 := by kernel_rfl
theorem in135 : (Tryd.prog.info? 135).isSome = true := by kernel_rfl
theorem us135 : (Tryd.prog.underlying 135).isSome = true := by kernel_rfl
theorem z135 : zeroT Tryd.prog 135 = some (.int .u32 0) := by kernel_rfl
theorem sc138 : scalarT Tryd.prog 138 = true := by kernel_rfl
theorem if138 : ifaceFree Tryd.prog 138 = true := by kernel_rfl
theorem co138 : Tryd.prog.cellsOf 138 = 1 := by kernel_rfl
theorem in138 : (Tryd.prog.info? 138).isSome = true := by kernel_rfl
theorem us138 : (Tryd.prog.underlying 138).isSome = true := by kernel_rfl
theorem z138 : zeroT Tryd.prog 138 = some (.int .u64 0) := by kernel_rfl
theorem sc142 : scalarT Tryd.prog 142 = true := by kernel_rfl
theorem if142 : ifaceFree Tryd.prog 142 = true := by kernel_rfl
theorem co142 : Tryd.prog.cellsOf 142 = 1 := by kernel_rfl
theorem in142 : (Tryd.prog.info? 142).isSome = true := by kernel_rfl
theorem us142 : (Tryd.prog.underlying 142).isSome = true := by kernel_rfl
theorem z142 : zeroT Tryd.prog 142 = some (.pointer none) := by kernel_rfl
theorem sc144 : scalarT Tryd.prog 144 = true := by kernel_rfl
theorem if144 : ifaceFree Tryd.prog 144 = true := by kernel_rfl
theorem co144 : Tryd.prog.cellsOf 144 = 1 := by kernel_rfl
theorem in144 : (Tryd.prog.info? 144).isSome = true := by kernel_rfl
theorem us144 : (Tryd.prog.underlying 144).isSome = true := by kernel_rfl
theorem z144 : zeroT Tryd.prog 144 = some (.pointer none) := by kernel_rfl
theorem ag147 : aggT Tryd.prog 147 4 = true := by kernel_rfl
theorem if147 : ifaceFree Tryd.prog 147 = true := by kernel_rfl
theorem in147 : (Tryd.prog.info? 147).isSome = true := by kernel_rfl
theorem us147 : (Tryd.prog.underlying 147).isSome = true := by kernel_rfl
theorem z147 : zeroT Tryd.prog 147 = some (.agg #[.pointer none, .pointer none, .pointer none, .string ⟨#[]⟩]) := by kernel_rfl
theorem fd147_0 : fieldT Tryd.prog 147 0 0 = true := by kernel_rfl
theorem fd147_1 : fieldT Tryd.prog 147 1 1 = true := by kernel_rfl
theorem fd147_2 : fieldT Tryd.prog 147 2 2 = true := by kernel_rfl
theorem fd147_3 : fieldT Tryd.prog 147 3 3 = true := by kernel_rfl
theorem ag148 : aggT Tryd.prog 148 4 = true := by kernel_rfl
theorem if148 : ifaceFree Tryd.prog 148 = true := by kernel_rfl
theorem in148 : (Tryd.prog.info? 148).isSome = true := by kernel_rfl
theorem us148 : (Tryd.prog.underlying 148).isSome = true := by kernel_rfl
theorem z148 : zeroT Tryd.prog 148 = some (.agg #[.pointer none, .pointer none, .pointer none, .string ⟨#[]⟩]) := by kernel_rfl
theorem fd148_0 : fieldT Tryd.prog 148 0 0 = true := by kernel_rfl
theorem fd148_1 : fieldT Tryd.prog 148 1 1 = true := by kernel_rfl
theorem fd148_2 : fieldT Tryd.prog 148 2 2 = true := by kernel_rfl
theorem fd148_3 : fieldT Tryd.prog 148 3 3 = true := by kernel_rfl
theorem if149 : ifaceFree Tryd.prog 149 = true := by kernel_rfl
theorem in149 : (Tryd.prog.info? 149).isSome = true := by kernel_rfl
theorem us149 : (Tryd.prog.underlying 149).isSome = true := by kernel_rfl
theorem z149 : zeroT Tryd.prog 149 = some (.agg #[]) := by kernel_rfl
theorem if150 : ifaceFree Tryd.prog 150 = true := by kernel_rfl
theorem in150 : (Tryd.prog.info? 150).isSome = true := by kernel_rfl
theorem us150 : (Tryd.prog.underlying 150).isSome = true := by kernel_rfl
theorem z150 : zeroT Tryd.prog 150 = some (.agg #[]) := by kernel_rfl
theorem if151 : ifaceFree Tryd.prog 151 = true := by kernel_rfl
theorem in151 : (Tryd.prog.info? 151).isSome = true := by kernel_rfl
theorem us151 : (Tryd.prog.underlying 151).isSome = true := by kernel_rfl
theorem z151 : zeroT Tryd.prog 151 = some (.agg #[]) := by kernel_rfl
theorem sc152 : scalarT Tryd.prog 152 = true := by kernel_rfl
theorem if152 : ifaceFree Tryd.prog 152 = true := by kernel_rfl
theorem co152 : Tryd.prog.cellsOf 152 = 1 := by kernel_rfl
theorem in152 : (Tryd.prog.info? 152).isSome = true := by kernel_rfl
theorem us152 : (Tryd.prog.underlying 152).isSome = true := by kernel_rfl
theorem z152 : zeroT Tryd.prog 152 = some (.int .u8 0) := by kernel_rfl
theorem sc153 : scalarT Tryd.prog 153 = true := by kernel_rfl
theorem if153 : ifaceFree Tryd.prog 153 = true := by kernel_rfl
theorem co153 : Tryd.prog.cellsOf 153 = 1 := by kernel_rfl
theorem in153 : (Tryd.prog.info? 153).isSome = true := by kernel_rfl
theorem us153 : (Tryd.prog.underlying 153).isSome = true := by kernel_rfl
theorem z153 : zeroT Tryd.prog 153 = some (.int .u8 0) := by kernel_rfl
theorem sc155 : scalarT Tryd.prog 155 = true := by kernel_rfl
theorem if155 : ifaceFree Tryd.prog 155 = true := by kernel_rfl
theorem co155 : Tryd.prog.cellsOf 155 = 1 := by kernel_rfl
theorem in155 : (Tryd.prog.info? 155).isSome = true := by kernel_rfl
theorem us155 : (Tryd.prog.underlying 155).isSome = true := by kernel_rfl
theorem z155 : zeroT Tryd.prog 155 = some (.pointer none) := by kernel_rfl
theorem sc156 : scalarT Tryd.prog 156 = true := by kernel_rfl
theorem if156 : ifaceFree Tryd.prog 156 = true := by kernel_rfl
theorem co156 : Tryd.prog.cellsOf 156 = 1 := by kernel_rfl
theorem in156 : (Tryd.prog.info? 156).isSome = true := by kernel_rfl
theorem us156 : (Tryd.prog.underlying 156).isSome = true := by kernel_rfl
theorem z156 : zeroT Tryd.prog 156 = some (.int .i32 0) := by kernel_rfl
theorem sc157 : scalarT Tryd.prog 157 = true := by kernel_rfl
theorem if157 : ifaceFree Tryd.prog 157 = true := by kernel_rfl
theorem co157 : Tryd.prog.cellsOf 157 = 1 := by kernel_rfl
theorem in157 : (Tryd.prog.info? 157).isSome = true := by kernel_rfl
theorem us157 : (Tryd.prog.underlying 157).isSome = true := by kernel_rfl
theorem z157 : zeroT Tryd.prog 157 = some (.int .i32 0) := by kernel_rfl
theorem ag158 : aggT Tryd.prog 158 11 = true := by kernel_rfl
theorem if158 : ifaceFree Tryd.prog 158 = true := by kernel_rfl
theorem in158 : (Tryd.prog.info? 158).isSome = true := by kernel_rfl
theorem us158 : (Tryd.prog.underlying 158).isSome = true := by kernel_rfl
theorem z158 : zeroT Tryd.prog 158 = some (.agg #[.int .u64 0, .int .u64 0, .int .u32 0, .int .u8 0, .int .u8 0, .int .u8 0, .int .u8 0, .nilFunc, .pointer none, .int .i32 0, .int .i32 0]) := by kernel_rfl
theorem fd158_0 : fieldT Tryd.prog 158 0 0 = true := by kernel_rfl
theorem fd158_1 : fieldT Tryd.prog 158 1 1 = true := by kernel_rfl
theorem fd158_2 : fieldT Tryd.prog 158 2 2 = true := by kernel_rfl
theorem fd158_3 : fieldT Tryd.prog 158 3 3 = true := by kernel_rfl
theorem fd158_4 : fieldT Tryd.prog 158 4 4 = true := by kernel_rfl
theorem fd158_5 : fieldT Tryd.prog 158 5 5 = true := by kernel_rfl
theorem fd158_6 : fieldT Tryd.prog 158 6 6 = true := by kernel_rfl
theorem fd158_7 : fieldT Tryd.prog 158 7 7 = true := by kernel_rfl
theorem fd158_8 : fieldT Tryd.prog 158 8 8 = true := by kernel_rfl
theorem fd158_9 : fieldT Tryd.prog 158 9 9 = true := by kernel_rfl
theorem fd158_10 : fieldT Tryd.prog 158 10 10 = true := by kernel_rfl
theorem ag159 : aggT Tryd.prog 159 11 = true := by kernel_rfl
theorem if159 : ifaceFree Tryd.prog 159 = true := by kernel_rfl
theorem in159 : (Tryd.prog.info? 159).isSome = true := by kernel_rfl
theorem us159 : (Tryd.prog.underlying 159).isSome = true := by kernel_rfl
theorem z159 : zeroT Tryd.prog 159 = some (.agg #[.int .u64 0, .int .u64 0, .int .u32 0, .int .u8 0, .int .u8 0, .int .u8 0, .int .u8 0, .nilFunc, .pointer none, .int .i32 0, .int .i32 0]) := by kernel_rfl
theorem fd159_0 : fieldT Tryd.prog 159 0 0 = true := by kernel_rfl
theorem fd159_1 : fieldT Tryd.prog 159 1 1 = true := by kernel_rfl
theorem fd159_2 : fieldT Tryd.prog 159 2 2 = true := by kernel_rfl
theorem fd159_3 : fieldT Tryd.prog 159 3 3 = true := by kernel_rfl
theorem fd159_4 : fieldT Tryd.prog 159 4 4 = true := by kernel_rfl
theorem fd159_5 : fieldT Tryd.prog 159 5 5 = true := by kernel_rfl
theorem fd159_6 : fieldT Tryd.prog 159 6 6 = true := by kernel_rfl
theorem fd159_7 : fieldT Tryd.prog 159 7 7 = true := by kernel_rfl
theorem fd159_8 : fieldT Tryd.prog 159 8 8 = true := by kernel_rfl
theorem fd159_9 : fieldT Tryd.prog 159 9 9 = true := by kernel_rfl
theorem fd159_10 : fieldT Tryd.prog 159 10 10 = true := by kernel_rfl
theorem nm3 : Named Tryd.prog 3 := ⟨_, Tryd.func3, by kernel_rfl, by kernel_rfl⟩
theorem nm4 : Named Tryd.prog 4 := ⟨_, Tryd.func4, by kernel_rfl, by kernel_rfl⟩
theorem nm5 : Named Tryd.prog 5 := ⟨_, Tryd.func5, by kernel_rfl, by kernel_rfl⟩
theorem nm6 : Named Tryd.prog 6 := ⟨_, Tryd.func6, by kernel_rfl, by kernel_rfl⟩
theorem nm7 : Named Tryd.prog 7 := ⟨_, Tryd.func7, by kernel_rfl, by kernel_rfl⟩
theorem nm8 : Named Tryd.prog 8 := ⟨_, Tryd.func8, by kernel_rfl, by kernel_rfl⟩
theorem nm9 : Named Tryd.prog 9 := ⟨_, Tryd.func9, by kernel_rfl, by kernel_rfl⟩
theorem nm10 : Named Tryd.prog 10 := ⟨_, Tryd.func10, by kernel_rfl, by kernel_rfl⟩
theorem nm11 : Named Tryd.prog 11 := ⟨_, Tryd.func11, by kernel_rfl, by kernel_rfl⟩
theorem nm12 : Named Tryd.prog 12 := ⟨_, Tryd.func12, by kernel_rfl, by kernel_rfl⟩
theorem nm13 : Named Tryd.prog 13 := ⟨_, Tryd.func13, by kernel_rfl, by kernel_rfl⟩
theorem nm14 : Named Tryd.prog 14 := ⟨_, Tryd.func14, by kernel_rfl, by kernel_rfl⟩
theorem nm15 : Named Tryd.prog 15 := ⟨_, Tryd.func15, by kernel_rfl, by kernel_rfl⟩
theorem nm16 : Named Tryd.prog 16 := ⟨_, Tryd.func16, by kernel_rfl, by kernel_rfl⟩
theorem nm17 : Named Tryd.prog 17 := ⟨_, Tryd.func17, by kernel_rfl, by kernel_rfl⟩
theorem nm18 : Named Tryd.prog 18 := ⟨_, Tryd.func18, by kernel_rfl, by kernel_rfl⟩
theorem nm19 : Named Tryd.prog 19 := ⟨_, Tryd.func19, by kernel_rfl, by kernel_rfl⟩
theorem nm20 : Named Tryd.prog 20 := ⟨_, Tryd.func20, by kernel_rfl, by kernel_rfl⟩
theorem nm21 : Named Tryd.prog 21 := ⟨_, Tryd.func21, by kernel_rfl, by kernel_rfl⟩
theorem nm22 : Named Tryd.prog 22 := ⟨_, Tryd.func22, by kernel_rfl, by kernel_rfl⟩
theorem nm23 : Named Tryd.prog 23 := ⟨_, Tryd.func23, by kernel_rfl, by kernel_rfl⟩
theorem nm24 : Named Tryd.prog 24 := ⟨_, Tryd.func24, by kernel_rfl, by kernel_rfl⟩
theorem nm25 : Named Tryd.prog 25 := ⟨_, Tryd.func25, by kernel_rfl, by kernel_rfl⟩
theorem nm26 : Named Tryd.prog 26 := ⟨_, Tryd.func26, by kernel_rfl, by kernel_rfl⟩
theorem nm27 : Named Tryd.prog 27 := ⟨_, Tryd.func27, by kernel_rfl, by kernel_rfl⟩
theorem nm28 : Named Tryd.prog 28 := ⟨_, Tryd.func28, by kernel_rfl, by kernel_rfl⟩
theorem nm29 : Named Tryd.prog 29 := ⟨_, Tryd.func29, by kernel_rfl, by kernel_rfl⟩
theorem nm30 : Named Tryd.prog 30 := ⟨_, Tryd.func30, by kernel_rfl, by kernel_rfl⟩
theorem nm31 : Named Tryd.prog 31 := ⟨_, Tryd.func31, by kernel_rfl, by kernel_rfl⟩
theorem nm32 : Named Tryd.prog 32 := ⟨_, Tryd.func32, by kernel_rfl, by kernel_rfl⟩
theorem nm33 : Named Tryd.prog 33 := ⟨_, Tryd.func33, by kernel_rfl, by kernel_rfl⟩
theorem nm34 : Named Tryd.prog 34 := ⟨_, Tryd.func34, by kernel_rfl, by kernel_rfl⟩
theorem nm35 : Named Tryd.prog 35 := ⟨_, Tryd.func35, by kernel_rfl, by kernel_rfl⟩
theorem nm36 : Named Tryd.prog 36 := ⟨_, Tryd.func36, by kernel_rfl, by kernel_rfl⟩
theorem nm37 : Named Tryd.prog 37 := ⟨_, Tryd.func37, by kernel_rfl, by kernel_rfl⟩
theorem nm38 : Named Tryd.prog 38 := ⟨_, Tryd.func38, by kernel_rfl, by kernel_rfl⟩
theorem nm39 : Named Tryd.prog 39 := ⟨_, Tryd.func39, by kernel_rfl, by kernel_rfl⟩
theorem nm40 : Named Tryd.prog 40 := ⟨_, Tryd.func40, by kernel_rfl, by kernel_rfl⟩
theorem nm41 : Named Tryd.prog 41 := ⟨_, Tryd.func41, by kernel_rfl, by kernel_rfl⟩
theorem nm42 : Named Tryd.prog 42 := ⟨_, Tryd.func42, by kernel_rfl, by kernel_rfl⟩
theorem nm43 : Named Tryd.prog 43 := ⟨_, Tryd.func43, by kernel_rfl, by kernel_rfl⟩
theorem nm44 : Named Tryd.prog 44 := ⟨_, Tryd.func44, by kernel_rfl, by kernel_rfl⟩
theorem nm45 : Named Tryd.prog 45 := ⟨_, Tryd.func45, by kernel_rfl, by kernel_rfl⟩
theorem nm46 : Named Tryd.prog 46 := ⟨_, Tryd.func46, by kernel_rfl, by kernel_rfl⟩
theorem nm47 : Named Tryd.prog 47 := ⟨_, Tryd.func47, by kernel_rfl, by kernel_rfl⟩
theorem nm48 : Named Tryd.prog 48 := ⟨_, Tryd.func48, by kernel_rfl, by kernel_rfl⟩
theorem nm49 : Named Tryd.prog 49 := ⟨_, Tryd.func49, by kernel_rfl, by kernel_rfl⟩
theorem nm50 : Named Tryd.prog 50 := ⟨_, Tryd.func50, by kernel_rfl, by kernel_rfl⟩
theorem nm51 : Named Tryd.prog 51 := ⟨_, Tryd.func51, by kernel_rfl, by kernel_rfl⟩
theorem nm52 : Named Tryd.prog 52 := ⟨_, Tryd.func52, by kernel_rfl, by kernel_rfl⟩
theorem nm53 : Named Tryd.prog 53 := ⟨_, Tryd.func53, by kernel_rfl, by kernel_rfl⟩
theorem nm54 : Named Tryd.prog 54 := ⟨_, Tryd.func54, by kernel_rfl, by kernel_rfl⟩
theorem nm55 : Named Tryd.prog 55 := ⟨_, Tryd.func55, by kernel_rfl, by kernel_rfl⟩
theorem nm56 : Named Tryd.prog 56 := ⟨_, Tryd.func56, by kernel_rfl, by kernel_rfl⟩
theorem nm57 : Named Tryd.prog 57 := ⟨_, Tryd.func57, by kernel_rfl, by kernel_rfl⟩
theorem nm58 : Named Tryd.prog 58 := ⟨_, Tryd.func58, by kernel_rfl, by kernel_rfl⟩
theorem nm59 : Named Tryd.prog 59 := ⟨_, Tryd.func59, by kernel_rfl, by kernel_rfl⟩
theorem nm60 : Named Tryd.prog 60 := ⟨_, Tryd.func60, by kernel_rfl, by kernel_rfl⟩
theorem nm61 : Named Tryd.prog 61 := ⟨_, Tryd.func61, by kernel_rfl, by kernel_rfl⟩
theorem nm62 : Named Tryd.prog 62 := ⟨_, Tryd.func62, by kernel_rfl, by kernel_rfl⟩
theorem nm63 : Named Tryd.prog 63 := ⟨_, Tryd.func63, by kernel_rfl, by kernel_rfl⟩
theorem nm64 : Named Tryd.prog 64 := ⟨_, Tryd.func64, by kernel_rfl, by kernel_rfl⟩
theorem nm65 : Named Tryd.prog 65 := ⟨_, Tryd.func65, by kernel_rfl, by kernel_rfl⟩
theorem nm66 : Named Tryd.prog 66 := ⟨_, Tryd.func66, by kernel_rfl, by kernel_rfl⟩
theorem nm67 : Named Tryd.prog 67 := ⟨_, Tryd.func67, by kernel_rfl, by kernel_rfl⟩
theorem nm68 : Named Tryd.prog 68 := ⟨_, Tryd.func68, by kernel_rfl, by kernel_rfl⟩
theorem nm69 : Named Tryd.prog 69 := ⟨_, Tryd.func69, by kernel_rfl, by kernel_rfl⟩
theorem nm70 : Named Tryd.prog 70 := ⟨_, Tryd.func70, by kernel_rfl, by kernel_rfl⟩
theorem nm71 : Named Tryd.prog 71 := ⟨_, Tryd.func71, by kernel_rfl, by kernel_rfl⟩
theorem nm72 : Named Tryd.prog 72 := ⟨_, Tryd.func72, by kernel_rfl, by kernel_rfl⟩
theorem nm75 : Named Tryd.prog 75 := ⟨_, Tryd.func75, by kernel_rfl, by kernel_rfl⟩
theorem nm77 : Named Tryd.prog 77 := ⟨_, Tryd.func77, by kernel_rfl, by kernel_rfl⟩
theorem nm78 : Named Tryd.prog 78 := ⟨_, Tryd.func78, by kernel_rfl, by kernel_rfl⟩
theorem nm79 : Named Tryd.prog 79 := ⟨_, Tryd.func79, by kernel_rfl, by kernel_rfl⟩
theorem nm80 : Named Tryd.prog 80 := ⟨_, Tryd.func80, by kernel_rfl, by kernel_rfl⟩
theorem nm81 : Named Tryd.prog 81 := ⟨_, Tryd.func81, by kernel_rfl, by kernel_rfl⟩
theorem nm82 : Named Tryd.prog 82 := ⟨_, Tryd.func82, by kernel_rfl, by kernel_rfl⟩
theorem nm83 : Named Tryd.prog 83 := ⟨_, Tryd.func83, by kernel_rfl, by kernel_rfl⟩
theorem nm84 : Named Tryd.prog 84 := ⟨_, Tryd.func84, by kernel_rfl, by kernel_rfl⟩
theorem nm85 : Named Tryd.prog 85 := ⟨_, Tryd.func85, by kernel_rfl, by kernel_rfl⟩
theorem nm86 : Named Tryd.prog 86 := ⟨_, Tryd.func86, by kernel_rfl, by kernel_rfl⟩
theorem nm87 : Named Tryd.prog 87 := ⟨_, Tryd.func87, by kernel_rfl, by kernel_rfl⟩
theorem nm88 : Named Tryd.prog 88 := ⟨_, Tryd.func88, by kernel_rfl, by kernel_rfl⟩
theorem nm89 : Named Tryd.prog 89 := ⟨_, Tryd.func89, by kernel_rfl, by kernel_rfl⟩
theorem nm90 : Named Tryd.prog 90 := ⟨_, Tryd.func90, by kernel_rfl, by kernel_rfl⟩
theorem nm91 : Named Tryd.prog 91 := ⟨_, Tryd.func91, by kernel_rfl, by kernel_rfl⟩
theorem nm92 : Named Tryd.prog 92 := ⟨_, Tryd.func92, by kernel_rfl, by kernel_rfl⟩
theorem nm93 : Named Tryd.prog 93 := ⟨_, Tryd.func93, by kernel_rfl, by kernel_rfl⟩
theorem nm94 : Named Tryd.prog 94 := ⟨_, Tryd.func94, by kernel_rfl, by kernel_rfl⟩
theorem nm95 : Named Tryd.prog 95 := ⟨_, Tryd.func95, by kernel_rfl, by kernel_rfl⟩
theorem nm96 : Named Tryd.prog 96 := ⟨_, Tryd.func96, by kernel_rfl, by kernel_rfl⟩
theorem nm97 : Named Tryd.prog 97 := ⟨_, Tryd.func97, by kernel_rfl, by kernel_rfl⟩
theorem nm98 : Named Tryd.prog 98 := ⟨_, Tryd.func98, by kernel_rfl, by kernel_rfl⟩
theorem nm99 : Named Tryd.prog 99 := ⟨_, Tryd.func99, by kernel_rfl, by kernel_rfl⟩
theorem nm100 : Named Tryd.prog 100 := ⟨_, Tryd.func100, by kernel_rfl, by kernel_rfl⟩
theorem nm101 : Named Tryd.prog 101 := ⟨_, Tryd.func101, by kernel_rfl, by kernel_rfl⟩
theorem nm102 : Named Tryd.prog 102 := ⟨_, Tryd.func102, by kernel_rfl, by kernel_rfl⟩
theorem nm103 : Named Tryd.prog 103 := ⟨_, Tryd.func103, by kernel_rfl, by kernel_rfl⟩
theorem nm104 : Named Tryd.prog 104 := ⟨_, Tryd.func104, by kernel_rfl, by kernel_rfl⟩
theorem nm105 : Named Tryd.prog 105 := ⟨_, Tryd.func105, by kernel_rfl, by kernel_rfl⟩
theorem nm106 : Named Tryd.prog 106 := ⟨_, Tryd.func106, by kernel_rfl, by kernel_rfl⟩
theorem mixed : Tryd.prog.follows .mixedOrders = true := by kernel_rfl
end Go.Proofs.YtmbleojlnaofjaaDoor.F
