/- Own texts, merged: F, ShelfV, Valid, Fit. -/
import Derived.Test.YtmbleojlnaofjaaGreatDoorMu01
import Derived.Shelf.Unicode.ValidAny
import Derived.Test.YtmbleojlnaofjaaGreatDoorProg
/- Facts of the types and functions of the translation, as closed tests. -/
namespace Go.Proofs.YtmbleojlnaofjaaGreatDoor.F
open Go Go.Proofs.YtmbleojlnaofjaaGreatDoor.D
theorem sc2 : scalarT Tryz.prog 2 = true := by kernel_rfl
theorem if2 : ifaceFree Tryz.prog 2 = true := by kernel_rfl
theorem co2 : Tryz.prog.cellsOf 2 = 1 := by kernel_rfl
theorem in2 : (Tryz.prog.info? 2).isSome = true := by kernel_rfl
theorem us2 : (Tryz.prog.underlying 2).isSome = true := by kernel_rfl
theorem z2 : zeroT Tryz.prog 2 = some (.int .i64 0) := by kernel_rfl
theorem sc3 : scalarT Tryz.prog 3 = true := by kernel_rfl
theorem if3 : ifaceFree Tryz.prog 3 = true := by kernel_rfl
theorem co3 : Tryz.prog.cellsOf 3 = 1 := by kernel_rfl
theorem in3 : (Tryz.prog.info? 3).isSome = true := by kernel_rfl
theorem us3 : (Tryz.prog.underlying 3).isSome = true := by kernel_rfl
theorem z3 : zeroT Tryz.prog 3 = some (.int .i64 0) := by kernel_rfl
theorem sc4 : scalarT Tryz.prog 4 = true := by kernel_rfl
theorem if4 : ifaceFree Tryz.prog 4 = true := by kernel_rfl
theorem co4 : Tryz.prog.cellsOf 4 = 1 := by kernel_rfl
theorem in4 : (Tryz.prog.info? 4).isSome = true := by kernel_rfl
theorem us4 : (Tryz.prog.underlying 4).isSome = true := by kernel_rfl
theorem z4 : zeroT Tryz.prog 4 = some (.bool false) := by kernel_rfl
theorem sc5 : scalarT Tryz.prog 5 = true := by kernel_rfl
theorem if5 : ifaceFree Tryz.prog 5 = true := by kernel_rfl
theorem co5 : Tryz.prog.cellsOf 5 = 1 := by kernel_rfl
theorem in5 : (Tryz.prog.info? 5).isSome = true := by kernel_rfl
theorem us5 : (Tryz.prog.underlying 5).isSome = true := by kernel_rfl
theorem z5 : zeroT Tryz.prog 5 = some (.int .u8 0) := by kernel_rfl
theorem sc6 : scalarT Tryz.prog 6 = true := by kernel_rfl
theorem if6 : ifaceFree Tryz.prog 6 = true := by kernel_rfl
theorem co6 : Tryz.prog.cellsOf 6 = 1 := by kernel_rfl
theorem in6 : (Tryz.prog.info? 6).isSome = true := by kernel_rfl
theorem us6 : (Tryz.prog.underlying 6).isSome = true := by kernel_rfl
theorem z6 : zeroT Tryz.prog 6 = some (.int .u8 0) := by kernel_rfl
theorem ag7 : aggT Tryz.prog 7 4 = true := by kernel_rfl
theorem if7 : ifaceFree Tryz.prog 7 = true := by kernel_rfl
theorem in7 : (Tryz.prog.info? 7).isSome = true := by kernel_rfl
theorem us7 : (Tryz.prog.underlying 7).isSome = true := by kernel_rfl
theorem z7 : zeroT Tryz.prog 7 = some (.agg #[.int .i64 0, .int .i64 0, .bool false, .int .u8 0]) := by kernel_rfl
theorem fd7_0 : fieldT Tryz.prog 7 0 0 = true := by kernel_rfl
theorem fd7_1 : fieldT Tryz.prog 7 1 1 = true := by kernel_rfl
theorem fd7_2 : fieldT Tryz.prog 7 2 2 = true := by kernel_rfl
theorem fd7_3 : fieldT Tryz.prog 7 3 3 = true := by kernel_rfl
theorem ag8 : aggT Tryz.prog 8 4 = true := by kernel_rfl
theorem if8 : ifaceFree Tryz.prog 8 = true := by kernel_rfl
theorem in8 : (Tryz.prog.info? 8).isSome = true := by kernel_rfl
theorem us8 : (Tryz.prog.underlying 8).isSome = true := by kernel_rfl
theorem z8 : zeroT Tryz.prog 8 = some (.agg #[.int .i64 0, .int .i64 0, .bool false, .int .u8 0]) := by kernel_rfl
theorem fd8_0 : fieldT Tryz.prog 8 0 0 = true := by kernel_rfl
theorem fd8_1 : fieldT Tryz.prog 8 1 1 = true := by kernel_rfl
theorem fd8_2 : fieldT Tryz.prog 8 2 2 = true := by kernel_rfl
theorem fd8_3 : fieldT Tryz.prog 8 3 3 = true := by kernel_rfl
theorem sc9 : scalarT Tryz.prog 9 = true := by kernel_rfl
theorem if9 : ifaceFree Tryz.prog 9 = true := by kernel_rfl
theorem co9 : Tryz.prog.cellsOf 9 = 1 := by kernel_rfl
theorem in9 : (Tryz.prog.info? 9).isSome = true := by kernel_rfl
theorem us9 : (Tryz.prog.underlying 9).isSome = true := by kernel_rfl
theorem z9 : zeroT Tryz.prog 9 = some (.string ⟨#[]⟩) := by kernel_rfl
theorem sc10 : scalarT Tryz.prog 10 = true := by kernel_rfl
theorem if10 : ifaceFree Tryz.prog 10 = true := by kernel_rfl
theorem co10 : Tryz.prog.cellsOf 10 = 1 := by kernel_rfl
theorem in10 : (Tryz.prog.info? 10).isSome = true := by kernel_rfl
theorem us10 : (Tryz.prog.underlying 10).isSome = true := by kernel_rfl
theorem z10 : zeroT Tryz.prog 10 = some (.string ⟨#[]⟩) := by kernel_rfl
theorem sc11 : scalarT Tryz.prog 11 = true := by kernel_rfl
theorem if11 : ifaceFree Tryz.prog 11 = true := by kernel_rfl
theorem co11 : Tryz.prog.cellsOf 11 = 1 := by kernel_rfl
theorem in11 : (Tryz.prog.info? 11).isSome = true := by kernel_rfl
theorem us11 : (Tryz.prog.underlying 11).isSome = true := by kernel_rfl
theorem z11 : zeroT Tryz.prog 11 = some (.string ⟨#[]⟩) := by kernel_rfl
theorem sc12 : scalarT Tryz.prog 12 = true := by kernel_rfl
theorem if12 : ifaceFree Tryz.prog 12 = true := by kernel_rfl
theorem co12 : Tryz.prog.cellsOf 12 = 1 := by kernel_rfl
theorem in12 : (Tryz.prog.info? 12).isSome = true := by kernel_rfl
theorem us12 : (Tryz.prog.underlying 12).isSome = true := by kernel_rfl
theorem z12 : zeroT Tryz.prog 12 = some (.int .u64 0) := by kernel_rfl
theorem ag13 : aggT Tryz.prog 13 2 = true := by kernel_rfl
theorem if13 : ifaceFree Tryz.prog 13 = true := by kernel_rfl
theorem in13 : (Tryz.prog.info? 13).isSome = true := by kernel_rfl
theorem us13 : (Tryz.prog.underlying 13).isSome = true := by kernel_rfl
theorem z13 : zeroT Tryz.prog 13 = some (.agg #[.string ⟨#[]⟩, .int .u64 0]) := by kernel_rfl
theorem fd13_0 : fieldT Tryz.prog 13 0 0 = true := by kernel_rfl
theorem fd13_1 : fieldT Tryz.prog 13 1 1 = true := by kernel_rfl
theorem ag14 : aggT Tryz.prog 14 2 = true := by kernel_rfl
theorem if14 : ifaceFree Tryz.prog 14 = true := by kernel_rfl
theorem in14 : (Tryz.prog.info? 14).isSome = true := by kernel_rfl
theorem us14 : (Tryz.prog.underlying 14).isSome = true := by kernel_rfl
theorem z14 : zeroT Tryz.prog 14 = some (.agg #[.string ⟨#[]⟩, .int .u64 0]) := by kernel_rfl
theorem fd14_0 : fieldT Tryz.prog 14 0 0 = true := by kernel_rfl
theorem fd14_1 : fieldT Tryz.prog 14 1 1 = true := by kernel_rfl
theorem sc15 : scalarT Tryz.prog 15 = true := by kernel_rfl
theorem if15 : ifaceFree Tryz.prog 15 = true := by kernel_rfl
theorem co15 : Tryz.prog.cellsOf 15 = 1 := by kernel_rfl
theorem in15 : (Tryz.prog.info? 15).isSome = true := by kernel_rfl
theorem us15 : (Tryz.prog.underlying 15).isSome = true := by kernel_rfl
theorem z15 : zeroT Tryz.prog 15 = some (.pointer none) := by kernel_rfl
theorem sc16 : scalarT Tryz.prog 16 = true := by kernel_rfl
theorem if16 : ifaceFree Tryz.prog 16 = true := by kernel_rfl
theorem co16 : Tryz.prog.cellsOf 16 = 1 := by kernel_rfl
theorem in16 : (Tryz.prog.info? 16).isSome = true := by kernel_rfl
theorem us16 : (Tryz.prog.underlying 16).isSome = true := by kernel_rfl
theorem z16 : zeroT Tryz.prog 16 = some (.pointer none) := by kernel_rfl
theorem sc17 : scalarT Tryz.prog 17 = true := by kernel_rfl
theorem if17 : ifaceFree Tryz.prog 17 = true := by kernel_rfl
theorem co17 : Tryz.prog.cellsOf 17 = 1 := by kernel_rfl
theorem in17 : (Tryz.prog.info? 17).isSome = true := by kernel_rfl
theorem us17 : (Tryz.prog.underlying 17).isSome = true := by kernel_rfl
theorem z17 : zeroT Tryz.prog 17 = some (.pointer none) := by kernel_rfl
theorem ag18 : aggT Tryz.prog 18 1 = true := by kernel_rfl
theorem if18 : ifaceFree Tryz.prog 18 = true := by kernel_rfl
theorem co18 : Tryz.prog.cellsOf 18 = 1 := by kernel_rfl
theorem in18 : (Tryz.prog.info? 18).isSome = true := by kernel_rfl
theorem us18 : (Tryz.prog.underlying 18).isSome = true := by kernel_rfl
theorem z18 : zeroT Tryz.prog 18 = some (.agg #[.pointer none]) := by kernel_rfl
theorem fd18_0 : fieldT Tryz.prog 18 0 0 = true := by kernel_rfl
theorem ag19 : aggT Tryz.prog 19 1 = true := by kernel_rfl
theorem if19 : ifaceFree Tryz.prog 19 = true := by kernel_rfl
theorem co19 : Tryz.prog.cellsOf 19 = 1 := by kernel_rfl
theorem in19 : (Tryz.prog.info? 19).isSome = true := by kernel_rfl
theorem us19 : (Tryz.prog.underlying 19).isSome = true := by kernel_rfl
theorem z19 : zeroT Tryz.prog 19 = some (.agg #[.pointer none]) := by kernel_rfl
theorem fd19_0 : fieldT Tryz.prog 19 0 0 = true := by kernel_rfl
theorem sc20 : scalarT Tryz.prog 20 = true := by kernel_rfl
theorem co20 : Tryz.prog.cellsOf 20 = 1 := by kernel_rfl
theorem in20 : (Tryz.prog.info? 20).isSome = true := by kernel_rfl
theorem us20 : (Tryz.prog.underlying 20).isSome = true := by kernel_rfl
theorem z20 : zeroT Tryz.prog 20 = some (.nilIface) := by kernel_rfl
theorem sc21 : scalarT Tryz.prog 21 = true := by kernel_rfl
theorem if21 : ifaceFree Tryz.prog 21 = true := by kernel_rfl
theorem co21 : Tryz.prog.cellsOf 21 = 1 := by kernel_rfl
theorem in21 : (Tryz.prog.info? 21).isSome = true := by kernel_rfl
theorem us21 : (Tryz.prog.underlying 21).isSome = true := by kernel_rfl
theorem z21 : zeroT Tryz.prog 21 = some (.int .i32 0) := by kernel_rfl
theorem sc22 : scalarT Tryz.prog 22 = true := by kernel_rfl
theorem if22 : ifaceFree Tryz.prog 22 = true := by kernel_rfl
theorem co22 : Tryz.prog.cellsOf 22 = 1 := by kernel_rfl
theorem in22 : (Tryz.prog.info? 22).isSome = true := by kernel_rfl
theorem us22 : (Tryz.prog.underlying 22).isSome = true := by kernel_rfl
theorem z22 : zeroT Tryz.prog 22 = some (.int .i64 0) := by kernel_rfl
theorem sc23 : scalarT Tryz.prog 23 = true := by kernel_rfl
theorem if23 : ifaceFree Tryz.prog 23 = true := by kernel_rfl
theorem co23 : Tryz.prog.cellsOf 23 = 1 := by kernel_rfl
theorem in23 : (Tryz.prog.info? 23).isSome = true := by kernel_rfl
theorem us23 : (Tryz.prog.underlying 23).isSome = true := by kernel_rfl
theorem z23 : zeroT Tryz.prog 23 = some (.slice none 0 0) := by kernel_rfl
theorem el23 : eltT Tryz.prog 23 26 6 104 = true := by kernel_rfl
theorem sl23 : sliceT Tryz.prog 23 26 6 = true := by kernel_rfl
theorem sc24 : scalarT Tryz.prog 24 = true := by kernel_rfl
theorem if24 : ifaceFree Tryz.prog 24 = true := by kernel_rfl
theorem co24 : Tryz.prog.cellsOf 24 = 1 := by kernel_rfl
theorem in24 : (Tryz.prog.info? 24).isSome = true := by kernel_rfl
theorem us24 : (Tryz.prog.underlying 24).isSome = true := by kernel_rfl
theorem z24 : zeroT Tryz.prog 24 = some (.slice none 0 0) := by kernel_rfl
theorem el24 : eltT Tryz.prog 24 9 1 16 = true := by kernel_rfl
theorem sl24 : sliceT Tryz.prog 24 9 1 = true := by kernel_rfl
theorem ag25 : aggT Tryz.prog 25 6 = true := by kernel_rfl
theorem if25 : ifaceFree Tryz.prog 25 = true := by kernel_rfl
theorem in25 : (Tryz.prog.info? 25).isSome = true := by kernel_rfl
theorem us25 : (Tryz.prog.underlying 25).isSome = true := by kernel_rfl
theorem z25 : zeroT Tryz.prog 25 = some (.agg #[.int .i64 0, .int .i64 0, .string ⟨#[]⟩, .slice none 0 0, .slice none 0 0, .slice none 0 0]) := by kernel_rfl
theorem fd25_0 : fieldT Tryz.prog 25 0 0 = true := by kernel_rfl
theorem fd25_1 : fieldT Tryz.prog 25 1 1 = true := by kernel_rfl
theorem fd25_2 : fieldT Tryz.prog 25 2 2 = true := by kernel_rfl
theorem fd25_3 : fieldT Tryz.prog 25 3 3 = true := by kernel_rfl
theorem fd25_4 : fieldT Tryz.prog 25 4 4 = true := by kernel_rfl
theorem fd25_5 : fieldT Tryz.prog 25 5 5 = true := by kernel_rfl
theorem ag26 : aggT Tryz.prog 26 6 = true := by kernel_rfl
theorem if26 : ifaceFree Tryz.prog 26 = true := by kernel_rfl
theorem in26 : (Tryz.prog.info? 26).isSome = true := by kernel_rfl
theorem us26 : (Tryz.prog.underlying 26).isSome = true := by kernel_rfl
theorem z26 : zeroT Tryz.prog 26 = some (.agg #[.int .i64 0, .int .i64 0, .string ⟨#[]⟩, .slice none 0 0, .slice none 0 0, .slice none 0 0]) := by kernel_rfl
theorem fd26_0 : fieldT Tryz.prog 26 0 0 = true := by kernel_rfl
theorem fd26_1 : fieldT Tryz.prog 26 1 1 = true := by kernel_rfl
theorem fd26_2 : fieldT Tryz.prog 26 2 2 = true := by kernel_rfl
theorem fd26_3 : fieldT Tryz.prog 26 3 3 = true := by kernel_rfl
theorem fd26_4 : fieldT Tryz.prog 26 4 4 = true := by kernel_rfl
theorem fd26_5 : fieldT Tryz.prog 26 5 5 = true := by kernel_rfl
theorem sc29 : scalarT Tryz.prog 29 = true := by kernel_rfl
theorem if29 : ifaceFree Tryz.prog 29 = true := by kernel_rfl
theorem co29 : Tryz.prog.cellsOf 29 = 1 := by kernel_rfl
theorem in29 : (Tryz.prog.info? 29).isSome = true := by kernel_rfl
theorem us29 : (Tryz.prog.underlying 29).isSome = true := by kernel_rfl
theorem z29 : zeroT Tryz.prog 29 = some (.int .i64 0) := by kernel_rfl
theorem ag33 : aggT Tryz.prog 33 7 = true := by kernel_rfl
theorem if33 : ifaceFree Tryz.prog 33 = true := by kernel_rfl
theorem in33 : (Tryz.prog.info? 33).isSome = true := by kernel_rfl
theorem us33 : (Tryz.prog.underlying 33).isSome = true := by kernel_rfl
theorem z33 : zeroT Tryz.prog 33 = some (.agg #[.int .i64 0, .int .i64 0, .string ⟨#[]⟩, .slice none 0 0, .slice none 0 0, .slice none 0 0, .int .i64 0]) := by kernel_rfl
theorem fd33_0 : fieldT Tryz.prog 33 0 0 = true := by kernel_rfl
theorem fd33_1 : fieldT Tryz.prog 33 1 6 = true := by kernel_rfl
theorem ag34 : aggT Tryz.prog 34 7 = true := by kernel_rfl
theorem if34 : ifaceFree Tryz.prog 34 = true := by kernel_rfl
theorem in34 : (Tryz.prog.info? 34).isSome = true := by kernel_rfl
theorem us34 : (Tryz.prog.underlying 34).isSome = true := by kernel_rfl
theorem z34 : zeroT Tryz.prog 34 = some (.agg #[.int .i64 0, .int .i64 0, .string ⟨#[]⟩, .slice none 0 0, .slice none 0 0, .slice none 0 0, .int .i64 0]) := by kernel_rfl
theorem fd34_0 : fieldT Tryz.prog 34 0 0 = true := by kernel_rfl
theorem fd34_1 : fieldT Tryz.prog 34 1 6 = true := by kernel_rfl
theorem ag59 : aggT Tryz.prog 59 256 = true := by kernel_rfl
theorem if59 : ifaceFree Tryz.prog 59 = true := by kernel_rfl
theorem in59 : (Tryz.prog.info? 59).isSome = true := by kernel_rfl
theorem us59 : (Tryz.prog.underlying 59).isSome = true := by kernel_rfl
theorem ag60 : aggT Tryz.prog 60 2 = true := by kernel_rfl
theorem if60 : ifaceFree Tryz.prog 60 = true := by kernel_rfl
theorem in60 : (Tryz.prog.info? 60).isSome = true := by kernel_rfl
theorem us60 : (Tryz.prog.underlying 60).isSome = true := by kernel_rfl
theorem z60 : zeroT Tryz.prog 60 = some (.agg #[.int .u8 0, .int .u8 0]) := by kernel_rfl
theorem fd60_0 : fieldT Tryz.prog 60 0 0 = true := by kernel_rfl
theorem fd60_1 : fieldT Tryz.prog 60 1 1 = true := by kernel_rfl
theorem ag61 : aggT Tryz.prog 61 2 = true := by kernel_rfl
theorem if61 : ifaceFree Tryz.prog 61 = true := by kernel_rfl
theorem in61 : (Tryz.prog.info? 61).isSome = true := by kernel_rfl
theorem us61 : (Tryz.prog.underlying 61).isSome = true := by kernel_rfl
theorem z61 : zeroT Tryz.prog 61 = some (.agg #[.int .u8 0, .int .u8 0]) := by kernel_rfl
theorem fd61_0 : fieldT Tryz.prog 61 0 0 = true := by kernel_rfl
theorem fd61_1 : fieldT Tryz.prog 61 1 1 = true := by kernel_rfl
theorem ag62 : aggT Tryz.prog 62 32 = true := by kernel_rfl
theorem if62 : ifaceFree Tryz.prog 62 = true := by kernel_rfl
theorem in62 : (Tryz.prog.info? 62).isSome = true := by kernel_rfl
theorem us62 : (Tryz.prog.underlying 62).isSome = true := by kernel_rfl
theorem z62 : zeroT Tryz.prog 62 = some (.agg #[.int .u8 0, .int .u8 0, .int .u8 0, .int .u8 0, .int .u8 0, .int .u8 0, .int .u8 0, .int .u8 0, .int .u8 0, .int .u8 0, .int .u8 0, .int .u8 0, .int .u8 0, .int .u8 0, .int .u8 0, .int .u8 0, .int .u8 0, .int .u8 0, .int .u8 0, .int .u8 0, .int .u8 0, .int .u8 0, .int .u8 0, .int .u8 0, .int .u8 0, .int .u8 0, .int .u8 0, .int .u8 0, .int .u8 0, .int .u8 0, .int .u8 0, .int .u8 0]) := by kernel_rfl
theorem sc63 : scalarT Tryz.prog 63 = true := by kernel_rfl
theorem if63 : ifaceFree Tryz.prog 63 = true := by kernel_rfl
theorem co63 : Tryz.prog.cellsOf 63 = 1 := by kernel_rfl
theorem in63 : (Tryz.prog.info? 63).isSome = true := by kernel_rfl
theorem us63 : (Tryz.prog.underlying 63).isSome = true := by kernel_rfl
theorem z63 : zeroT Tryz.prog 63 = some (.int .u64 0) := by kernel_rfl
theorem sc65 : scalarT Tryz.prog 65 = true := by kernel_rfl
theorem if65 : ifaceFree Tryz.prog 65 = true := by kernel_rfl
theorem co65 : Tryz.prog.cellsOf 65 = 1 := by kernel_rfl
theorem in65 : (Tryz.prog.info? 65).isSome = true := by kernel_rfl
theorem us65 : (Tryz.prog.underlying 65).isSome = true := by kernel_rfl
theorem z65 : zeroT Tryz.prog 65 = some (.pointer none) := by kernel_rfl
theorem ag66 : aggT Tryz.prog 66 3 = true := by kernel_rfl
theorem if66 : ifaceFree Tryz.prog 66 = true := by kernel_rfl
theorem in66 : (Tryz.prog.info? 66).isSome = true := by kernel_rfl
theorem us66 : (Tryz.prog.underlying 66).isSome = true := by kernel_rfl
theorem z66 : zeroT Tryz.prog 66 = some (.agg #[.int .i64 0, .int .i64 0, .bool false]) := by kernel_rfl
theorem fd66_0 : fieldT Tryz.prog 66 0 0 = true := by kernel_rfl
theorem fd66_1 : fieldT Tryz.prog 66 1 1 = true := by kernel_rfl
theorem fd66_2 : fieldT Tryz.prog 66 2 2 = true := by kernel_rfl
theorem ag67 : aggT Tryz.prog 67 3 = true := by kernel_rfl
theorem if67 : ifaceFree Tryz.prog 67 = true := by kernel_rfl
theorem in67 : (Tryz.prog.info? 67).isSome = true := by kernel_rfl
theorem us67 : (Tryz.prog.underlying 67).isSome = true := by kernel_rfl
theorem z67 : zeroT Tryz.prog 67 = some (.agg #[.int .i64 0, .int .i64 0, .bool false]) := by kernel_rfl
theorem fd67_0 : fieldT Tryz.prog 67 0 0 = true := by kernel_rfl
theorem fd67_1 : fieldT Tryz.prog 67 1 1 = true := by kernel_rfl
theorem fd67_2 : fieldT Tryz.prog 67 2 2 = true := by kernel_rfl
theorem sc79 : scalarT Tryz.prog 79 = true := by kernel_rfl
theorem if79 : ifaceFree Tryz.prog 79 = true := by kernel_rfl
theorem co79 : Tryz.prog.cellsOf 79 = 1 := by kernel_rfl
theorem in79 : (Tryz.prog.info? 79).isSome = true := by kernel_rfl
theorem us79 : (Tryz.prog.underlying 79).isSome = true := by kernel_rfl
theorem z79 : zeroT Tryz.prog 79 = some (.float .f64 0) := by kernel_rfl
theorem sc80 : scalarT Tryz.prog 80 = true := by kernel_rfl
theorem if80 : ifaceFree Tryz.prog 80 = true := by kernel_rfl
theorem co80 : Tryz.prog.cellsOf 80 = 1 := by kernel_rfl
theorem in80 : (Tryz.prog.info? 80).isSome = true := by kernel_rfl
theorem us80 : (Tryz.prog.underlying 80).isSome = true := by kernel_rfl
theorem z80 : zeroT Tryz.prog 80 = some (.slice none 0 0) := by kernel_rfl
theorem el80 : eltT Tryz.prog 80 20 1 16 = true := by kernel_rfl
theorem sl80 : sliceT Tryz.prog 80 20 1 = true := by kernel_rfl
theorem sc83 : scalarT Tryz.prog 83 = true := by kernel_rfl
theorem if83 : ifaceFree Tryz.prog 83 = true := by kernel_rfl
theorem co83 : Tryz.prog.cellsOf 83 = 1 := by kernel_rfl
theorem in83 : (Tryz.prog.info? 83).isSome = true := by kernel_rfl
theorem us83 : (Tryz.prog.underlying 83).isSome = true := by kernel_rfl
theorem z83 : zeroT Tryz.prog 83 = some (.map none) := by kernel_rfl
theorem sc86 : scalarT Tryz.prog 86 = true := by kernel_rfl
theorem co86 : Tryz.prog.cellsOf 86 = 1 := by kernel_rfl
theorem in86 : (Tryz.prog.info? 86).isSome = true := by kernel_rfl
theorem us86 : (Tryz.prog.underlying 86).isSome = true := by kernel_rfl
theorem z86 : zeroT Tryz.prog 86 = some (.nilIface) := by kernel_rfl
theorem sc87 : scalarT Tryz.prog 87 = true := by kernel_rfl
theorem co87 : Tryz.prog.cellsOf 87 = 1 := by kernel_rfl
theorem in87 : (Tryz.prog.info? 87).isSome = true := by kernel_rfl
theorem us87 : (Tryz.prog.underlying 87).isSome = true := by kernel_rfl
theorem z87 : zeroT Tryz.prog 87 = some (.nilIface) := by kernel_rfl
theorem sc93 : scalarT Tryz.prog 93 = true := by kernel_rfl
theorem if93 : ifaceFree Tryz.prog 93 = true := by kernel_rfl
theorem co93 : Tryz.prog.cellsOf 93 = 1 := by kernel_rfl
theorem in93 : (Tryz.prog.info? 93).isSome = true := by kernel_rfl
theorem us93 : (Tryz.prog.underlying 93).isSome = true := by kernel_rfl
theorem z93 : zeroT Tryz.prog 93 = some (.int .u64 0) := by kernel_rfl
theorem sc101 : scalarT Tryz.prog 101 = true := by kernel_rfl
theorem if101 : ifaceFree Tryz.prog 101 = true := by kernel_rfl
theorem co101 : Tryz.prog.cellsOf 101 = 1 := by kernel_rfl
theorem in101 : (Tryz.prog.info? 101).isSome = true := by kernel_rfl
theorem us101 : (Tryz.prog.underlying 101).isSome = true := by kernel_rfl
theorem z101 : zeroT Tryz.prog 101 = some (.slice none 0 0) := by kernel_rfl
theorem el101 : eltT Tryz.prog 101 21 1 4 = true := by kernel_rfl
theorem sl101 : sliceT Tryz.prog 101 21 1 = true := by kernel_rfl
theorem sc104 : scalarT Tryz.prog 104 = true := by kernel_rfl
theorem if104 : ifaceFree Tryz.prog 104 = true := by kernel_rfl
theorem co104 : Tryz.prog.cellsOf 104 = 1 := by kernel_rfl
theorem in104 : (Tryz.prog.info? 104).isSome = true := by kernel_rfl
theorem us104 : (Tryz.prog.underlying 104).isSome = true := by kernel_rfl
theorem z104 : zeroT Tryz.prog 104 = some (.pointer none) := by kernel_rfl
theorem ag105 : aggT Tryz.prog 105 3 = true := by kernel_rfl
theorem if105 : ifaceFree Tryz.prog 105 = true := by kernel_rfl
theorem in105 : (Tryz.prog.info? 105).isSome = true := by kernel_rfl
theorem us105 : (Tryz.prog.underlying 105).isSome = true := by kernel_rfl
theorem z105 : zeroT Tryz.prog 105 = some (.agg #[.string ⟨#[]⟩, .int .i64 0, .bool false]) := by kernel_rfl
theorem fd105_0 : fieldT Tryz.prog 105 0 0 = true := by kernel_rfl
theorem fd105_1 : fieldT Tryz.prog 105 1 1 = true := by kernel_rfl
theorem fd105_2 : fieldT Tryz.prog 105 2 2 = true := by kernel_rfl
theorem ag106 : aggT Tryz.prog 106 3 = true := by kernel_rfl
theorem if106 : ifaceFree Tryz.prog 106 = true := by kernel_rfl
theorem in106 : (Tryz.prog.info? 106).isSome = true := by kernel_rfl
theorem us106 : (Tryz.prog.underlying 106).isSome = true := by kernel_rfl
theorem z106 : zeroT Tryz.prog 106 = some (.agg #[.string ⟨#[]⟩, .int .i64 0, .bool false]) := by kernel_rfl
theorem fd106_0 : fieldT Tryz.prog 106 0 0 = true := by kernel_rfl
theorem fd106_1 : fieldT Tryz.prog 106 1 1 = true := by kernel_rfl
theorem fd106_2 : fieldT Tryz.prog 106 2 2 = true := by kernel_rfl
theorem sc107 : scalarT Tryz.prog 107 = true := by kernel_rfl
theorem if107 : ifaceFree Tryz.prog 107 = true := by kernel_rfl
theorem co107 : Tryz.prog.cellsOf 107 = 1 := by kernel_rfl
theorem in107 : (Tryz.prog.info? 107).isSome = true := by kernel_rfl
theorem us107 : (Tryz.prog.underlying 107).isSome = true := by kernel_rfl
theorem z107 : zeroT Tryz.prog 107 = some (.slice none 0 0) := by kernel_rfl
theorem el107 : eltT Tryz.prog 107 5 1 1 = true := by kernel_rfl
theorem sl107 : sliceT Tryz.prog 107 5 1 = true := by kernel_rfl
theorem sc118 : scalarT Tryz.prog 118 = true := by kernel_rfl
theorem if118 : ifaceFree Tryz.prog 118 = true := by kernel_rfl
theorem co118 : Tryz.prog.cellsOf 118 = 1 := by kernel_rfl
theorem in118 : (Tryz.prog.info? 118).isSome = true := by kernel_rfl
theorem us118 : (Tryz.prog.underlying 118).isSome = true := by kernel_rfl
theorem z118 : zeroT Tryz.prog 118 = some (.slice none 0 0) := by kernel_rfl
theorem el118 : eltT Tryz.prog 118 23 1 24 = true := by kernel_rfl
theorem sl118 : sliceT Tryz.prog 118 23 1 = true := by kernel_rfl
theorem sc129 : scalarT Tryz.prog 129 = true := by kernel_rfl
theorem if129 : ifaceFree Tryz.prog 129 = true := by kernel_rfl
theorem co129 : Tryz.prog.cellsOf 129 = 1 := by kernel_rfl
theorem in129 : (Tryz.prog.info? 129).isSome = true := by kernel_rfl
theorem us129 : (Tryz.prog.underlying 129).isSome = true := by kernel_rfl
theorem z129 : zeroT Tryz.prog 129 = some (.pointer none) := by kernel_rfl
theorem ag130 : aggT Tryz.prog 130 2 = true := by kernel_rfl
theorem if130 : ifaceFree Tryz.prog 130 = true := by kernel_rfl
theorem in130 : (Tryz.prog.info? 130).isSome = true := by kernel_rfl
theorem us130 : (Tryz.prog.underlying 130).isSome = true := by kernel_rfl
theorem z130 : zeroT Tryz.prog 130 = some (.agg #[.string ⟨#[]⟩, .nilIface]) := by kernel_rfl
theorem fd130_0 : fieldT Tryz.prog 130 0 0 = true := by kernel_rfl
theorem fd130_1 : fieldT Tryz.prog 130 1 1 = true := by kernel_rfl
theorem ag131 : aggT Tryz.prog 131 2 = true := by kernel_rfl
theorem if131 : ifaceFree Tryz.prog 131 = true := by kernel_rfl
theorem in131 : (Tryz.prog.info? 131).isSome = true := by kernel_rfl
theorem us131 : (Tryz.prog.underlying 131).isSome = true := by kernel_rfl
theorem z131 : zeroT Tryz.prog 131 = some (.agg #[.string ⟨#[]⟩, .nilIface]) := by kernel_rfl
theorem fd131_0 : fieldT Tryz.prog 131 0 0 = true := by kernel_rfl
theorem fd131_1 : fieldT Tryz.prog 131 1 1 = true := by kernel_rfl
theorem sc133 : scalarT Tryz.prog 133 = true := by kernel_rfl
theorem if133 : ifaceFree Tryz.prog 133 = true := by kernel_rfl
theorem co133 : Tryz.prog.cellsOf 133 = 1 := by kernel_rfl
theorem in133 : (Tryz.prog.info? 133).isSome = true := by kernel_rfl
theorem us133 : (Tryz.prog.underlying 133).isSome = true := by kernel_rfl
theorem z133 : zeroT Tryz.prog 133 = some (.slice none 0 0) := by kernel_rfl
theorem el133 : eltT Tryz.prog 133 9 1 16 = true := by kernel_rfl
theorem sl133 : sliceT Tryz.prog 133 9 1 = true := by kernel_rfl
theorem sc139 : scalarT Tryz.prog 139 = true := by kernel_rfl
theorem if139 : ifaceFree Tryz.prog 139 = true := by kernel_rfl
theorem co139 : Tryz.prog.cellsOf 139 = 1 := by kernel_rfl
theorem in139 : (Tryz.prog.info? 139).isSome = true := by kernel_rfl
theorem us139 : (Tryz.prog.underlying 139).isSome = true := by kernel_rfl
theorem z139 : zeroT Tryz.prog 139 = some (.slice none 0 0) := by kernel_rfl
theorem el139 : eltT Tryz.prog 139 3 1 8 = true := by kernel_rfl
theorem sl139 : sliceT Tryz.prog 139 3 1 = true := by kernel_rfl
theorem sc153 : scalarT Tryz.prog 153 = true := by kernel_rfl
theorem if153 : ifaceFree Tryz.prog 153 = true := by kernel_rfl
theorem co153 : Tryz.prog.cellsOf 153 = 1 := by kernel_rfl
theorem in153 : (Tryz.prog.info? 153).isSome = true := by kernel_rfl
theorem us153 : (Tryz.prog.underlying 153).isSome = true := by kernel_rfl
theorem z153 : zeroT Tryz.prog 153 = some (.int .u8 0) := by kernel_rfl
theorem ag155 : aggT Tryz.prog 155 12 = true := by kernel_rfl
theorem if155 : ifaceFree Tryz.prog 155 = true := by kernel_rfl
theorem in155 : (Tryz.prog.info? 155).isSome = true := by kernel_rfl
theorem us155 : (Tryz.prog.underlying 155).isSome = true := by kernel_rfl
theorem z155 : zeroT Tryz.prog 155 = some (.agg #[.int .i64 0, .int .i64 0, .string ⟨#[]⟩, .slice none 0 0, .slice none 0 0, .slice none 0 0, .int .i64 0, .int .i64 0, .string ⟨#[]⟩, .slice none 0 0, .slice none 0 0, .slice none 0 0]) := by kernel_rfl
theorem ag156 : aggT Tryz.prog 156 2 = true := by kernel_rfl
theorem if156 : ifaceFree Tryz.prog 156 = true := by kernel_rfl
theorem in156 : (Tryz.prog.info? 156).isSome = true := by kernel_rfl
theorem us156 : (Tryz.prog.underlying 156).isSome = true := by kernel_rfl
theorem z156 : zeroT Tryz.prog 156 = some (.agg #[.int .i64 0, .int .i64 0]) := by kernel_rfl
theorem sc157 : scalarT Tryz.prog 157 = true := by kernel_rfl
theorem if157 : ifaceFree Tryz.prog 157 = true := by kernel_rfl
theorem co157 : Tryz.prog.cellsOf 157 = 1 := by kernel_rfl
theorem in157 : (Tryz.prog.info? 157).isSome = true := by kernel_rfl
theorem us157 : (Tryz.prog.underlying 157).isSome = true := by kernel_rfl
theorem z157 : zeroT Tryz.prog 157 = some (.pointer none) := by kernel_rfl
theorem ag158 : aggT Tryz.prog 158 2 = true := by kernel_rfl
theorem if158 : ifaceFree Tryz.prog 158 = true := by kernel_rfl
theorem in158 : (Tryz.prog.info? 158).isSome = true := by kernel_rfl
theorem us158 : (Tryz.prog.underlying 158).isSome = true := by kernel_rfl
theorem z158 : zeroT Tryz.prog 158 = some (.agg #[.pointer none, .slice none 0 0]) := by kernel_rfl
theorem fd158_0 : fieldT Tryz.prog 158 0 0 = true := by kernel_rfl
theorem fd158_1 : fieldT Tryz.prog 158 1 1 = true := by kernel_rfl
theorem ag159 : aggT Tryz.prog 159 2 = true := by kernel_rfl
theorem if159 : ifaceFree Tryz.prog 159 = true := by kernel_rfl
theorem in159 : (Tryz.prog.info? 159).isSome = true := by kernel_rfl
theorem us159 : (Tryz.prog.underlying 159).isSome = true := by kernel_rfl
theorem z159 : zeroT Tryz.prog 159 = some (.agg #[.pointer none, .slice none 0 0]) := by kernel_rfl
theorem fd159_0 : fieldT Tryz.prog 159 0 0 = true := by kernel_rfl
theorem fd159_1 : fieldT Tryz.prog 159 1 1 = true := by kernel_rfl
theorem sc160 : scalarT Tryz.prog 160 = true := by kernel_rfl
theorem if160 : ifaceFree Tryz.prog 160 = true := by kernel_rfl
theorem co160 : Tryz.prog.cellsOf 160 = 1 := by kernel_rfl
theorem in160 : (Tryz.prog.info? 160).isSome = true := by kernel_rfl
theorem us160 : (Tryz.prog.underlying 160).isSome = true := by kernel_rfl
theorem z160 : zeroT Tryz.prog 160 = some (.pointer none) := by kernel_rfl
theorem sc161 : scalarT Tryz.prog 161 = true := by kernel_rfl
theorem co161 : Tryz.prog.cellsOf 161 = 1 := by kernel_rfl
theorem in161 : (Tryz.prog.info? 161).isSome = true := by kernel_rfl
theorem us161 : (Tryz.prog.underlying 161).isSome = true := by kernel_rfl
theorem z161 : zeroT Tryz.prog 161 = some (.nilIface) := by kernel_rfl
theorem ag162 : aggT Tryz.prog 162 64 = true := by kernel_rfl
theorem if162 : ifaceFree Tryz.prog 162 = true := by kernel_rfl
theorem in162 : (Tryz.prog.info? 162).isSome = true := by kernel_rfl
theorem us162 : (Tryz.prog.underlying 162).isSome = true := by kernel_rfl
theorem z162 : zeroT Tryz.prog 162 = some (.agg #[.int .u8 0, .int .u8 0, .int .u8 0, .int .u8 0, .int .u8 0, .int .u8 0, .int .u8 0, .int .u8 0, .int .u8 0, .int .u8 0, .int .u8 0, .int .u8 0, .int .u8 0, .int .u8 0, .int .u8 0, .int .u8 0, .int .u8 0, .int .u8 0, .int .u8 0, .int .u8 0, .int .u8 0, .int .u8 0, .int .u8 0, .int .u8 0, .int .u8 0, .int .u8 0, .int .u8 0, .int .u8 0, .int .u8 0, .int .u8 0, .int .u8 0, .int .u8 0, .int .u8 0, .int .u8 0, .int .u8 0, .int .u8 0, .int .u8 0, .int .u8 0, .int .u8 0, .int .u8 0, .int .u8 0, .int .u8 0, .int .u8 0, .int .u8 0, .int .u8 0, .int .u8 0, .int .u8 0, .int .u8 0, .int .u8 0, .int .u8 0, .int .u8 0, .int .u8 0, .int .u8 0, .int .u8 0, .int .u8 0, .int .u8 0, .int .u8 0, .int .u8 0, .int .u8 0, .int .u8 0, .int .u8 0, .int .u8 0, .int .u8 0, .int .u8 0]) := by kernel_rfl
theorem ag163 : aggT Tryz.prog 163 65 = true := by kernel_rfl
theorem if163 : ifaceFree Tryz.prog 163 = true := by kernel_rfl
theorem in163 : (Tryz.prog.info? 163).isSome = true := by kernel_rfl
theorem us163 : (Tryz.prog.underlying 163).isSome = true := by kernel_rfl
theorem z163 : zeroT Tryz.prog 163 = some (.agg #[.nilIface, .int .u8 0, .int .u8 0, .int .u8 0, .int .u8 0, .int .u8 0, .int .u8 0, .int .u8 0, .int .u8 0, .int .u8 0, .int .u8 0, .int .u8 0, .int .u8 0, .int .u8 0, .int .u8 0, .int .u8 0, .int .u8 0, .int .u8 0, .int .u8 0, .int .u8 0, .int .u8 0, .int .u8 0, .int .u8 0, .int .u8 0, .int .u8 0, .int .u8 0, .int .u8 0, .int .u8 0, .int .u8 0, .int .u8 0, .int .u8 0, .int .u8 0, .int .u8 0, .int .u8 0, .int .u8 0, .int .u8 0, .int .u8 0, .int .u8 0, .int .u8 0, .int .u8 0, .int .u8 0, .int .u8 0, .int .u8 0, .int .u8 0, .int .u8 0, .int .u8 0, .int .u8 0, .int .u8 0, .int .u8 0, .int .u8 0, .int .u8 0, .int .u8 0, .int .u8 0, .int .u8 0, .int .u8 0, .int .u8 0, .int .u8 0, .int .u8 0, .int .u8 0, .int .u8 0, .int .u8 0, .int .u8 0, .int .u8 0, .int .u8 0, .int .u8 0]) := by kernel_rfl
theorem fd163_0 : fieldT Tryz.prog 163 0 0 = true := by kernel_rfl
theorem fd163_1 : fieldT Tryz.prog 163 1 1 = true := by kernel_rfl
theorem ag164 : aggT Tryz.prog 164 65 = true := by kernel_rfl
theorem if164 : ifaceFree Tryz.prog 164 = true := by kernel_rfl
theorem in164 : (Tryz.prog.info? 164).isSome = true := by kernel_rfl
theorem us164 : (Tryz.prog.underlying 164).isSome = true := by kernel_rfl
theorem z164 : zeroT Tryz.prog 164 = some (.agg #[.nilIface, .int .u8 0, .int .u8 0, .int .u8 0, .int .u8 0, .int .u8 0, .int .u8 0, .int .u8 0, .int .u8 0, .int .u8 0, .int .u8 0, .int .u8 0, .int .u8 0, .int .u8 0, .int .u8 0, .int .u8 0, .int .u8 0, .int .u8 0, .int .u8 0, .int .u8 0, .int .u8 0, .int .u8 0, .int .u8 0, .int .u8 0, .int .u8 0, .int .u8 0, .int .u8 0, .int .u8 0, .int .u8 0, .int .u8 0, .int .u8 0, .int .u8 0, .int .u8 0, .int .u8 0, .int .u8 0, .int .u8 0, .int .u8 0, .int .u8 0, .int .u8 0, .int .u8 0, .int .u8 0, .int .u8 0, .int .u8 0, .int .u8 0, .int .u8 0, .int .u8 0, .int .u8 0, .int .u8 0, .int .u8 0, .int .u8 0, .int .u8 0, .int .u8 0, .int .u8 0, .int .u8 0, .int .u8 0, .int .u8 0, .int .u8 0, .int .u8 0, .int .u8 0, .int .u8 0, .int .u8 0, .int .u8 0, .int .u8 0, .int .u8 0, .int .u8 0]) := by kernel_rfl
theorem fd164_0 : fieldT Tryz.prog 164 0 0 = true := by kernel_rfl
theorem fd164_1 : fieldT Tryz.prog 164 1 1 = true := by kernel_rfl
theorem sc178 : scalarT Tryz.prog 178 = true := by kernel_rfl
theorem if178 : ifaceFree Tryz.prog 178 = true := by kernel_rfl
theorem co178 : Tryz.prog.cellsOf 178 = 1 := by kernel_rfl
theorem in178 : (Tryz.prog.info? 178).isSome = true := by kernel_rfl
theorem us178 : (Tryz.prog.underlying 178).isSome = true := by kernel_rfl
theorem z178 : zeroT Tryz.prog 178 = some (.pointer none) := by kernel_rfl
theorem sc180 : scalarT Tryz.prog 180 = true := by kernel_rfl
theorem if180 : ifaceFree Tryz.prog 180 = true := by kernel_rfl
theorem co180 : Tryz.prog.cellsOf 180 = 1 := by kernel_rfl
theorem in180 : (Tryz.prog.info? 180).isSome = true := by kernel_rfl
theorem us180 : (Tryz.prog.underlying 180).isSome = true := by kernel_rfl
theorem z180 : zeroT Tryz.prog 180 = some (.string ⟨#[]⟩) := by kernel_rfl
theorem sc183 : scalarT Tryz.prog 183 = true := by kernel_rfl
theorem if183 : ifaceFree Tryz.prog 183 = true := by kernel_rfl
theorem co183 : Tryz.prog.cellsOf 183 = 1 := by kernel_rfl
theorem in183 : (Tryz.prog.info? 183).isSome = true := by kernel_rfl
theorem us183 : (Tryz.prog.underlying 183).isSome = true := by kernel_rfl
theorem z183 : zeroT Tryz.prog 183 = some (.pointer none) := by kernel_rfl
theorem ag184 : aggT Tryz.prog 184 256 = true := by kernel_rfl
theorem if184 : ifaceFree Tryz.prog 184 = true := by kernel_rfl
theorem in184 : (Tryz.prog.info? 184).isSome = true := by kernel_rfl
theorem us184 : (Tryz.prog.underlying 184).isSome = true := by kernel_rfl
theorem sc186 : scalarT Tryz.prog 186 = true := by kernel_rfl
theorem if186 : ifaceFree Tryz.prog 186 = true := by kernel_rfl
theorem co186 : Tryz.prog.cellsOf 186 = 1 := by kernel_rfl
theorem in186 : (Tryz.prog.info? 186).isSome = true := by kernel_rfl
theorem us186 : (Tryz.prog.underlying 186).isSome = true := by kernel_rfl
theorem z186 : zeroT Tryz.prog 186 = some (.int .i64 0) := by kernel_rfl
theorem sc193 : scalarT Tryz.prog 193 = true := by kernel_rfl
theorem if193 : ifaceFree Tryz.prog 193 = true := by kernel_rfl
theorem co193 : Tryz.prog.cellsOf 193 = 1 := by kernel_rfl
theorem in193 : (Tryz.prog.info? 193).isSome = true := by kernel_rfl
theorem us193 : (Tryz.prog.underlying 193).isSome = true := by kernel_rfl
theorem z193 : zeroT Tryz.prog 193 = some (.int .u32 0) := by kernel_rfl
theorem sc201 : scalarT Tryz.prog 201 = true := by kernel_rfl
theorem if201 : ifaceFree Tryz.prog 201 = true := by kernel_rfl
theorem co201 : Tryz.prog.cellsOf 201 = 1 := by kernel_rfl
theorem in201 : (Tryz.prog.info? 201).isSome = true := by kernel_rfl
theorem us201 : (Tryz.prog.underlying 201).isSome = true := by kernel_rfl
theorem z201 : zeroT Tryz.prog 201 = some (.slice none 0 0) := by kernel_rfl
theorem el201 : eltT Tryz.prog 201 203 2 32 = true := by kernel_rfl
theorem sl201 : sliceT Tryz.prog 201 203 2 = true := by kernel_rfl
theorem ag202 : aggT Tryz.prog 202 2 = true := by kernel_rfl
theorem if202 : ifaceFree Tryz.prog 202 = true := by kernel_rfl
theorem in202 : (Tryz.prog.info? 202).isSome = true := by kernel_rfl
theorem us202 : (Tryz.prog.underlying 202).isSome = true := by kernel_rfl
theorem z202 : zeroT Tryz.prog 202 = some (.agg #[.string ⟨#[]⟩, .nilIface]) := by kernel_rfl
theorem fd202_0 : fieldT Tryz.prog 202 0 0 = true := by kernel_rfl
theorem fd202_1 : fieldT Tryz.prog 202 1 1 = true := by kernel_rfl
theorem ag203 : aggT Tryz.prog 203 2 = true := by kernel_rfl
theorem if203 : ifaceFree Tryz.prog 203 = true := by kernel_rfl
theorem in203 : (Tryz.prog.info? 203).isSome = true := by kernel_rfl
theorem us203 : (Tryz.prog.underlying 203).isSome = true := by kernel_rfl
theorem z203 : zeroT Tryz.prog 203 = some (.agg #[.string ⟨#[]⟩, .nilIface]) := by kernel_rfl
theorem fd203_0 : fieldT Tryz.prog 203 0 0 = true := by kernel_rfl
theorem fd203_1 : fieldT Tryz.prog 203 1 1 = true := by kernel_rfl
theorem sc205 : scalarT Tryz.prog 205 = true := by kernel_rfl
theorem if205 : ifaceFree Tryz.prog 205 = true := by kernel_rfl
theorem co205 : Tryz.prog.cellsOf 205 = 1 := by kernel_rfl
theorem in205 : (Tryz.prog.info? 205).isSome = true := by kernel_rfl
theorem us205 : (Tryz.prog.underlying 205).isSome = true := by kernel_rfl
theorem z205 : zeroT Tryz.prog 205 = some (.int .u64 0) := by kernel_rfl
theorem sc209 : scalarT Tryz.prog 209 = true := by kernel_rfl
theorem if209 : ifaceFree Tryz.prog 209 = true := by kernel_rfl
theorem co209 : Tryz.prog.cellsOf 209 = 1 := by kernel_rfl
theorem in209 : (Tryz.prog.info? 209).isSome = true := by kernel_rfl
theorem us209 : (Tryz.prog.underlying 209).isSome = true := by kernel_rfl
theorem z209 : zeroT Tryz.prog 209 = some (.pointer none) := by kernel_rfl
theorem sc213 : scalarT Tryz.prog 213 = true := by kernel_rfl
theorem if213 : ifaceFree Tryz.prog 213 = true := by kernel_rfl
theorem co213 : Tryz.prog.cellsOf 213 = 1 := by kernel_rfl
theorem in213 : (Tryz.prog.info? 213).isSome = true := by kernel_rfl
theorem us213 : (Tryz.prog.underlying 213).isSome = true := by kernel_rfl
theorem z213 : zeroT Tryz.prog 213 = some (.slice none 0 0) := by kernel_rfl
theorem el213 : eltT Tryz.prog 213 193 1 4 = true := by kernel_rfl
theorem sl213 : sliceT Tryz.prog 213 193 1 = true := by kernel_rfl
theorem sc214 : scalarT Tryz.prog 214 = true := by kernel_rfl
theorem if214 : ifaceFree Tryz.prog 214 = true := by kernel_rfl
theorem co214 : Tryz.prog.cellsOf 214 = 1 := by kernel_rfl
theorem in214 : (Tryz.prog.info? 214).isSome = true := by kernel_rfl
theorem us214 : (Tryz.prog.underlying 214).isSome = true := by kernel_rfl
theorem z214 : zeroT Tryz.prog 214 = some (.slice none 0 0) := by kernel_rfl
theorem el214 : eltT Tryz.prog 214 193 1 4 = true := by kernel_rfl
theorem sl214 : sliceT Tryz.prog 214 193 1 = true := by kernel_rfl
theorem ag215 : aggT Tryz.prog 215 2 = true := by kernel_rfl
theorem if215 : ifaceFree Tryz.prog 215 = true := by kernel_rfl
theorem in215 : (Tryz.prog.info? 215).isSome = true := by kernel_rfl
theorem us215 : (Tryz.prog.underlying 215).isSome = true := by kernel_rfl
theorem z215 : zeroT Tryz.prog 215 = some (.agg #[.bool false, .slice none 0 0]) := by kernel_rfl
theorem fd215_0 : fieldT Tryz.prog 215 0 0 = true := by kernel_rfl
theorem fd215_1 : fieldT Tryz.prog 215 1 1 = true := by kernel_rfl
theorem ag216 : aggT Tryz.prog 216 2 = true := by kernel_rfl
theorem if216 : ifaceFree Tryz.prog 216 = true := by kernel_rfl
theorem in216 : (Tryz.prog.info? 216).isSome = true := by kernel_rfl
theorem us216 : (Tryz.prog.underlying 216).isSome = true := by kernel_rfl
theorem z216 : zeroT Tryz.prog 216 = some (.agg #[.bool false, .slice none 0 0]) := by kernel_rfl
theorem fd216_0 : fieldT Tryz.prog 216 0 0 = true := by kernel_rfl
theorem fd216_1 : fieldT Tryz.prog 216 1 1 = true := by kernel_rfl
theorem sc219 : scalarT Tryz.prog 219 = true := by kernel_rfl
theorem if219 : ifaceFree Tryz.prog 219 = true := by kernel_rfl
theorem co219 : Tryz.prog.cellsOf 219 = 1 := by kernel_rfl
theorem in219 : (Tryz.prog.info? 219).isSome = true := by kernel_rfl
theorem us219 : (Tryz.prog.underlying 219).isSome = true := by kernel_rfl
theorem z219 : zeroT Tryz.prog 219 = some (.int .u64 0) := by kernel_rfl
theorem ag220 : aggT Tryz.prog 220 3 = true := by kernel_rfl
theorem if220 : ifaceFree Tryz.prog 220 = true := by kernel_rfl
theorem in220 : (Tryz.prog.info? 220).isSome = true := by kernel_rfl
theorem us220 : (Tryz.prog.underlying 220).isSome = true := by kernel_rfl
theorem z220 : zeroT Tryz.prog 220 = some (.agg #[.pointer none, .pointer none, .int .u64 0]) := by kernel_rfl
theorem fd220_0 : fieldT Tryz.prog 220 0 0 = true := by kernel_rfl
theorem fd220_1 : fieldT Tryz.prog 220 1 1 = true := by kernel_rfl
theorem fd220_2 : fieldT Tryz.prog 220 2 2 = true := by kernel_rfl
theorem ag221 : aggT Tryz.prog 221 3 = true := by kernel_rfl
theorem if221 : ifaceFree Tryz.prog 221 = true := by kernel_rfl
theorem in221 : (Tryz.prog.info? 221).isSome = true := by kernel_rfl
theorem us221 : (Tryz.prog.underlying 221).isSome = true := by kernel_rfl
theorem z221 : zeroT Tryz.prog 221 = some (.agg #[.pointer none, .pointer none, .int .u64 0]) := by kernel_rfl
theorem fd221_0 : fieldT Tryz.prog 221 0 0 = true := by kernel_rfl
theorem fd221_1 : fieldT Tryz.prog 221 1 1 = true := by kernel_rfl
theorem fd221_2 : fieldT Tryz.prog 221 2 2 = true := by kernel_rfl
theorem ag227 : aggT Tryz.prog 227 2 = true := by kernel_rfl
theorem if227 : ifaceFree Tryz.prog 227 = true := by kernel_rfl
theorem in227 : (Tryz.prog.info? 227).isSome = true := by kernel_rfl
theorem us227 : (Tryz.prog.underlying 227).isSome = true := by kernel_rfl
theorem z227 : zeroT Tryz.prog 227 = some (.agg #[.nilFunc, .nilFunc]) := by kernel_rfl
theorem fd227_0 : fieldT Tryz.prog 227 0 0 = true := by kernel_rfl
theorem fd227_1 : fieldT Tryz.prog 227 1 1 = true := by kernel_rfl
theorem ag228 : aggT Tryz.prog 228 2 = true := by kernel_rfl
theorem if228 : ifaceFree Tryz.prog 228 = true := by kernel_rfl
theorem in228 : (Tryz.prog.info? 228).isSome = true := by kernel_rfl
theorem us228 : (Tryz.prog.underlying 228).isSome = true := by kernel_rfl
theorem z228 : zeroT Tryz.prog 228 = some (.agg #[.nilFunc, .nilFunc]) := by kernel_rfl
theorem fd228_0 : fieldT Tryz.prog 228 0 0 = true := by kernel_rfl
theorem fd228_1 : fieldT Tryz.prog 228 1 1 = true := by kernel_rfl
theorem sc229 : scalarT Tryz.prog 229 = true := by kernel_rfl
theorem if229 : ifaceFree Tryz.prog 229 = true := by kernel_rfl
theorem co229 : Tryz.prog.cellsOf 229 = 1 := by kernel_rfl
theorem in229 : (Tryz.prog.info? 229).isSome = true := by kernel_rfl
theorem us229 : (Tryz.prog.underlying 229).isSome = true := by kernel_rfl
theorem z229 : zeroT Tryz.prog 229 = some (.pointer none) := by kernel_rfl
theorem sc233 : scalarT Tryz.prog 233 = true := by kernel_rfl
theorem if233 : ifaceFree Tryz.prog 233 = true := by kernel_rfl
theorem co233 : Tryz.prog.cellsOf 233 = 1 := by kernel_rfl
theorem in233 : (Tryz.prog.info? 233).isSome = true := by kernel_rfl
theorem us233 : (Tryz.prog.underlying 233).isSome = true := by kernel_rfl
theorem z233 : zeroT Tryz.prog 233 = some (.float .f32 0) := by kernel_rfl
theorem ag234 : aggT Tryz.prog 234 3 = true := by kernel_rfl
theorem if234 : ifaceFree Tryz.prog 234 = true := by kernel_rfl
theorem in234 : (Tryz.prog.info? 234).isSome = true := by kernel_rfl
theorem us234 : (Tryz.prog.underlying 234).isSome = true := by kernel_rfl
theorem z234 : zeroT Tryz.prog 234 = some (.agg #[.int .i64 0, .int .i64 0, .int .i64 0]) := by kernel_rfl
theorem fd234_0 : fieldT Tryz.prog 234 0 0 = true := by kernel_rfl
theorem fd234_1 : fieldT Tryz.prog 234 1 1 = true := by kernel_rfl
theorem fd234_2 : fieldT Tryz.prog 234 2 2 = true := by kernel_rfl
theorem ag235 : aggT Tryz.prog 235 3 = true := by kernel_rfl
theorem if235 : ifaceFree Tryz.prog 235 = true := by kernel_rfl
theorem in235 : (Tryz.prog.info? 235).isSome = true := by kernel_rfl
theorem us235 : (Tryz.prog.underlying 235).isSome = true := by kernel_rfl
theorem z235 : zeroT Tryz.prog 235 = some (.agg #[.int .i64 0, .int .i64 0, .int .i64 0]) := by kernel_rfl
theorem fd235_0 : fieldT Tryz.prog 235 0 0 = true := by kernel_rfl
theorem fd235_1 : fieldT Tryz.prog 235 1 1 = true := by kernel_rfl
theorem fd235_2 : fieldT Tryz.prog 235 2 2 = true := by kernel_rfl
theorem sc237 : scalarT Tryz.prog 237 = true := by kernel_rfl
theorem if237 : ifaceFree Tryz.prog 237 = true := by kernel_rfl
theorem co237 : Tryz.prog.cellsOf 237 = 1 := by kernel_rfl
theorem in237 : (Tryz.prog.info? 237).isSome = true := by kernel_rfl
theorem us237 : (Tryz.prog.underlying 237).isSome = true := by kernel_rfl
theorem z237 : zeroT Tryz.prog 237 = some (.pointer none) := by kernel_rfl
theorem ag241 : aggT Tryz.prog 241 2 = true := by kernel_rfl
theorem if241 : ifaceFree Tryz.prog 241 = true := by kernel_rfl
theorem in241 : (Tryz.prog.info? 241).isSome = true := by kernel_rfl
theorem us241 : (Tryz.prog.underlying 241).isSome = true := by kernel_rfl
theorem z241 : zeroT Tryz.prog 241 = some (.agg #[.slice none 0 0, .int .i64 0]) := by kernel_rfl
theorem fd241_0 : fieldT Tryz.prog 241 0 0 = true := by kernel_rfl
theorem fd241_1 : fieldT Tryz.prog 241 1 1 = true := by kernel_rfl
theorem ag242 : aggT Tryz.prog 242 2 = true := by kernel_rfl
theorem if242 : ifaceFree Tryz.prog 242 = true := by kernel_rfl
theorem in242 : (Tryz.prog.info? 242).isSome = true := by kernel_rfl
theorem us242 : (Tryz.prog.underlying 242).isSome = true := by kernel_rfl
theorem z242 : zeroT Tryz.prog 242 = some (.agg #[.slice none 0 0, .int .i64 0]) := by kernel_rfl
theorem fd242_0 : fieldT Tryz.prog 242 0 0 = true := by kernel_rfl
theorem fd242_1 : fieldT Tryz.prog 242 1 1 = true := by kernel_rfl
theorem ag247 : aggT Tryz.prog 247 1 = true := by kernel_rfl
theorem if247 : ifaceFree Tryz.prog 247 = true := by kernel_rfl
theorem co247 : Tryz.prog.cellsOf 247 = 1 := by kernel_rfl
theorem in247 : (Tryz.prog.info? 247).isSome = true := by kernel_rfl
theorem us247 : (Tryz.prog.underlying 247).isSome = true := by kernel_rfl
theorem z247 : zeroT Tryz.prog 247 = some (.agg #[.pointer none]) := by kernel_rfl
theorem fd247_0 : fieldT Tryz.prog 247 0 0 = true := by kernel_rfl
theorem ag248 : aggT Tryz.prog 248 1 = true := by kernel_rfl
theorem if248 : ifaceFree Tryz.prog 248 = true := by kernel_rfl
theorem co248 : Tryz.prog.cellsOf 248 = 1 := by kernel_rfl
theorem in248 : (Tryz.prog.info? 248).isSome = true := by kernel_rfl
theorem us248 : (Tryz.prog.underlying 248).isSome = true := by kernel_rfl
theorem z248 : zeroT Tryz.prog 248 = some (.agg #[.pointer none]) := by kernel_rfl
theorem fd248_0 : fieldT Tryz.prog 248 0 0 = true := by kernel_rfl
theorem sc249 : scalarT Tryz.prog 249 = true := by kernel_rfl
theorem if249 : ifaceFree Tryz.prog 249 = true := by kernel_rfl
theorem co249 : Tryz.prog.cellsOf 249 = 1 := by kernel_rfl
theorem in249 : (Tryz.prog.info? 249).isSome = true := by kernel_rfl
theorem us249 : (Tryz.prog.underlying 249).isSome = true := by kernel_rfl
theorem z249 : zeroT Tryz.prog 249 = some (.pointer none) := by kernel_rfl
theorem sc251 : scalarT Tryz.prog 251 = true := by kernel_rfl
theorem if251 : ifaceFree Tryz.prog 251 = true := by kernel_rfl
theorem co251 : Tryz.prog.cellsOf 251 = 1 := by kernel_rfl
theorem in251 : (Tryz.prog.info? 251).isSome = true := by kernel_rfl
theorem us251 : (Tryz.prog.underlying 251).isSome = true := by kernel_rfl
theorem z251 : zeroT Tryz.prog 251 = some (.int .i64 0) := by kernel_rfl
theorem sc261 : scalarT Tryz.prog 261 = true := by kernel_rfl
theorem if261 : ifaceFree Tryz.prog 261 = true := by kernel_rfl
theorem co261 : Tryz.prog.cellsOf 261 = 1 := by kernel_rfl
theorem in261 : (Tryz.prog.info? 261).isSome = true := by kernel_rfl
theorem us261 : (Tryz.prog.underlying 261).isSome = true := by kernel_rfl
theorem z261 : zeroT Tryz.prog 261 = some (.int .u64 0) := by kernel_rfl
theorem sc264 : scalarT Tryz.prog 264 = true := by kernel_rfl
theorem if264 : ifaceFree Tryz.prog 264 = true := by kernel_rfl
theorem co264 : Tryz.prog.cellsOf 264 = 1 := by kernel_rfl
theorem in264 : (Tryz.prog.info? 264).isSome = true := by kernel_rfl
theorem us264 : (Tryz.prog.underlying 264).isSome = true := by kernel_rfl
theorem z264 : zeroT Tryz.prog 264 = some (.pointer none) := by kernel_rfl
theorem ag266 : aggT Tryz.prog 266 4 = true := by kernel_rfl
theorem if266 : ifaceFree Tryz.prog 266 = true := by kernel_rfl
theorem in266 : (Tryz.prog.info? 266).isSome = true := by kernel_rfl
theorem us266 : (Tryz.prog.underlying 266).isSome = true := by kernel_rfl
theorem z266 : zeroT Tryz.prog 266 = some (.agg #[.pointer none, .pointer none, .pointer none, .string ⟨#[]⟩]) := by kernel_rfl
theorem fd266_0 : fieldT Tryz.prog 266 0 0 = true := by kernel_rfl
theorem fd266_1 : fieldT Tryz.prog 266 1 1 = true := by kernel_rfl
theorem fd266_2 : fieldT Tryz.prog 266 2 2 = true := by kernel_rfl
theorem fd266_3 : fieldT Tryz.prog 266 3 3 = true := by kernel_rfl
theorem ag267 : aggT Tryz.prog 267 4 = true := by kernel_rfl
theorem if267 : ifaceFree Tryz.prog 267 = true := by kernel_rfl
theorem in267 : (Tryz.prog.info? 267).isSome = true := by kernel_rfl
theorem us267 : (Tryz.prog.underlying 267).isSome = true := by kernel_rfl
theorem z267 : zeroT Tryz.prog 267 = some (.agg #[.pointer none, .pointer none, .pointer none, .string ⟨#[]⟩]) := by kernel_rfl
theorem fd267_0 : fieldT Tryz.prog 267 0 0 = true := by kernel_rfl
theorem fd267_1 : fieldT Tryz.prog 267 1 1 = true := by kernel_rfl
theorem fd267_2 : fieldT Tryz.prog 267 2 2 = true := by kernel_rfl
theorem fd267_3 : fieldT Tryz.prog 267 3 3 = true := by kernel_rfl
theorem if268 : ifaceFree Tryz.prog 268 = true := by kernel_rfl
theorem in268 : (Tryz.prog.info? 268).isSome = true := by kernel_rfl
theorem us268 : (Tryz.prog.underlying 268).isSome = true := by kernel_rfl
theorem z268 : zeroT Tryz.prog 268 = some (.agg #[]) := by kernel_rfl
theorem if269 : ifaceFree Tryz.prog 269 = true := by kernel_rfl
theorem in269 : (Tryz.prog.info? 269).isSome = true := by kernel_rfl
theorem us269 : (Tryz.prog.underlying 269).isSome = true := by kernel_rfl
theorem z269 : zeroT Tryz.prog 269 = some (.agg #[]) := by kernel_rfl
theorem if270 : ifaceFree Tryz.prog 270 = true := by kernel_rfl
theorem in270 : (Tryz.prog.info? 270).isSome = true := by kernel_rfl
theorem us270 : (Tryz.prog.underlying 270).isSome = true := by kernel_rfl
theorem z270 : zeroT Tryz.prog 270 = some (.agg #[]) := by kernel_rfl
theorem sc271 : scalarT Tryz.prog 271 = true := by kernel_rfl
theorem if271 : ifaceFree Tryz.prog 271 = true := by kernel_rfl
theorem co271 : Tryz.prog.cellsOf 271 = 1 := by kernel_rfl
theorem in271 : (Tryz.prog.info? 271).isSome = true := by kernel_rfl
theorem us271 : (Tryz.prog.underlying 271).isSome = true := by kernel_rfl
theorem z271 : zeroT Tryz.prog 271 = some (.int .u8 0) := by kernel_rfl
theorem sc272 : scalarT Tryz.prog 272 = true := by kernel_rfl
theorem if272 : ifaceFree Tryz.prog 272 = true := by kernel_rfl
theorem co272 : Tryz.prog.cellsOf 272 = 1 := by kernel_rfl
theorem in272 : (Tryz.prog.info? 272).isSome = true := by kernel_rfl
theorem us272 : (Tryz.prog.underlying 272).isSome = true := by kernel_rfl
theorem z272 : zeroT Tryz.prog 272 = some (.int .u8 0) := by kernel_rfl
theorem sc274 : scalarT Tryz.prog 274 = true := by kernel_rfl
theorem if274 : ifaceFree Tryz.prog 274 = true := by kernel_rfl
theorem co274 : Tryz.prog.cellsOf 274 = 1 := by kernel_rfl
theorem in274 : (Tryz.prog.info? 274).isSome = true := by kernel_rfl
theorem us274 : (Tryz.prog.underlying 274).isSome = true := by kernel_rfl
theorem z274 : zeroT Tryz.prog 274 = some (.int .i32 0) := by kernel_rfl
theorem sc275 : scalarT Tryz.prog 275 = true := by kernel_rfl
theorem if275 : ifaceFree Tryz.prog 275 = true := by kernel_rfl
theorem co275 : Tryz.prog.cellsOf 275 = 1 := by kernel_rfl
theorem in275 : (Tryz.prog.info? 275).isSome = true := by kernel_rfl
theorem us275 : (Tryz.prog.underlying 275).isSome = true := by kernel_rfl
theorem z275 : zeroT Tryz.prog 275 = some (.int .i32 0) := by kernel_rfl
theorem ag276 : aggT Tryz.prog 276 11 = true := by kernel_rfl
theorem if276 : ifaceFree Tryz.prog 276 = true := by kernel_rfl
theorem in276 : (Tryz.prog.info? 276).isSome = true := by kernel_rfl
theorem us276 : (Tryz.prog.underlying 276).isSome = true := by kernel_rfl
theorem z276 : zeroT Tryz.prog 276 = some (.agg #[.int .u64 0, .int .u64 0, .int .u32 0, .int .u8 0, .int .u8 0, .int .u8 0, .int .u8 0, .nilFunc, .pointer none, .int .i32 0, .int .i32 0]) := by kernel_rfl
theorem fd276_0 : fieldT Tryz.prog 276 0 0 = true := by kernel_rfl
theorem fd276_1 : fieldT Tryz.prog 276 1 1 = true := by kernel_rfl
theorem fd276_2 : fieldT Tryz.prog 276 2 2 = true := by kernel_rfl
theorem fd276_3 : fieldT Tryz.prog 276 3 3 = true := by kernel_rfl
theorem fd276_4 : fieldT Tryz.prog 276 4 4 = true := by kernel_rfl
theorem fd276_5 : fieldT Tryz.prog 276 5 5 = true := by kernel_rfl
theorem fd276_6 : fieldT Tryz.prog 276 6 6 = true := by kernel_rfl
theorem fd276_7 : fieldT Tryz.prog 276 7 7 = true := by kernel_rfl
theorem fd276_8 : fieldT Tryz.prog 276 8 8 = true := by kernel_rfl
theorem fd276_9 : fieldT Tryz.prog 276 9 9 = true := by kernel_rfl
theorem fd276_10 : fieldT Tryz.prog 276 10 10 = true := by kernel_rfl
theorem ag277 : aggT Tryz.prog 277 11 = true := by kernel_rfl
theorem if277 : ifaceFree Tryz.prog 277 = true := by kernel_rfl
theorem in277 : (Tryz.prog.info? 277).isSome = true := by kernel_rfl
theorem us277 : (Tryz.prog.underlying 277).isSome = true := by kernel_rfl
theorem z277 : zeroT Tryz.prog 277 = some (.agg #[.int .u64 0, .int .u64 0, .int .u32 0, .int .u8 0, .int .u8 0, .int .u8 0, .int .u8 0, .nilFunc, .pointer none, .int .i32 0, .int .i32 0]) := by kernel_rfl
theorem fd277_0 : fieldT Tryz.prog 277 0 0 = true := by kernel_rfl
theorem fd277_1 : fieldT Tryz.prog 277 1 1 = true := by kernel_rfl
theorem fd277_2 : fieldT Tryz.prog 277 2 2 = true := by kernel_rfl
theorem fd277_3 : fieldT Tryz.prog 277 3 3 = true := by kernel_rfl
theorem fd277_4 : fieldT Tryz.prog 277 4 4 = true := by kernel_rfl
theorem fd277_5 : fieldT Tryz.prog 277 5 5 = true := by kernel_rfl
theorem fd277_6 : fieldT Tryz.prog 277 6 6 = true := by kernel_rfl
theorem fd277_7 : fieldT Tryz.prog 277 7 7 = true := by kernel_rfl
theorem fd277_8 : fieldT Tryz.prog 277 8 8 = true := by kernel_rfl
theorem fd277_9 : fieldT Tryz.prog 277 9 9 = true := by kernel_rfl
theorem fd277_10 : fieldT Tryz.prog 277 10 10 = true := by kernel_rfl
theorem ag279 : aggT Tryz.prog 279 2 = true := by kernel_rfl
theorem if279 : ifaceFree Tryz.prog 279 = true := by kernel_rfl
theorem in279 : (Tryz.prog.info? 279).isSome = true := by kernel_rfl
theorem us279 : (Tryz.prog.underlying 279).isSome = true := by kernel_rfl
theorem z279 : zeroT Tryz.prog 279 = some (.agg #[.string ⟨#[]⟩, .int .u8 0]) := by kernel_rfl
theorem fd279_0 : fieldT Tryz.prog 279 0 0 = true := by kernel_rfl
theorem fd279_1 : fieldT Tryz.prog 279 1 1 = true := by kernel_rfl
theorem ag280 : aggT Tryz.prog 280 2 = true := by kernel_rfl
theorem if280 : ifaceFree Tryz.prog 280 = true := by kernel_rfl
theorem in280 : (Tryz.prog.info? 280).isSome = true := by kernel_rfl
theorem us280 : (Tryz.prog.underlying 280).isSome = true := by kernel_rfl
theorem z280 : zeroT Tryz.prog 280 = some (.agg #[.string ⟨#[]⟩, .int .u8 0]) := by kernel_rfl
theorem fd280_0 : fieldT Tryz.prog 280 0 0 = true := by kernel_rfl
theorem fd280_1 : fieldT Tryz.prog 280 1 1 = true := by kernel_rfl
theorem nm3 : Named Tryz.prog 3 := ⟨_, Tryz.func3, by kernel_rfl, by kernel_rfl⟩
theorem nm4 : Named Tryz.prog 4 := ⟨_, Tryz.func4, by kernel_rfl, by kernel_rfl⟩
theorem nm5 : Named Tryz.prog 5 := ⟨_, Tryz.func5, by kernel_rfl, by kernel_rfl⟩
theorem nm6 : Named Tryz.prog 6 := ⟨_, Tryz.func6, by kernel_rfl, by kernel_rfl⟩
theorem nm7 : Named Tryz.prog 7 := ⟨_, Tryz.func7, by kernel_rfl, by kernel_rfl⟩
theorem nm8 : Named Tryz.prog 8 := ⟨_, Tryz.func8, by kernel_rfl, by kernel_rfl⟩
theorem nm9 : Named Tryz.prog 9 := ⟨_, Tryz.func9, by kernel_rfl, by kernel_rfl⟩
theorem nm10 : Named Tryz.prog 10 := ⟨_, Tryz.func10, by kernel_rfl, by kernel_rfl⟩
theorem nm11 : Named Tryz.prog 11 := ⟨_, Tryz.func11, by kernel_rfl, by kernel_rfl⟩
theorem nm12 : Named Tryz.prog 12 := ⟨_, Tryz.func12, by kernel_rfl, by kernel_rfl⟩
theorem nm13 : Named Tryz.prog 13 := ⟨_, Tryz.func13, by kernel_rfl, by kernel_rfl⟩
theorem nm14 : Named Tryz.prog 14 := ⟨_, Tryz.func14, by kernel_rfl, by kernel_rfl⟩
theorem nm15 : Named Tryz.prog 15 := ⟨_, Tryz.func15, by kernel_rfl, by kernel_rfl⟩
theorem nm16 : Named Tryz.prog 16 := ⟨_, Tryz.func16, by kernel_rfl, by kernel_rfl⟩
theorem nm17 : Named Tryz.prog 17 := ⟨_, Tryz.func17, by kernel_rfl, by kernel_rfl⟩
theorem nm18 : Named Tryz.prog 18 := ⟨_, Tryz.func18, by kernel_rfl, by kernel_rfl⟩
theorem nm19 : Named Tryz.prog 19 := ⟨_, Tryz.func19, by kernel_rfl, by kernel_rfl⟩
theorem nm20 : Named Tryz.prog 20 := ⟨_, Tryz.func20, by kernel_rfl, by kernel_rfl⟩
theorem nm21 : Named Tryz.prog 21 := ⟨_, Tryz.func21, by kernel_rfl, by kernel_rfl⟩
theorem nm22 : Named Tryz.prog 22 := ⟨_, Tryz.func22, by kernel_rfl, by kernel_rfl⟩
theorem nm23 : Named Tryz.prog 23 := ⟨_, Tryz.func23, by kernel_rfl, by kernel_rfl⟩
theorem nm24 : Named Tryz.prog 24 := ⟨_, Tryz.func24, by kernel_rfl, by kernel_rfl⟩
theorem nm25 : Named Tryz.prog 25 := ⟨_, Tryz.func25, by kernel_rfl, by kernel_rfl⟩
theorem nm26 : Named Tryz.prog 26 := ⟨_, Tryz.func26, by kernel_rfl, by kernel_rfl⟩
theorem nm27 : Named Tryz.prog 27 := ⟨_, Tryz.func27, by kernel_rfl, by kernel_rfl⟩
theorem nm28 : Named Tryz.prog 28 := ⟨_, Tryz.func28, by kernel_rfl, by kernel_rfl⟩
theorem nm29 : Named Tryz.prog 29 := ⟨_, Tryz.func29, by kernel_rfl, by kernel_rfl⟩
theorem nm30 : Named Tryz.prog 30 := ⟨_, Tryz.func30, by kernel_rfl, by kernel_rfl⟩
theorem nm31 : Named Tryz.prog 31 := ⟨_, Tryz.func31, by kernel_rfl, by kernel_rfl⟩
theorem nm32 : Named Tryz.prog 32 := ⟨_, Tryz.func32, by kernel_rfl, by kernel_rfl⟩
theorem nm33 : Named Tryz.prog 33 := ⟨_, Tryz.func33, by kernel_rfl, by kernel_rfl⟩
theorem nm34 : Named Tryz.prog 34 := ⟨_, Tryz.func34, by kernel_rfl, by kernel_rfl⟩
theorem nm35 : Named Tryz.prog 35 := ⟨_, Tryz.func35, by kernel_rfl, by kernel_rfl⟩
theorem nm36 : Named Tryz.prog 36 := ⟨_, Tryz.func36, by kernel_rfl, by kernel_rfl⟩
theorem nm37 : Named Tryz.prog 37 := ⟨_, Tryz.func37, by kernel_rfl, by kernel_rfl⟩
theorem nm38 : Named Tryz.prog 38 := ⟨_, Tryz.func38, by kernel_rfl, by kernel_rfl⟩
theorem nm39 : Named Tryz.prog 39 := ⟨_, Tryz.func39, by kernel_rfl, by kernel_rfl⟩
theorem nm40 : Named Tryz.prog 40 := ⟨_, Tryz.func40, by kernel_rfl, by kernel_rfl⟩
theorem nm41 : Named Tryz.prog 41 := ⟨_, Tryz.func41, by kernel_rfl, by kernel_rfl⟩
theorem nm42 : Named Tryz.prog 42 := ⟨_, Tryz.func42, by kernel_rfl, by kernel_rfl⟩
theorem nm43 : Named Tryz.prog 43 := ⟨_, Tryz.func43, by kernel_rfl, by kernel_rfl⟩
theorem nm44 : Named Tryz.prog 44 := ⟨_, Tryz.func44, by kernel_rfl, by kernel_rfl⟩
theorem nm45 : Named Tryz.prog 45 := ⟨_, Tryz.func45, by kernel_rfl, by kernel_rfl⟩
theorem nm46 : Named Tryz.prog 46 := ⟨_, Tryz.func46, by kernel_rfl, by kernel_rfl⟩
theorem nm47 : Named Tryz.prog 47 := ⟨_, Tryz.func47, by kernel_rfl, by kernel_rfl⟩
theorem nm48 : Named Tryz.prog 48 := ⟨_, Tryz.func48, by kernel_rfl, by kernel_rfl⟩
theorem nm49 : Named Tryz.prog 49 := ⟨_, Tryz.func49, by kernel_rfl, by kernel_rfl⟩
theorem nm50 : Named Tryz.prog 50 := ⟨_, Tryz.func50, by kernel_rfl, by kernel_rfl⟩
theorem nm51 : Named Tryz.prog 51 := ⟨_, Tryz.func51, by kernel_rfl, by kernel_rfl⟩
theorem nm52 : Named Tryz.prog 52 := ⟨_, Tryz.func52, by kernel_rfl, by kernel_rfl⟩
theorem nm53 : Named Tryz.prog 53 := ⟨_, Tryz.func53, by kernel_rfl, by kernel_rfl⟩
theorem nm54 : Named Tryz.prog 54 := ⟨_, Tryz.func54, by kernel_rfl, by kernel_rfl⟩
theorem nm55 : Named Tryz.prog 55 := ⟨_, Tryz.func55, by kernel_rfl, by kernel_rfl⟩
theorem nm56 : Named Tryz.prog 56 := ⟨_, Tryz.func56, by kernel_rfl, by kernel_rfl⟩
theorem nm57 : Named Tryz.prog 57 := ⟨_, Tryz.func57, by kernel_rfl, by kernel_rfl⟩
theorem nm58 : Named Tryz.prog 58 := ⟨_, Tryz.func58, by kernel_rfl, by kernel_rfl⟩
theorem nm59 : Named Tryz.prog 59 := ⟨_, Tryz.func59, by kernel_rfl, by kernel_rfl⟩
theorem nm60 : Named Tryz.prog 60 := ⟨_, Tryz.func60, by kernel_rfl, by kernel_rfl⟩
theorem nm61 : Named Tryz.prog 61 := ⟨_, Tryz.func61, by kernel_rfl, by kernel_rfl⟩
theorem nm62 : Named Tryz.prog 62 := ⟨_, Tryz.func62, by kernel_rfl, by kernel_rfl⟩
theorem nm63 : Named Tryz.prog 63 := ⟨_, Tryz.func63, by kernel_rfl, by kernel_rfl⟩
theorem nm64 : Named Tryz.prog 64 := ⟨_, Tryz.func64, by kernel_rfl, by kernel_rfl⟩
theorem nm65 : Named Tryz.prog 65 := ⟨_, Tryz.func65, by kernel_rfl, by kernel_rfl⟩
theorem nm66 : Named Tryz.prog 66 := ⟨_, Tryz.func66, by kernel_rfl, by kernel_rfl⟩
theorem nm67 : Named Tryz.prog 67 := ⟨_, Tryz.func67, by kernel_rfl, by kernel_rfl⟩
theorem nm68 : Named Tryz.prog 68 := ⟨_, Tryz.func68, by kernel_rfl, by kernel_rfl⟩
theorem nm69 : Named Tryz.prog 69 := ⟨_, Tryz.func69, by kernel_rfl, by kernel_rfl⟩
theorem nm70 : Named Tryz.prog 70 := ⟨_, Tryz.func70, by kernel_rfl, by kernel_rfl⟩
theorem nm71 : Named Tryz.prog 71 := ⟨_, Tryz.func71, by kernel_rfl, by kernel_rfl⟩
theorem nm72 : Named Tryz.prog 72 := ⟨_, Tryz.func72, by kernel_rfl, by kernel_rfl⟩
theorem nm73 : Named Tryz.prog 73 := ⟨_, Tryz.func73, by kernel_rfl, by kernel_rfl⟩
theorem nm74 : Named Tryz.prog 74 := ⟨_, Tryz.func74, by kernel_rfl, by kernel_rfl⟩
theorem nm75 : Named Tryz.prog 75 := ⟨_, Tryz.func75, by kernel_rfl, by kernel_rfl⟩
theorem nm76 : Named Tryz.prog 76 := ⟨_, Tryz.func76, by kernel_rfl, by kernel_rfl⟩
theorem nm77 : Named Tryz.prog 77 := ⟨_, Tryz.func77, by kernel_rfl, by kernel_rfl⟩
theorem nm78 : Named Tryz.prog 78 := ⟨_, Tryz.func78, by kernel_rfl, by kernel_rfl⟩
theorem nm79 : Named Tryz.prog 79 := ⟨_, Tryz.func79, by kernel_rfl, by kernel_rfl⟩
theorem nm80 : Named Tryz.prog 80 := ⟨_, Tryz.func80, by kernel_rfl, by kernel_rfl⟩
theorem nm81 : Named Tryz.prog 81 := ⟨_, Tryz.func81, by kernel_rfl, by kernel_rfl⟩
theorem nm82 : Named Tryz.prog 82 := ⟨_, Tryz.func82, by kernel_rfl, by kernel_rfl⟩
theorem nm83 : Named Tryz.prog 83 := ⟨_, Tryz.func83, by kernel_rfl, by kernel_rfl⟩
theorem nm84 : Named Tryz.prog 84 := ⟨_, Tryz.func84, by kernel_rfl, by kernel_rfl⟩
theorem nm85 : Named Tryz.prog 85 := ⟨_, Tryz.func85, by kernel_rfl, by kernel_rfl⟩
theorem nm86 : Named Tryz.prog 86 := ⟨_, Tryz.func86, by kernel_rfl, by kernel_rfl⟩
theorem nm87 : Named Tryz.prog 87 := ⟨_, Tryz.func87, by kernel_rfl, by kernel_rfl⟩
theorem nm88 : Named Tryz.prog 88 := ⟨_, Tryz.func88, by kernel_rfl, by kernel_rfl⟩
theorem nm89 : Named Tryz.prog 89 := ⟨_, Tryz.func89, by kernel_rfl, by kernel_rfl⟩
theorem nm90 : Named Tryz.prog 90 := ⟨_, Tryz.func90, by kernel_rfl, by kernel_rfl⟩
theorem nm91 : Named Tryz.prog 91 := ⟨_, Tryz.func91, by kernel_rfl, by kernel_rfl⟩
theorem nm92 : Named Tryz.prog 92 := ⟨_, Tryz.func92, by kernel_rfl, by kernel_rfl⟩
theorem nm93 : Named Tryz.prog 93 := ⟨_, Tryz.func93, by kernel_rfl, by kernel_rfl⟩
theorem nm94 : Named Tryz.prog 94 := ⟨_, Tryz.func94, by kernel_rfl, by kernel_rfl⟩
theorem nm95 : Named Tryz.prog 95 := ⟨_, Tryz.func95, by kernel_rfl, by kernel_rfl⟩
theorem nm96 : Named Tryz.prog 96 := ⟨_, Tryz.func96, by kernel_rfl, by kernel_rfl⟩
theorem nm97 : Named Tryz.prog 97 := ⟨_, Tryz.func97, by kernel_rfl, by kernel_rfl⟩
theorem nm98 : Named Tryz.prog 98 := ⟨_, Tryz.func98, by kernel_rfl, by kernel_rfl⟩
theorem nm99 : Named Tryz.prog 99 := ⟨_, Tryz.func99, by kernel_rfl, by kernel_rfl⟩
theorem nm100 : Named Tryz.prog 100 := ⟨_, Tryz.func100, by kernel_rfl, by kernel_rfl⟩
theorem nm101 : Named Tryz.prog 101 := ⟨_, Tryz.func101, by kernel_rfl, by kernel_rfl⟩
theorem nm102 : Named Tryz.prog 102 := ⟨_, Tryz.func102, by kernel_rfl, by kernel_rfl⟩
theorem nm103 : Named Tryz.prog 103 := ⟨_, Tryz.func103, by kernel_rfl, by kernel_rfl⟩
theorem nm104 : Named Tryz.prog 104 := ⟨_, Tryz.func104, by kernel_rfl, by kernel_rfl⟩
theorem nm105 : Named Tryz.prog 105 := ⟨_, Tryz.func105, by kernel_rfl, by kernel_rfl⟩
theorem nm106 : Named Tryz.prog 106 := ⟨_, Tryz.func106, by kernel_rfl, by kernel_rfl⟩
theorem nm107 : Named Tryz.prog 107 := ⟨_, Tryz.func107, by kernel_rfl, by kernel_rfl⟩
theorem nm108 : Named Tryz.prog 108 := ⟨_, Tryz.func108, by kernel_rfl, by kernel_rfl⟩
theorem nm109 : Named Tryz.prog 109 := ⟨_, Tryz.func109, by kernel_rfl, by kernel_rfl⟩
theorem nm110 : Named Tryz.prog 110 := ⟨_, Tryz.func110, by kernel_rfl, by kernel_rfl⟩
theorem nm111 : Named Tryz.prog 111 := ⟨_, Tryz.func111, by kernel_rfl, by kernel_rfl⟩
theorem nm112 : Named Tryz.prog 112 := ⟨_, Tryz.func112, by kernel_rfl, by kernel_rfl⟩
theorem nm113 : Named Tryz.prog 113 := ⟨_, Tryz.func113, by kernel_rfl, by kernel_rfl⟩
theorem nm114 : Named Tryz.prog 114 := ⟨_, Tryz.func114, by kernel_rfl, by kernel_rfl⟩
theorem nm115 : Named Tryz.prog 115 := ⟨_, Tryz.func115, by kernel_rfl, by kernel_rfl⟩
theorem nm116 : Named Tryz.prog 116 := ⟨_, Tryz.func116, by kernel_rfl, by kernel_rfl⟩
theorem nm117 : Named Tryz.prog 117 := ⟨_, Tryz.func117, by kernel_rfl, by kernel_rfl⟩
theorem nm118 : Named Tryz.prog 118 := ⟨_, Tryz.func118, by kernel_rfl, by kernel_rfl⟩
theorem nm119 : Named Tryz.prog 119 := ⟨_, Tryz.func119, by kernel_rfl, by kernel_rfl⟩
theorem nm120 : Named Tryz.prog 120 := ⟨_, Tryz.func120, by kernel_rfl, by kernel_rfl⟩
theorem nm121 : Named Tryz.prog 121 := ⟨_, Tryz.func121, by kernel_rfl, by kernel_rfl⟩
theorem nm122 : Named Tryz.prog 122 := ⟨_, Tryz.func122, by kernel_rfl, by kernel_rfl⟩
theorem nm123 : Named Tryz.prog 123 := ⟨_, Tryz.func123, by kernel_rfl, by kernel_rfl⟩
theorem nm124 : Named Tryz.prog 124 := ⟨_, Tryz.func124, by kernel_rfl, by kernel_rfl⟩
theorem nm125 : Named Tryz.prog 125 := ⟨_, Tryz.func125, by kernel_rfl, by kernel_rfl⟩
theorem nm126 : Named Tryz.prog 126 := ⟨_, Tryz.func126, by kernel_rfl, by kernel_rfl⟩
theorem nm127 : Named Tryz.prog 127 := ⟨_, Tryz.func127, by kernel_rfl, by kernel_rfl⟩
theorem nm128 : Named Tryz.prog 128 := ⟨_, Tryz.func128, by kernel_rfl, by kernel_rfl⟩
theorem nm129 : Named Tryz.prog 129 := ⟨_, Tryz.func129, by kernel_rfl, by kernel_rfl⟩
theorem nm130 : Named Tryz.prog 130 := ⟨_, Tryz.func130, by kernel_rfl, by kernel_rfl⟩
theorem nm131 : Named Tryz.prog 131 := ⟨_, Tryz.func131, by kernel_rfl, by kernel_rfl⟩
theorem nm132 : Named Tryz.prog 132 := ⟨_, Tryz.func132, by kernel_rfl, by kernel_rfl⟩
theorem nm133 : Named Tryz.prog 133 := ⟨_, Tryz.func133, by kernel_rfl, by kernel_rfl⟩
theorem nm134 : Named Tryz.prog 134 := ⟨_, Tryz.func134, by kernel_rfl, by kernel_rfl⟩
theorem nm135 : Named Tryz.prog 135 := ⟨_, Tryz.func135, by kernel_rfl, by kernel_rfl⟩
theorem nm136 : Named Tryz.prog 136 := ⟨_, Tryz.func136, by kernel_rfl, by kernel_rfl⟩
theorem nm137 : Named Tryz.prog 137 := ⟨_, Tryz.func137, by kernel_rfl, by kernel_rfl⟩
theorem nm138 : Named Tryz.prog 138 := ⟨_, Tryz.func138, by kernel_rfl, by kernel_rfl⟩
theorem nm139 : Named Tryz.prog 139 := ⟨_, Tryz.func139, by kernel_rfl, by kernel_rfl⟩
theorem nm140 : Named Tryz.prog 140 := ⟨_, Tryz.func140, by kernel_rfl, by kernel_rfl⟩
theorem nm141 : Named Tryz.prog 141 := ⟨_, Tryz.func141, by kernel_rfl, by kernel_rfl⟩
theorem nm142 : Named Tryz.prog 142 := ⟨_, Tryz.func142, by kernel_rfl, by kernel_rfl⟩
theorem nm143 : Named Tryz.prog 143 := ⟨_, Tryz.func143, by kernel_rfl, by kernel_rfl⟩
theorem nm144 : Named Tryz.prog 144 := ⟨_, Tryz.func144, by kernel_rfl, by kernel_rfl⟩
theorem nm145 : Named Tryz.prog 145 := ⟨_, Tryz.func145, by kernel_rfl, by kernel_rfl⟩
theorem nm146 : Named Tryz.prog 146 := ⟨_, Tryz.func146, by kernel_rfl, by kernel_rfl⟩
theorem nm147 : Named Tryz.prog 147 := ⟨_, Tryz.func147, by kernel_rfl, by kernel_rfl⟩
theorem nm148 : Named Tryz.prog 148 := ⟨_, Tryz.func148, by kernel_rfl, by kernel_rfl⟩
theorem nm149 : Named Tryz.prog 149 := ⟨_, Tryz.func149, by kernel_rfl, by kernel_rfl⟩
theorem nm151 : Named Tryz.prog 151 := ⟨_, Tryz.func151, by kernel_rfl, by kernel_rfl⟩
theorem nm152 : Named Tryz.prog 152 := ⟨_, Tryz.func152, by kernel_rfl, by kernel_rfl⟩
theorem nm153 : Named Tryz.prog 153 := ⟨_, Tryz.func153, by kernel_rfl, by kernel_rfl⟩
theorem nm154 : Named Tryz.prog 154 := ⟨_, Tryz.func154, by kernel_rfl, by kernel_rfl⟩
theorem nm155 : Named Tryz.prog 155 := ⟨_, Tryz.func155, by kernel_rfl, by kernel_rfl⟩
theorem nm156 : Named Tryz.prog 156 := ⟨_, Tryz.func156, by kernel_rfl, by kernel_rfl⟩
theorem nm157 : Named Tryz.prog 157 := ⟨_, Tryz.func157, by kernel_rfl, by kernel_rfl⟩
theorem nm158 : Named Tryz.prog 158 := ⟨_, Tryz.func158, by kernel_rfl, by kernel_rfl⟩
theorem nm159 : Named Tryz.prog 159 := ⟨_, Tryz.func159, by kernel_rfl, by kernel_rfl⟩
theorem nm160 : Named Tryz.prog 160 := ⟨_, Tryz.func160, by kernel_rfl, by kernel_rfl⟩
theorem nm163 : Named Tryz.prog 163 := ⟨_, Tryz.func163, by kernel_rfl, by kernel_rfl⟩
theorem nm164 : Named Tryz.prog 164 := ⟨_, Tryz.func164, by kernel_rfl, by kernel_rfl⟩
theorem nm165 : Named Tryz.prog 165 := ⟨_, Tryz.func165, by kernel_rfl, by kernel_rfl⟩
theorem nm166 : Named Tryz.prog 166 := ⟨_, Tryz.func166, by kernel_rfl, by kernel_rfl⟩
theorem nm167 : Named Tryz.prog 167 := ⟨_, Tryz.func167, by kernel_rfl, by kernel_rfl⟩
theorem nm168 : Named Tryz.prog 168 := ⟨_, Tryz.func168, by kernel_rfl, by kernel_rfl⟩
theorem nm169 : Named Tryz.prog 169 := ⟨_, Tryz.func169, by kernel_rfl, by kernel_rfl⟩
theorem nm170 : Named Tryz.prog 170 := ⟨_, Tryz.func170, by kernel_rfl, by kernel_rfl⟩
theorem nm171 : Named Tryz.prog 171 := ⟨_, Tryz.func171, by kernel_rfl, by kernel_rfl⟩
theorem nm172 : Named Tryz.prog 172 := ⟨_, Tryz.func172, by kernel_rfl, by kernel_rfl⟩
theorem nm173 : Named Tryz.prog 173 := ⟨_, Tryz.func173, by kernel_rfl, by kernel_rfl⟩
theorem nm174 : Named Tryz.prog 174 := ⟨_, Tryz.func174, by kernel_rfl, by kernel_rfl⟩
theorem nm175 : Named Tryz.prog 175 := ⟨_, Tryz.func175, by kernel_rfl, by kernel_rfl⟩
theorem nm176 : Named Tryz.prog 176 := ⟨_, Tryz.func176, by kernel_rfl, by kernel_rfl⟩
theorem nm177 : Named Tryz.prog 177 := ⟨_, Tryz.func177, by kernel_rfl, by kernel_rfl⟩
theorem nm178 : Named Tryz.prog 178 := ⟨_, Tryz.func178, by kernel_rfl, by kernel_rfl⟩
theorem nm179 : Named Tryz.prog 179 := ⟨_, Tryz.func179, by kernel_rfl, by kernel_rfl⟩
theorem nm180 : Named Tryz.prog 180 := ⟨_, Tryz.func180, by kernel_rfl, by kernel_rfl⟩
theorem nm181 : Named Tryz.prog 181 := ⟨_, Tryz.func181, by kernel_rfl, by kernel_rfl⟩
theorem nm182 : Named Tryz.prog 182 := ⟨_, Tryz.func182, by kernel_rfl, by kernel_rfl⟩
theorem nm183 : Named Tryz.prog 183 := ⟨_, Tryz.func183, by kernel_rfl, by kernel_rfl⟩
theorem nm184 : Named Tryz.prog 184 := ⟨_, Tryz.func184, by kernel_rfl, by kernel_rfl⟩
theorem nm185 : Named Tryz.prog 185 := ⟨_, Tryz.func185, by kernel_rfl, by kernel_rfl⟩
theorem nm186 : Named Tryz.prog 186 := ⟨_, Tryz.func186, by kernel_rfl, by kernel_rfl⟩
theorem nm187 : Named Tryz.prog 187 := ⟨_, Tryz.func187, by kernel_rfl, by kernel_rfl⟩
theorem nm188 : Named Tryz.prog 188 := ⟨_, Tryz.func188, by kernel_rfl, by kernel_rfl⟩
theorem nm189 : Named Tryz.prog 189 := ⟨_, Tryz.func189, by kernel_rfl, by kernel_rfl⟩
theorem nm190 : Named Tryz.prog 190 := ⟨_, Tryz.func190, by kernel_rfl, by kernel_rfl⟩
theorem nm191 : Named Tryz.prog 191 := ⟨_, Tryz.func191, by kernel_rfl, by kernel_rfl⟩
theorem nm192 : Named Tryz.prog 192 := ⟨_, Tryz.func192, by kernel_rfl, by kernel_rfl⟩
theorem nm193 : Named Tryz.prog 193 := ⟨_, Tryz.func193, by kernel_rfl, by kernel_rfl⟩
theorem nm194 : Named Tryz.prog 194 := ⟨_, Tryz.func194, by kernel_rfl, by kernel_rfl⟩
theorem nm195 : Named Tryz.prog 195 := ⟨_, Tryz.func195, by kernel_rfl, by kernel_rfl⟩
theorem nm196 : Named Tryz.prog 196 := ⟨_, Tryz.func196, by kernel_rfl, by kernel_rfl⟩
theorem nm197 : Named Tryz.prog 197 := ⟨_, Tryz.func197, by kernel_rfl, by kernel_rfl⟩
theorem nm198 : Named Tryz.prog 198 := ⟨_, Tryz.func198, by kernel_rfl, by kernel_rfl⟩
theorem nm199 : Named Tryz.prog 199 := ⟨_, Tryz.func199, by kernel_rfl, by kernel_rfl⟩
theorem nm200 : Named Tryz.prog 200 := ⟨_, Tryz.func200, by kernel_rfl, by kernel_rfl⟩
theorem nm204 : Named Tryz.prog 204 := ⟨_, Tryz.func204, by kernel_rfl, by kernel_rfl⟩
theorem nm205 : Named Tryz.prog 205 := ⟨_, Tryz.func205, by kernel_rfl, by kernel_rfl⟩
theorem nm207 : Named Tryz.prog 207 := ⟨_, Tryz.func207, by kernel_rfl, by kernel_rfl⟩
theorem nm208 : Named Tryz.prog 208 := ⟨_, Tryz.func208, by kernel_rfl, by kernel_rfl⟩
theorem nm209 : Named Tryz.prog 209 := ⟨_, Tryz.func209, by kernel_rfl, by kernel_rfl⟩
theorem nm210 : Named Tryz.prog 210 := ⟨_, Tryz.func210, by kernel_rfl, by kernel_rfl⟩
theorem nm211 : Named Tryz.prog 211 := ⟨_, Tryz.func211, by kernel_rfl, by kernel_rfl⟩
theorem nm212 : Named Tryz.prog 212 := ⟨_, Tryz.func212, by kernel_rfl, by kernel_rfl⟩
theorem nm213 : Named Tryz.prog 213 := ⟨_, Tryz.func213, by kernel_rfl, by kernel_rfl⟩
theorem nm214 : Named Tryz.prog 214 := ⟨_, Tryz.func214, by kernel_rfl, by kernel_rfl⟩
theorem nm215 : Named Tryz.prog 215 := ⟨_, Tryz.func215, by kernel_rfl, by kernel_rfl⟩
theorem nm225 : Named Tryz.prog 225 := ⟨_, Tryz.func225, by kernel_rfl, by kernel_rfl⟩
theorem nm226 : Named Tryz.prog 226 := ⟨_, Tryz.func226, by kernel_rfl, by kernel_rfl⟩
theorem nm227 : Named Tryz.prog 227 := ⟨_, Tryz.func227, by kernel_rfl, by kernel_rfl⟩
theorem nm228 : Named Tryz.prog 228 := ⟨_, Tryz.func228, by kernel_rfl, by kernel_rfl⟩
theorem nm229 : Named Tryz.prog 229 := ⟨_, Tryz.func229, by kernel_rfl, by kernel_rfl⟩
theorem nm230 : Named Tryz.prog 230 := ⟨_, Tryz.func230, by kernel_rfl, by kernel_rfl⟩
theorem nm231 : Named Tryz.prog 231 := ⟨_, Tryz.func231, by kernel_rfl, by kernel_rfl⟩
theorem nm232 : Named Tryz.prog 232 := ⟨_, Tryz.func232, by kernel_rfl, by kernel_rfl⟩
theorem nm233 : Named Tryz.prog 233 := ⟨_, Tryz.func233, by kernel_rfl, by kernel_rfl⟩
theorem nm234 : Named Tryz.prog 234 := ⟨_, Tryz.func234, by kernel_rfl, by kernel_rfl⟩
theorem nm235 : Named Tryz.prog 235 := ⟨_, Tryz.func235, by kernel_rfl, by kernel_rfl⟩
theorem nm236 : Named Tryz.prog 236 := ⟨_, Tryz.func236, by kernel_rfl, by kernel_rfl⟩
theorem nm237 : Named Tryz.prog 237 := ⟨_, Tryz.func237, by kernel_rfl, by kernel_rfl⟩
theorem nm238 : Named Tryz.prog 238 := ⟨_, Tryz.func238, by kernel_rfl, by kernel_rfl⟩
theorem nm239 : Named Tryz.prog 239 := ⟨_, Tryz.func239, by kernel_rfl, by kernel_rfl⟩
theorem nm240 : Named Tryz.prog 240 := ⟨_, Tryz.func240, by kernel_rfl, by kernel_rfl⟩
theorem nm241 : Named Tryz.prog 241 := ⟨_, Tryz.func241, by kernel_rfl, by kernel_rfl⟩
theorem nm242 : Named Tryz.prog 242 := ⟨_, Tryz.func242, by kernel_rfl, by kernel_rfl⟩
theorem nm243 : Named Tryz.prog 243 := ⟨_, Tryz.func243, by kernel_rfl, by kernel_rfl⟩
theorem nm244 : Named Tryz.prog 244 := ⟨_, Tryz.func244, by kernel_rfl, by kernel_rfl⟩
theorem nm245 : Named Tryz.prog 245 := ⟨_, Tryz.func245, by kernel_rfl, by kernel_rfl⟩
theorem nm246 : Named Tryz.prog 246 := ⟨_, Tryz.func246, by kernel_rfl, by kernel_rfl⟩
theorem nm247 : Named Tryz.prog 247 := ⟨_, Tryz.func247, by kernel_rfl, by kernel_rfl⟩
theorem nm265 : Named Tryz.prog 265 := ⟨_, Tryz.func265, by kernel_rfl, by kernel_rfl⟩
theorem nm266 : Named Tryz.prog 266 := ⟨_, Tryz.func266, by kernel_rfl, by kernel_rfl⟩
theorem nm267 : Named Tryz.prog 267 := ⟨_, Tryz.func267, by kernel_rfl, by kernel_rfl⟩
theorem nm268 : Named Tryz.prog 268 := ⟨_, Tryz.func268, by kernel_rfl, by kernel_rfl⟩
theorem mixed : Tryz.prog.follows .mixedOrders = true := by kernel_rfl
end Go.Proofs.YtmbleojlnaofjaaGreatDoor.F

/-
  DERIVED: THE SHELF's CONTRACTS AT THIS DUMP, IN PLAIN WORDS (tools/lay-plain.mjs out of 'TryzShelfV.lean', which tools/lay-shelf.mjs wrote): THE SAME DECLARATIONS UNDER THE SAME NAMES: 'import', 'namespace', 'open', 'def', 'theorem' AND NOTHING ELSE: no command of the shelf's: FOR A HAND-IN. Each laying: the table of numbers ('.._ren') and one theorem, a field a fact of the dump's own or the kernel's comparison; each contract: ONE APPLICATION.
-/
namespace Go.Proofs
open Go.Shelf
def Tryz.laysValid_ren : Go.Shelf.Ren := ⟨fun | 196 => 17 | 259 => 41 | n => n, fun | 9 => 9 | 4 => 4 | 3 => 3 | 5 => 5 | 12 => 12 | 119 => 59 | 0 => 0 | 46 => 63 | 139 => 62 | 138 => 61 | 53 => 93 | n => n, fun | 3 => 0 | 4 => 1 | n => n⟩
theorem Tryz.laysValid : Go.Proofs.Lays.n196 Tryz.prog Tryz.laysValid_ren := {
 mixed := by kernel_rfl
 f196 := Tryz.func17.trans (congrArg some (by kernel_rfl))
 f259 := Tryz.func41.trans (congrArg some (by kernel_rfl))
 t0 := Tryz.underlying0
 a0 := Tryz.isAgg0
 z0 := Tryz.sizeOf0
 v0 := Tryz.zeroValue0
 t3 := Tryz.underlying3
 a3 := Tryz.isAgg3
 z3 := Tryz.sizeOf3
 v3 := Tryz.zeroValue3
 t4 := Tryz.underlying4
 a4 := Tryz.isAgg4
 z4 := Tryz.sizeOf4
 v4 := Tryz.zeroValue4
 t5 := Tryz.underlying5
 a5 := Tryz.isAgg5
 z5 := Tryz.sizeOf5
 v5 := Tryz.zeroValue5
 t9 := Tryz.underlying9
 a9 := Tryz.isAgg9
 z9 := Tryz.sizeOf9
 v9 := Tryz.zeroValue9
 t12 := Tryz.underlying12
 a12 := Tryz.isAgg12
 z12 := Tryz.sizeOf12
 v12 := Tryz.zeroValue12
 t46 := Tryz.underlying63
 a46 := Tryz.isAgg63
 z46 := Tryz.sizeOf63
 v46 := Tryz.zeroValue63
 t53 := Tryz.underlying93
 a53 := Tryz.isAgg93
 z53 := Tryz.sizeOf93
 v53 := Tryz.zeroValue93
 t119 := Tryz.underlying59
 a119 := Tryz.isAgg59
 z119 := Tryz.sizeOf59
 t138 := Tryz.underlying61
 a138 := Tryz.isAgg61
 z138 := Tryz.sizeOf61
 v138 := Tryz.zeroValue61
 t139 := Tryz.underlying62
 a139 := Tryz.isAgg62
 z139 := Tryz.sizeOf62
 v139 := Tryz.zeroValue62
 g3 := by kernel_rfl
 g4 := by kernel_rfl }
end Go.Proofs

/- The library's utf8.ValidString, as the shelf has it, in the words of the walks. -/
namespace Go.Proofs.YtmbleojlnaofjaaGreatDoor
open Go Go.RowKit D
set_option linter.unusedVariables false
set_option linter.unusedSimpArgs false


theorem valid_any (s : ByteArray) (w : World) (hs : s.size ≤ 9223372036854775807) (hT : Tabs w) : Calls Tryz.prog 17 #[.string s] w (Ret w [] fun v w' => v = .bool (Lib.validD s.data.toList)) := by
 refine (Any.utf8_ValidString Tryz.laysValid s w hs hT).mono fun e w' h => ?_
 obtain ⟨rfl, hb⟩ := h
 exact Ret.mk (Fr.ofBelow hb) rfl

end Go.Proofs.YtmbleojlnaofjaaGreatDoor

/- The walks of the looker of spec.Fit. -/
namespace Go.Proofs.YtmbleojlnaofjaaGreatDoor
open Go Go.RowKit D
set_option linter.unusedVariables false
set_option linter.unusedSimpArgs false


/-- What the looker holds: parts, bytes, bad. -/
def lk (p n : Int) (bad : Bool) : Array Value := #[.int .i64 p, .int .i64 n, .bool bad]
theorem wrapI {x : Int} (h1 : -9223372036854775808 ≤ x) (h2 : x ≤ 9223372036854775807) : IntKind.i64.wrap x = x := wrap_i64 h1 h2

theorem want_any (b : Nat) (p n : Int) (bad ok : Bool) (w : World) (hb : w.heap[b]? = some (.cells (lk p n bad) 67 (0, 0))) :
  Calls Tryz.prog 87 #[.pointer (some ⟨b, 0, none⟩), .bool ok] w (Ret w [b] fun v w' => w'.heap[b]? = some (.cells (lk p n (bad || !ok)) 67 (0, 0))) := by
 refine calls_of Tryz.func87 rfl rfl rfl rfl ?_
 have FR := Fr.refl [b] w
 refine DC.region ?_
 refine DL.y rfl rfl (Y.move) ?_
 refine DL.y rfl rfl (Y.move) ?_
 refine DL.y rfl rfl (Y.nil rfl) ?_
 refine DL.y rfl rfl (Y.field F.fd67_2 rfl) ?_
 refine DL.ifb rfl rfl (Y.loadB F.sc4 rfl hb rfl) (fun c8 => ?_) (fun c8 => ?_)
 ·refine DL.y rfl rfl (Y.move) ?_
  refine DL.skip rfl rfl ?_
  refine DL.skip rfl rfl ?_
  refine DL.y rfl rfl (Y.pickT rfl) ?_
  refine DL.y rfl rfl (Y.nil rfl) ?_
  refine DL.y rfl rfl (Y.field F.fd67_2 rfl) ?_
  refine DL.store rfl F.co4 F.in4 rfl rfl rfl hb rfl ?_
  intro w1 f2 hs3 hb'
  replace FR := FR.put f2 (by intro i hi; simp only [List.mem_cons, List.mem_singleton, List.not_mem_nil, or_false] at hi; rcases hi with rfl; all_goals (first | (left; simp; done) | (right; omega)))
  replace hb := hb'
  refine DL.nil ?_
  subst c8
  exact FinQ.end0 (Ret.mk FR hb)
 ·refine DL.y rfl rfl (Y.move) ?_
  refine DL.y rfl rfl (Y.move) ?_
  refine DL.y rfl rfl (Y.not rfl) ?_
  refine DL.y rfl rfl (Y.pickF rfl) ?_
  refine DL.y rfl rfl (Y.nil rfl) ?_
  refine DL.y rfl rfl (Y.field F.fd67_2 rfl) ?_
  refine DL.store rfl F.co4 F.in4 rfl rfl rfl hb rfl ?_
  intro w4 f5 hs6 hb'
  replace FR := FR.put f5 (by intro i hi; simp only [List.mem_cons, List.mem_singleton, List.not_mem_nil, or_false] at hi; rcases hi with rfl; all_goals (first | (left; simp; done) | (right; omega)))
  replace hb := hb'
  refine DL.nil ?_
  subst c8
  exact FinQ.end0 (Ret.mk FR hb)

theorem part_raw (b : Nat) (p n d : Int) (bad : Bool) (w : World) (hb : w.heap[b]? = some (.cells (lk p n bad) 67 (0, 0))) :
  Calls Tryz.prog 86 #[.pointer (some ⟨b, 0, none⟩), .int .i64 d] w (Ret w [b] fun v w' => v = .bool (!(bad || !(decide (IntKind.i64.wrap (p + 1) ≤ 400) && decide (n ≤ 2000) && decide (d ≤ 60)))) ∧
   w'.heap[b]? = some (.cells (lk (IntKind.i64.wrap (p + 1)) n (bad || !(decide (IntKind.i64.wrap (p + 1) ≤ 400) && decide (n ≤ 2000) && decide (d ≤ 60)))) 67 (0, 0))) := by
 refine calls_of Tryz.func86 rfl rfl rfl rfl ?_
 have FR := Fr.refl [b] w
 refine DC.seq ?_
 refine DC.region ?_
 refine DL.y rfl rfl (Y.assign) ?_
 refine DL.nil ?_
 show DC _ _ _ _ _ _
 refine DC.seq ?_
 refine DC.region ?_
 refine DL.y rfl rfl (Y.move) ?_
 refine DL.y rfl rfl (Y.nil rfl) ?_
 refine DL.y rfl rfl (Y.field F.fd67_0 rfl) ?_
 refine DL.y rfl rfl (Y.loadB F.sc3 rfl hb rfl) ?_
 refine DL.y rfl rfl (Y.add rfl rfl) ?_
 refine DL.y rfl rfl (Y.nil rfl) ?_
 refine DL.y rfl rfl (Y.field F.fd67_0 rfl) ?_
 refine DL.store rfl F.co3 F.in3 rfl rfl rfl hb rfl ?_
 intro w1 f2 hs3 hb'
 replace FR := FR.put f2 (by intro i hi; simp only [List.mem_cons, List.mem_singleton, List.not_mem_nil, or_false] at hi; rcases hi with rfl; all_goals (first | (left; simp; done) | (right; omega)))
 replace hb := hb'
 refine DL.nil ?_
 show DC _ _ _ _ _ _
 refine DC.seq ?_
 refine DC.region ?_
 refine DL.y rfl rfl (Y.move) ?_
 refine DL.cut 16 [(13, 28)] 28 (.bool (decide (IntKind.i64.wrap (p + 1) ≤ 400) && decide (n ≤ 2000) && decide (d ≤ 60))) (fun w' => w' = w1) rfl ?_ ?_
 ·refine DL.y rfl rfl (Y.move) ?_
  refine DL.y rfl rfl (Y.nil rfl) ?_
  refine DL.y rfl rfl (Y.field F.fd67_0 rfl) ?_
  refine DL.y rfl rfl (Y.loadB F.sc3 rfl hb rfl) ?_
  refine DL.if rfl rfl (Y.le rfl rfl) (fun c17 => ?_) (fun c17 => ?_)
  ·refine DL.y rfl rfl (Y.move) ?_
   refine DL.y rfl rfl (Y.move) ?_
   refine DL.y rfl rfl (Y.nil rfl) ?_
   refine DL.y rfl rfl (Y.field F.fd67_1 rfl) ?_
   refine DL.y rfl rfl (Y.loadB F.sc3 rfl hb rfl) ?_
   refine DL.if rfl rfl (Y.le rfl rfl) (fun c23 => ?_) (fun c23 => ?_)
   ·refine DL.y rfl rfl (Y.pickT rfl) ?_
    refine DL.y rfl rfl (Y.move) ?_
    refine DL.y rfl rfl (Y.move) ?_
    refine DL.if rfl rfl (Y.le rfl rfl) (fun c27 => ?_) (fun c27 => ?_)
    ·refine DL.y rfl rfl (Y.pickT rfl) ?_
     exact DL.nil ⟨by (show Value.bool _ = Value.bool _; simp only [decide_eq_true c17, decide_eq_true c23, decide_eq_true c27]; first | done | rfl), rfl⟩
    ·refine DL.y rfl rfl (Y.pickT rfl) ?_
     exact DL.nil ⟨by (show Value.bool _ = Value.bool _; simp only [decide_eq_true c17, decide_eq_true c23, decide_eq_false c27]; first | done | rfl), rfl⟩
   ·refine DL.y rfl rfl (Y.pickT rfl) ?_
    refine DL.y rfl rfl (Y.move) ?_
    refine DL.skip rfl rfl ?_
    refine DL.skip rfl rfl ?_
    refine DL.y rfl rfl (Y.pickF rfl) ?_
    exact DL.nil ⟨by (show Value.bool _ = Value.bool _; simp only [decide_eq_true c17, decide_eq_false c23]; first | done | rfl), rfl⟩
  ·refine DL.y rfl rfl (Y.move) ?_
   refine DL.skip rfl rfl ?_
   refine DL.skip rfl rfl ?_
   refine DL.skip rfl rfl ?_
   refine DL.skip rfl rfl ?_
   refine DL.skip rfl rfl ?_
   refine DL.y rfl rfl (Y.pickF rfl) ?_
   refine DL.y rfl rfl (Y.move) ?_
   refine DL.skip rfl rfl ?_
   refine DL.skip rfl rfl ?_
   refine DL.y rfl rfl (Y.pickF rfl) ?_
   exact DL.nil ⟨by (show Value.bool _ = Value.bool _; simp only [decide_eq_false c17]; first | done | rfl), rfl⟩
 ·rintro j _ hcut; obtain rfl := hcut.symm
  refine DL.call rfl rfl F.nm87 rfl (want_any b _ _ _ _ _ hb) ?_
  rintro _ w5 f6 hb
  replace FR := FR.put f6 (by intro i hi; simp only [List.mem_cons, List.mem_singleton, List.not_mem_nil, or_false] at hi; rcases hi with rfl; all_goals (first | (left; simp; done) | (right; omega)))
  refine DL.nil ?_
  show DC _ _ _ _ _ _
  refine DC.seq ?_
  refine DC.region ?_
  refine DL.y rfl rfl (Y.move) ?_
  refine DL.y rfl rfl (Y.nil rfl) ?_
  refine DL.y rfl rfl (Y.field F.fd67_2 rfl) ?_
  refine DL.y rfl rfl (Y.loadB F.sc4 rfl hb rfl) ?_
  refine DL.y rfl rfl (Y.not rfl) ?_
  refine DL.y rfl rfl (Y.assign) ?_
  refine DL.nil ?_
  show DC _ _ _ _ _ _
  refine DC.ret ?_
  exact FinQ.ret1 rfl (Ret.mk FR ⟨rfl, hb⟩)


theorem Ret.imp {w : World} {S : List Nat} {p q : Value → World → Prop} (h : ∀ v w', Fr S w w' → p v w' → q v w') {e : Ending} {w' : World} (k : D.Ret w S p e w') : D.Ret w S q e w' := by
 cases e with
 | returned v => exact ⟨k.1, h _ _ k.1 k.2⟩
 | _ => exact k.elim
theorem part_any (b : Nat) (p n d : Int) (bad : Bool) (w : World) (hb : w.heap[b]? = some (.cells (lk p n bad) 67 (0, 0))) (hp : bad = false → 0 ≤ p ∧ p ≤ 400 ∧ 0 ≤ n ∧ n ≤ 2000) :
  Calls Tryz.prog 86 #[.pointer (some ⟨b, 0, none⟩), .int .i64 d] w (Ret w [b] fun v w' => ∃ r p', v = .bool r ∧ w'.heap[b]? = some (.cells (lk p' n (!r)) 67 (0, 0)) ∧
   (r = true → bad = false ∧ p' = p + 1 ∧ p' ≤ 400 ∧ n ≤ 2000 ∧ d ≤ 60)) := by
 refine (part_raw b p n d bad w hb).mono fun e w' h => Ret.imp (fun v w1 hf hv => ?_) h
 obtain ⟨rfl, h2⟩ := hv
 refine ⟨_, _, rfl, by simpa using h2, fun hr => ?_⟩
 cases bad with
 | true => simp at hr
 | false =>
  obtain ⟨h1, h2, h3, h4⟩ := hp rfl
  rw [wrapI (by omega) (by omega)] at hr ⊢
  simp at hr
  exact ⟨rfl, rfl, by omega, by omega, by omega⟩

theorem str_raw (b : Nat) (p n : Int) (bad : Bool) (s : ByteArray) (w : World) (hb : w.heap[b]? = some (.cells (lk p n bad) 67 (0, 0))) (h2 : 2 ≤ b) (hs : s.size ≤ 140737488351232) (hT : Tabs w) :
  Calls Tryz.prog 88 #[.pointer (some ⟨b, 0, none⟩), .string s] w (Ret w [b] fun v w' =>
   w'.heap[b]? = some (.cells (lk p (IntKind.i64.wrap (n + s.size)) (bad || !(decide (IntKind.i64.wrap (n + s.size) ≤ 2000) && Lib.validD s.data.toList))) 67 (0, 0))) := by
 refine calls_of Tryz.func88 rfl rfl rfl rfl ?_
 have FR := Fr.refl [b] w
 refine DC.seq ?_
 refine DC.region ?_
 refine DL.y rfl rfl (Y.move) ?_
 refine DL.y rfl rfl (Y.nil rfl) ?_
 refine DL.y rfl rfl (Y.field F.fd67_1 rfl) ?_
 refine DL.y rfl rfl (Y.loadB F.sc3 rfl hb rfl) ?_
 refine DL.y rfl rfl (Y.move) ?_
 refine DL.y rfl rfl (Y.lenStr Tryz.underlying9 rfl) ?_
 refine DL.y rfl rfl (Y.add rfl rfl) ?_
 refine DL.y rfl rfl (Y.nil rfl) ?_
 refine DL.y rfl rfl (Y.field F.fd67_1 rfl) ?_
 refine DL.store rfl F.co3 F.in3 rfl rfl rfl hb rfl ?_
 intro w1 f2 hs3 hb'
 replace FR := FR.put f2 (by intro i hi; simp only [List.mem_cons, List.mem_singleton, List.not_mem_nil, or_false] at hi; rcases hi with rfl; all_goals (first | (left; simp; done) | (right; omega)))
 replace hT := hT.fr f2 (by intro x hx; simp <;> omega)
 replace hb := hb'
 refine DL.nil ?_
 show DC _ _ _ _ _ _
 refine DC.region ?_
 refine DL.y rfl rfl (Y.move) ?_
 refine DL.y rfl rfl (Y.move) ?_
 refine DL.y rfl rfl (Y.nil rfl) ?_
 refine DL.y rfl rfl (Y.field F.fd67_1 rfl) ?_
 refine DL.y rfl rfl (Y.loadB F.sc3 rfl hb rfl) ?_
 refine DL.if rfl rfl (Y.le rfl rfl) (fun c18 => ?_) (fun c18 => ?_)
 ·refine DL.y rfl rfl (Y.move) ?_
  refine DL.y rfl rfl (Y.move) ?_
  refine DL.call rfl rfl F.nm17 rfl (valid_any s _ (by omega) hT) ?_
  rintro _ w4 f5 rfl
  replace FR := FR.tr0 f5
  replace hT := hT.fr f5 (by intro x hx; simp <;> omega)
  replace hb := f5.blk0 hb
  refine DL.y rfl rfl (Y.pickT rfl) ?_
  refine DL.call rfl rfl F.nm87 rfl (want_any b _ _ _ _ _ hb) ?_
  rintro _ w6 f7 hb
  replace FR := FR.put f7 (by intro i hi; simp only [List.mem_cons, List.mem_singleton, List.not_mem_nil, or_false] at hi; rcases hi with rfl; all_goals (first | (left; simp; done) | (right; omega)))
  replace hT := hT.fr f7 (by intro x hx; simp <;> omega)
  refine DL.nil ?_
  refine FinQ.end0 (Ret.mk FR ?_)
  simp only [decide_eq_true c18]
  exact hb
 ·refine DL.y rfl rfl (Y.move) ?_
  refine DL.skip rfl rfl ?_
  refine DL.skip rfl rfl ?_
  refine DL.y rfl rfl (Y.pickF rfl) ?_
  refine DL.call rfl rfl F.nm87 rfl (want_any b _ _ _ _ _ hb) ?_
  rintro _ w8 f9 hb
  replace FR := FR.put f9 (by intro i hi; simp only [List.mem_cons, List.mem_singleton, List.not_mem_nil, or_false] at hi; rcases hi with rfl; all_goals (first | (left; simp; done) | (right; omega)))
  replace hT := hT.fr f9 (by intro x hx; simp <;> omega)
  refine DL.nil ?_
  refine FinQ.end0 (Ret.mk FR ?_)
  simp only [decide_eq_false c18]
  exact hb


theorem str_any (b : Nat) (p n : Int) (bad : Bool) (s : ByteArray) (w : World) (hb : w.heap[b]? = some (.cells (lk p n bad) 67 (0, 0))) (h2 : 2 ≤ b) (hs : s.size ≤ 140737488351232) (hT : Tabs w) (hn : bad = false → 0 ≤ n ∧ n ≤ 2000) :
  Calls Tryz.prog 88 #[.pointer (some ⟨b, 0, none⟩), .string s] w (Ret w [b] fun v w' => ∃ n' bad', w'.heap[b]? = some (.cells (lk p n' bad') 67 (0, 0)) ∧
   (bad' = false → bad = false ∧ n' = n + s.size ∧ n' ≤ 2000 ∧ Lib.validD s.data.toList = true)) := by
 refine (str_raw b p n bad s w hb h2 hs hT).mono fun e w' h => Ret.imp (fun v w1 hf hv => ?_) h
 refine ⟨_, _, hv, fun hr => ?_⟩
 cases bad with
 | true => simp at hr
 | false =>
  obtain ⟨h1, h2⟩ := hn rfl
  simp only [Bool.false_or, Bool.not_eq_false', Bool.and_eq_true, decide_eq_true_eq] at hr
  obtain ⟨h3, h4⟩ := hr
  have h5 : IntKind.i64.wrap (n + s.size) = n + s.size := wrapI (by omega) (by omega)
  rw [h5] at h3 ⊢
  exact ⟨rfl, rfl, h3, h4⟩

end Go.Proofs.YtmbleojlnaofjaaGreatDoor

