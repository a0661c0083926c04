/- FnQueryText, second form: own texts, joined and made short by a program (part 2): for every argument of bulk at most 1048576 the law answers true. -/
import Derived.Test.YtlojelcoibpphaaGreatDoorMx01
import Derived.Laws.Pointers
import Derived.Lib.AppendStr
import Derived.Laws.FloatArith
import Derived.Laws.Externs
import Derived.Laws.Cover2
import Derived.Lib.Builder
import Derived.Lib.ValidU
import Derived.Shelf.Unicode.DecodeSlow
import Derived.Maps.AppendAt
import Derived.Laws.OwnMore
set_option maxRecDepth 100000
set_option maxHeartbeats 2000000
set_option linter.unusedVariables false
set_option linter.unusedSimpArgs false
set_option linter.unusedSectionVars false
set_option linter.defProp false
namespace Go.Proofs.YtlojelcoibpphaaGreatDoor.F
open Go Go.Proofs.YtlojelcoibpphaaGreatDoor.D
theorem z2:jh Tryz.prog 2=some (.int .i64 0):=by kernel_rfl
theorem SI:iM Tryz.prog 3=true:=by kernel_rfl
theorem RX:(Tryz.prog.underlying 3).isSome=true:=by kernel_rfl
theorem z3:jh Tryz.prog 3=some (.int .i64 0):=by kernel_rfl
theorem LQ:iM Tryz.prog 4=true:=by kernel_rfl
theorem Ov:Tryz.prog.cellsOf 4=1:=by kernel_rfl
theorem Ps:(Tryz.prog.info? 4).isSome=true:=by kernel_rfl
theorem z4:jh Tryz.prog 4=some (.bool false):=by kernel_rfl
theorem Np:(Tryz.prog.underlying 5).isSome=true:=by kernel_rfl
theorem z5:jh Tryz.prog 5=some (.int .u8 0):=by kernel_rfl
theorem oq:iM Tryz.prog 9=true:=by kernel_rfl
theorem SK:Tryz.prog.cellsOf 9=1:=by kernel_rfl
theorem z9:jh Tryz.prog 9=some (.string ⟨#[]⟩):=by kernel_rfl
theorem z12:jh Tryz.prog 12=some (.int .u64 0):=by kernel_rfl
theorem z20:jh Tryz.prog 20=some (.nilIface):=by kernel_rfl
theorem OF:(Tryz.prog.underlying 21).isSome=true:=by kernel_rfl
theorem z21:jh Tryz.prog 21=some (.int .i32 0):=by kernel_rfl
theorem Mv:iM Tryz.prog 22=true:=by kernel_rfl
theorem s7:jT Tryz.prog 23 26 6=true:=by kernel_rfl
theorem yb:iM Tryz.prog 24=true:=by kernel_rfl
theorem lT:lR Tryz.prog 24 9 1 16=true:=by kernel_rfl
theorem ku:jT Tryz.prog 24 9 1=true:=by kernel_rfl
theorem rC:l9 Tryz.prog 26 6=true:=by kernel_rfl
theorem NX:jh Tryz.prog 26=some (.agg #[.int .i64 0,.int .i64 0,.string ⟨#[]⟩,.slice none 0 0,.slice none 0 0,.slice none 0 0]):=by kernel_rfl
theorem zF:iq Tryz.prog 26 0 0=true:=by kernel_rfl
theorem Dk:iq Tryz.prog 26 4 4=true:=by kernel_rfl
theorem mF:iM Tryz.prog 27=true:=by kernel_rfl
theorem ic:lR Tryz.prog 27 31 12 232=true:=by kernel_rfl
theorem iI:jT Tryz.prog 27 31 12=true:=by kernel_rfl
theorem pU:iM Tryz.prog 28=true:=by kernel_rfl
theorem nX:lR Tryz.prog 28 59 4 80=true:=by kernel_rfl
theorem pS:jT Tryz.prog 28 59 4=true:=by kernel_rfl
theorem uk:iM Tryz.prog 29=true:=by kernel_rfl
theorem wh:lR Tryz.prog 29 61 14 272=true:=by kernel_rfl
theorem s9:jT Tryz.prog 29 61 14=true:=by kernel_rfl
theorem hN:l9 Tryz.prog 31 12=true:=by kernel_rfl
theorem z31:jh Tryz.prog 31=some (.agg #[.string ⟨#[]⟩,.string ⟨#[]⟩,.int .i64 0,.int .i64 0,.string ⟨#[]⟩,.slice none 0 0,.slice none 0 0,.slice none 0 0,.slice none 0 0,.slice none 0 0,.slice none 0 0,.slice none 0 0]):=by kernel_rfl
theorem l7:iq Tryz.prog 31 0 0=true:=by kernel_rfl
theorem Kc:iq Tryz.prog 31 1 1=true:=by kernel_rfl
theorem zv:iq Tryz.prog 31 2 2=true:=by kernel_rfl
theorem o9:iq Tryz.prog 31 3 8=true:=by kernel_rfl
theorem sM:iq Tryz.prog 31 5 10=true:=by kernel_rfl
theorem oc:iq Tryz.prog 31 6 11=true:=by kernel_rfl
theorem EF:iq Tryz.prog 42 2 2=true:=by kernel_rfl
theorem sD:l9 Tryz.prog 45 3=true:=by kernel_rfl
theorem Ob:jh Tryz.prog 45=some (.agg #[.slice none 0 0,.slice none 0 0,.slice none 0 0]):=by kernel_rfl
theorem sP:iM Tryz.prog 46=true:=by kernel_rfl
theorem z46:jh Tryz.prog 46=some (.pointer none):=by kernel_rfl
theorem z51:jh Tryz.prog 51=some (.agg #[.string ⟨#[]⟩,.string ⟨#[]⟩]):=by kernel_rfl
theorem ME:l9 Tryz.prog 52 2=true:=by kernel_rfl
theorem uv:jh Tryz.prog 52=some (.agg #[.string ⟨#[]⟩,.string ⟨#[]⟩]):=by kernel_rfl
theorem z53:jh Tryz.prog 53=some (.agg #[.string ⟨#[]⟩,.int .i64 0,.string ⟨#[]⟩,.string ⟨#[]⟩,.bool false]):=by kernel_rfl
theorem uU:l9 Tryz.prog 59 4=true:=by kernel_rfl
theorem z59:jh Tryz.prog 59=some (.agg #[.string ⟨#[]⟩,.string ⟨#[]⟩,.slice none 0 0,.slice none 0 0]):=by kernel_rfl
theorem KZ:iq Tryz.prog 59 1 1=true:=by kernel_rfl
theorem pe:iq Tryz.prog 59 2 2=true:=by kernel_rfl
theorem n0:iq Tryz.prog 59 3 3=true:=by kernel_rfl
theorem NT:jh Tryz.prog 61=some (.agg #[.string ⟨#[]⟩,.slice none 0 0,.string ⟨#[]⟩,.string ⟨#[]⟩,.int .i64 0,.int .i64 0,.string ⟨#[]⟩,.slice none 0 0,.slice none 0 0,.slice none 0 0,.slice none 0 0,.slice none 0 0,.slice none 0 0,.slice none 0 0]):=by kernel_rfl
theorem D4:iq Tryz.prog 61 0 0=true:=by kernel_rfl
theorem vN:iq Tryz.prog 61 1 1=true:=by kernel_rfl
theorem zp:iq Tryz.prog 61 2 2=true:=by kernel_rfl
theorem Jb:lR Tryz.prog 86 5 1 1=true:=by kernel_rfl
theorem PL:jh Tryz.prog 88=some (.agg #[.pointer none,.slice none 0 0]):=by kernel_rfl
theorem E7:lR Tryz.prog 102 108 1 8=true:=by kernel_rfl
theorem wW:jT Tryz.prog 102 108 1=true:=by kernel_rfl
theorem HP:lR Tryz.prog 103 142 1 8=true:=by kernel_rfl
theorem H5:jT Tryz.prog 103 142 1=true:=by kernel_rfl
theorem z105:jh Tryz.prog 105=some (.agg #[.pointer none,.slice none 0 0,.slice none 0 0,.pointer none,.pointer none,.pointer none,.slice none 0 0,.int .i64 0]):=by kernel_rfl
theorem z119:jh Tryz.prog 119=some (.pointer none):=by kernel_rfl
theorem oB:lR Tryz.prog 123 167 1 8=true:=by kernel_rfl
theorem Iu:jT Tryz.prog 123 167 1=true:=by kernel_rfl
theorem KA:jh Tryz.prog 125=some (.agg #[.int .i64 0,.pointer none,.pointer none,.pointer none,.pointer none,.string ⟨#[]⟩,.pointer none,.string ⟨#[]⟩,.pointer none,.pointer none,.pointer none,.pointer none,.pointer none,.pointer none,.string ⟨#[]⟩,.pointer none,.slice none 0 0]):=by kernel_rfl
theorem Eu:iM Tryz.prog 127=true:=by kernel_rfl
theorem z127:jh Tryz.prog 127=some (.slice none 0 0):=by kernel_rfl
theorem pF:lR Tryz.prog 127 46 1 8=true:=by kernel_rfl
theorem lq:jT Tryz.prog 127 46 1=true:=by kernel_rfl
theorem LL:iM Tryz.prog 159=true:=by kernel_rfl
theorem rP:lR Tryz.prog 159 162 1 8=true:=by kernel_rfl
theorem My:jT Tryz.prog 159 162 1=true:=by kernel_rfl
theorem z171:jh Tryz.prog 171=some (.agg #[.pointer none,.bool false,.bool false]):=by kernel_rfl
theorem z173:jh Tryz.prog 173=some (.agg #[.pointer none]):=by kernel_rfl
theorem Iv:lR Tryz.prog 183 186 1 8=true:=by kernel_rfl
theorem LC:jT Tryz.prog 183 186 1=true:=by kernel_rfl
theorem Ni:iM Tryz.prog 195=true:=by kernel_rfl
theorem wX:lR Tryz.prog 195 198 1 8=true:=by kernel_rfl
theorem Il:jT Tryz.prog 195 198 1=true:=by kernel_rfl
theorem wO:iM Tryz.prog 211=true:=by kernel_rfl
theorem z212:jh Tryz.prog 212=some (.agg #[.int .u8 0,.int .u8 0,.int .u8 0,.int .u8 0,.int .u8 0,.int .u8 0,.int .u8 0,.int .u8 0,.int .u8 0,.int .u8 0,.int .u8 0,.int .u8 0,.int .u8 0,.int .u8 0,.int .u8 0,.int .u8 0,.int .u8 0,.int .u8 0,.int .u8 0,.int .u8 0,.int .u8 0,.int .u8 0,.int .u8 0,.int .u8 0,.int .u8 0,.int .u8 0,.int .u8 0,.int .u8 0,.int .u8 0,.int .u8 0,.int .u8 0,.int .u8 0,.int .u8 0,.int .u8 0,.int .u8 0,.int .u8 0,.int .u8 0,.int .u8 0,.int .u8 0,.int .u8 0,.int .u8 0,.int .u8 0,.int .u8 0,.int .u8 0,.int .u8 0,.int .u8 0,.int .u8 0,.int .u8 0,.int .u8 0,.int .u8 0,.int .u8 0,.int .u8 0,.int .u8 0,.int .u8 0,.int .u8 0,.int .u8 0,.int .u8 0,.int .u8 0,.int .u8 0,.int .u8 0,.int .u8 0,.int .u8 0,.int .u8 0,.int .u8 0]):=by kernel_rfl
theorem z213:jh Tryz.prog 213=some (.agg #[.nilIface,.int .u8 0,.int .u8 0,.int .u8 0,.int .u8 0,.int .u8 0,.int .u8 0,.int .u8 0,.int .u8 0,.int .u8 0,.int .u8 0,.int .u8 0,.int .u8 0,.int .u8 0,.int .u8 0,.int .u8 0,.int .u8 0,.int .u8 0,.int .u8 0,.int .u8 0,.int .u8 0,.int .u8 0,.int .u8 0,.int .u8 0,.int .u8 0,.int .u8 0,.int .u8 0,.int .u8 0,.int .u8 0,.int .u8 0,.int .u8 0,.int .u8 0,.int .u8 0,.int .u8 0,.int .u8 0,.int .u8 0,.int .u8 0,.int .u8 0,.int .u8 0,.int .u8 0,.int .u8 0,.int .u8 0,.int .u8 0,.int .u8 0,.int .u8 0,.int .u8 0,.int .u8 0,.int .u8 0,.int .u8 0,.int .u8 0,.int .u8 0,.int .u8 0,.int .u8 0,.int .u8 0,.int .u8 0,.int .u8 0,.int .u8 0,.int .u8 0,.int .u8 0,.int .u8 0,.int .u8 0,.int .u8 0,.int .u8 0,.int .u8 0,.int .u8 0]):=by kernel_rfl
instance Td:hG Tryz.prog 3:=⟨_,Tryz.func3,by kernel_rfl,by kernel_rfl⟩
instance Tf:hG Tryz.prog 4:=⟨_,Tryz.func4,by kernel_rfl,by kernel_rfl⟩
instance Tc:hG Tryz.prog 5:=⟨_,Tryz.func5,by kernel_rfl,by kernel_rfl⟩
instance Tb:hG Tryz.prog 6:=⟨_,Tryz.func6,by kernel_rfl,by kernel_rfl⟩
instance Ta:hG Tryz.prog 7:=⟨_,Tryz.func7,by kernel_rfl,by kernel_rfl⟩
instance Pj:hG Tryz.prog 8:=⟨_,Tryz.func8,by kernel_rfl,by kernel_rfl⟩
instance Tg:hG Tryz.prog 9:=⟨_,Tryz.func9,by kernel_rfl,by kernel_rfl⟩
instance Rh:hG Tryz.prog 10:=⟨_,Tryz.func10,by kernel_rfl,by kernel_rfl⟩
instance S6:hG Tryz.prog 11:=⟨_,Tryz.func11,by kernel_rfl,by kernel_rfl⟩
instance S4:hG Tryz.prog 12:=⟨_,Tryz.func12,by kernel_rfl,by kernel_rfl⟩
instance SE:hG Tryz.prog 13:=⟨_,Tryz.func13,by kernel_rfl,by kernel_rfl⟩
instance Su:hG Tryz.prog 14:=⟨_,Tryz.func14,by kernel_rfl,by kernel_rfl⟩
instance Sm:hG Tryz.prog 15:=⟨_,Tryz.func15,by kernel_rfl,by kernel_rfl⟩
instance RH:hG Tryz.prog 16:=⟨_,Tryz.func16,by kernel_rfl,by kernel_rfl⟩
instance M4:hG Tryz.prog 17:=⟨_,Tryz.func17,by kernel_rfl,by kernel_rfl⟩
instance OG:hG Tryz.prog 18:=⟨_,Tryz.func18,by kernel_rfl,by kernel_rfl⟩
instance R5:hG Tryz.prog 19:=⟨_,Tryz.func19,by kernel_rfl,by kernel_rfl⟩
instance SP:hG Tryz.prog 20:=⟨_,Tryz.func20,by kernel_rfl,by kernel_rfl⟩
instance Sj:hG Tryz.prog 21:=⟨_,Tryz.func21,by kernel_rfl,by kernel_rfl⟩
instance Sr:hG Tryz.prog 22:=⟨_,Tryz.func22,by kernel_rfl,by kernel_rfl⟩
instance RC:hG Tryz.prog 23:=⟨_,Tryz.func23,by kernel_rfl,by kernel_rfl⟩
instance Ri:hG Tryz.prog 24:=⟨_,Tryz.func24,by kernel_rfl,by kernel_rfl⟩
instance R0:hG Tryz.prog 25:=⟨_,Tryz.func25,by kernel_rfl,by kernel_rfl⟩
instance Rv:hG Tryz.prog 26:=⟨_,Tryz.func26,by kernel_rfl,by kernel_rfl⟩
instance Sq:hG Tryz.prog 27:=⟨_,Tryz.func27,by kernel_rfl,by kernel_rfl⟩
instance S9:hG Tryz.prog 28:=⟨_,Tryz.func28,by kernel_rfl,by kernel_rfl⟩
instance Si:hG Tryz.prog 29:=⟨_,Tryz.func29,by kernel_rfl,by kernel_rfl⟩
instance R4:hG Tryz.prog 30:=⟨_,Tryz.func30,by kernel_rfl,by kernel_rfl⟩
instance Rq:hG Tryz.prog 31:=⟨_,Tryz.func31,by kernel_rfl,by kernel_rfl⟩
instance Sf:hG Tryz.prog 32:=⟨_,Tryz.func32,by kernel_rfl,by kernel_rfl⟩
instance SV:hG Tryz.prog 33:=⟨_,Tryz.func33,by kernel_rfl,by kernel_rfl⟩
instance Rz:hG Tryz.prog 34:=⟨_,Tryz.func34,by kernel_rfl,by kernel_rfl⟩
instance Sb:hG Tryz.prog 35:=⟨_,Tryz.func35,by kernel_rfl,by kernel_rfl⟩
instance SM:hG Tryz.prog 36:=⟨_,Tryz.func36,by kernel_rfl,by kernel_rfl⟩
instance RK:hG Tryz.prog 37:=⟨_,Tryz.func37,by kernel_rfl,by kernel_rfl⟩
instance Rp:hG Tryz.prog 38:=⟨_,Tryz.func38,by kernel_rfl,by kernel_rfl⟩
instance RG:hG Tryz.prog 39:=⟨_,Tryz.func39,by kernel_rfl,by kernel_rfl⟩
instance SA:hG Tryz.prog 40:=⟨_,Tryz.func40,by kernel_rfl,by kernel_rfl⟩
instance Rc:hG Tryz.prog 41:=⟨_,Tryz.func41,by kernel_rfl,by kernel_rfl⟩
instance Sv:hG Tryz.prog 42:=⟨_,Tryz.func42,by kernel_rfl,by kernel_rfl⟩
instance Rt:hG Tryz.prog 43:=⟨_,Tryz.func43,by kernel_rfl,by kernel_rfl⟩
instance SQ:hG Tryz.prog 44:=⟨_,Tryz.func44,by kernel_rfl,by kernel_rfl⟩
instance SJ:hG Tryz.prog 45:=⟨_,Tryz.func45,by kernel_rfl,by kernel_rfl⟩
instance SB:hG Tryz.prog 46:=⟨_,Tryz.func46,by kernel_rfl,by kernel_rfl⟩
instance R9:hG Tryz.prog 47:=⟨_,Tryz.func47,by kernel_rfl,by kernel_rfl⟩
instance R7:hG Tryz.prog 48:=⟨_,Tryz.func48,by kernel_rfl,by kernel_rfl⟩
instance R8:hG Tryz.prog 49:=⟨_,Tryz.func49,by kernel_rfl,by kernel_rfl⟩
instance OB:hG Tryz.prog 50:=⟨_,Tryz.func50,by kernel_rfl,by kernel_rfl⟩
instance S1:hG Tryz.prog 51:=⟨_,Tryz.func51,by kernel_rfl,by kernel_rfl⟩
instance RD:hG Tryz.prog 52:=⟨_,Tryz.func52,by kernel_rfl,by kernel_rfl⟩
instance Rn:hG Tryz.prog 53:=⟨_,Tryz.func53,by kernel_rfl,by kernel_rfl⟩
instance Sk:hG Tryz.prog 54:=⟨_,Tryz.func54,by kernel_rfl,by kernel_rfl⟩
instance SL:hG Tryz.prog 55:=⟨_,Tryz.func55,by kernel_rfl,by kernel_rfl⟩
instance Rl:hG Tryz.prog 56:=⟨_,Tryz.func56,by kernel_rfl,by kernel_rfl⟩
instance SF:hG Tryz.prog 57:=⟨_,Tryz.func57,by kernel_rfl,by kernel_rfl⟩
instance R3:hG Tryz.prog 58:=⟨_,Tryz.func58,by kernel_rfl,by kernel_rfl⟩
instance RP:hG Tryz.prog 59:=⟨_,Tryz.func59,by kernel_rfl,by kernel_rfl⟩
instance Se:hG Tryz.prog 60:=⟨_,Tryz.func60,by kernel_rfl,by kernel_rfl⟩
instance RU:hG Tryz.prog 61:=⟨_,Tryz.func61,by kernel_rfl,by kernel_rfl⟩
instance RT:hG Tryz.prog 62:=⟨_,Tryz.func62,by kernel_rfl,by kernel_rfl⟩
instance Sd:hG Tryz.prog 63:=⟨_,Tryz.func63,by kernel_rfl,by kernel_rfl⟩
instance Sw:hG Tryz.prog 64:=⟨_,Tryz.func64,by kernel_rfl,by kernel_rfl⟩
instance RR:hG Tryz.prog 65:=⟨_,Tryz.func65,by kernel_rfl,by kernel_rfl⟩
instance SH:hG Tryz.prog 66:=⟨_,Tryz.func66,by kernel_rfl,by kernel_rfl⟩
instance Ss:hG Tryz.prog 67:=⟨_,Tryz.func67,by kernel_rfl,by kernel_rfl⟩
instance SX:hG Tryz.prog 68:=⟨_,Tryz.func68,by kernel_rfl,by kernel_rfl⟩
instance S8:hG Tryz.prog 69:=⟨_,Tryz.func69,by kernel_rfl,by kernel_rfl⟩
instance SN:hG Tryz.prog 70:=⟨_,Tryz.func70,by kernel_rfl,by kernel_rfl⟩
instance Rk:hG Tryz.prog 71:=⟨_,Tryz.func71,by kernel_rfl,by kernel_rfl⟩
instance SG:hG Tryz.prog 72:=⟨_,Tryz.func72,by kernel_rfl,by kernel_rfl⟩
instance Rx:hG Tryz.prog 73:=⟨_,Tryz.func73,by kernel_rfl,by kernel_rfl⟩
instance Sg:hG Tryz.prog 74:=⟨_,Tryz.func74,by kernel_rfl,by kernel_rfl⟩
instance SU:hG Tryz.prog 75:=⟨_,Tryz.func75,by kernel_rfl,by kernel_rfl⟩
instance RA:hG Tryz.prog 76:=⟨_,Tryz.func76,by kernel_rfl,by kernel_rfl⟩
instance Rf:hG Tryz.prog 77:=⟨_,Tryz.func77,by kernel_rfl,by kernel_rfl⟩
instance RJ:hG Tryz.prog 78:=⟨_,Tryz.func78,by kernel_rfl,by kernel_rfl⟩
instance SO:hG Tryz.prog 79:=⟨_,Tryz.func79,by kernel_rfl,by kernel_rfl⟩
instance Rj:hG Tryz.prog 80:=⟨_,Tryz.func80,by kernel_rfl,by kernel_rfl⟩
instance Rg:hG Tryz.prog 81:=⟨_,Tryz.func81,by kernel_rfl,by kernel_rfl⟩
instance Re:hG Tryz.prog 82:=⟨_,Tryz.func82,by kernel_rfl,by kernel_rfl⟩
instance S7:hG Tryz.prog 83:=⟨_,Tryz.func83,by kernel_rfl,by kernel_rfl⟩
instance SS:hG Tryz.prog 84:=⟨_,Tryz.func84,by kernel_rfl,by kernel_rfl⟩
instance SD:hG Tryz.prog 85:=⟨_,Tryz.func85,by kernel_rfl,by kernel_rfl⟩
instance OU:hG Tryz.prog 86:=⟨_,Tryz.func86,by kernel_rfl,by kernel_rfl⟩
instance SW:hG Tryz.prog 87:=⟨_,Tryz.func87,by kernel_rfl,by kernel_rfl⟩
instance Rm:hG Tryz.prog 88:=⟨_,Tryz.func88,by kernel_rfl,by kernel_rfl⟩
instance Sh:hG Tryz.prog 89:=⟨_,Tryz.func89,by kernel_rfl,by kernel_rfl⟩
instance Ro:hG Tryz.prog 90:=⟨_,Tryz.func90,by kernel_rfl,by kernel_rfl⟩
instance RL:hG Tryz.prog 91:=⟨_,Tryz.func91,by kernel_rfl,by kernel_rfl⟩
instance RF:hG Tryz.prog 92:=⟨_,Tryz.func92,by kernel_rfl,by kernel_rfl⟩
instance Sl:hG Tryz.prog 93:=⟨_,Tryz.func93,by kernel_rfl,by kernel_rfl⟩
instance S5:hG Tryz.prog 94:=⟨_,Tryz.func94,by kernel_rfl,by kernel_rfl⟩
instance Sn:hG Tryz.prog 95:=⟨_,Tryz.func95,by kernel_rfl,by kernel_rfl⟩
instance Ru:hG Tryz.prog 96:=⟨_,Tryz.func96,by kernel_rfl,by kernel_rfl⟩
instance SZ:hG Tryz.prog 97:=⟨_,Tryz.func97,by kernel_rfl,by kernel_rfl⟩
instance Ry:hG Tryz.prog 98:=⟨_,Tryz.func98,by kernel_rfl,by kernel_rfl⟩
instance SR:hG Tryz.prog 99:=⟨_,Tryz.func99,by kernel_rfl,by kernel_rfl⟩
instance QA:hG Tryz.prog 100:=⟨_,Tryz.func100,by kernel_rfl,by kernel_rfl⟩
instance QN:hG Tryz.prog 101:=⟨_,Tryz.func101,by kernel_rfl,by kernel_rfl⟩
instance Qr:hG Tryz.prog 102:=⟨_,Tryz.func102,by kernel_rfl,by kernel_rfl⟩
instance Qm:hG Tryz.prog 103:=⟨_,Tryz.func103,by kernel_rfl,by kernel_rfl⟩
instance QW:hG Tryz.prog 104:=⟨_,Tryz.func104,by kernel_rfl,by kernel_rfl⟩
instance P8:hG Tryz.prog 105:=⟨_,Tryz.func105,by kernel_rfl,by kernel_rfl⟩
instance QB:hG Tryz.prog 106:=⟨_,Tryz.func106,by kernel_rfl,by kernel_rfl⟩
instance Q6:hG Tryz.prog 107:=⟨_,Tryz.func107,by kernel_rfl,by kernel_rfl⟩
instance Qi:hG Tryz.prog 108:=⟨_,Tryz.func108,by kernel_rfl,by kernel_rfl⟩
instance QC:hG Tryz.prog 109:=⟨_,Tryz.func109,by kernel_rfl,by kernel_rfl⟩
instance QO:hG Tryz.prog 110:=⟨_,Tryz.func110,by kernel_rfl,by kernel_rfl⟩
instance QJ:hG Tryz.prog 111:=⟨_,Tryz.func111,by kernel_rfl,by kernel_rfl⟩
instance QY:hG Tryz.prog 112:=⟨_,Tryz.func112,by kernel_rfl,by kernel_rfl⟩
instance PX:hG Tryz.prog 113:=⟨_,Tryz.func113,by kernel_rfl,by kernel_rfl⟩
instance PO:hG Tryz.prog 114:=⟨_,Tryz.func114,by kernel_rfl,by kernel_rfl⟩
instance QD:hG Tryz.prog 115:=⟨_,Tryz.func115,by kernel_rfl,by kernel_rfl⟩
instance Qn:hG Tryz.prog 116:=⟨_,Tryz.func116,by kernel_rfl,by kernel_rfl⟩
instance Q0:hG Tryz.prog 117:=⟨_,Tryz.func117,by kernel_rfl,by kernel_rfl⟩
instance QU:hG Tryz.prog 118:=⟨_,Tryz.func118,by kernel_rfl,by kernel_rfl⟩
instance Qu:hG Tryz.prog 119:=⟨_,Tryz.func119,by kernel_rfl,by kernel_rfl⟩
instance Ra:hG Tryz.prog 120:=⟨_,Tryz.func120,by kernel_rfl,by kernel_rfl⟩
instance Qd:hG Tryz.prog 121:=⟨_,Tryz.func121,by kernel_rfl,by kernel_rfl⟩
instance QR:hG Tryz.prog 123:=⟨_,Tryz.func123,by kernel_rfl,by kernel_rfl⟩
instance Qf:hG Tryz.prog 124:=⟨_,Tryz.func124,by kernel_rfl,by kernel_rfl⟩
instance P7:hG Tryz.prog 125:=⟨_,Tryz.func125,by kernel_rfl,by kernel_rfl⟩
instance QF:hG Tryz.prog 126:=⟨_,Tryz.func126,by kernel_rfl,by kernel_rfl⟩
instance QP:hG Tryz.prog 127:=⟨_,Tryz.func127,by kernel_rfl,by kernel_rfl⟩
instance QT:hG Tryz.prog 128:=⟨_,Tryz.func128,by kernel_rfl,by kernel_rfl⟩
instance QX:hG Tryz.prog 129:=⟨_,Tryz.func129,by kernel_rfl,by kernel_rfl⟩
instance P5:hG Tryz.prog 130:=⟨_,Tryz.func130,by kernel_rfl,by kernel_rfl⟩
instance Q5:hG Tryz.prog 131:=⟨_,Tryz.func131,by kernel_rfl,by kernel_rfl⟩
instance Qh:hG Tryz.prog 132:=⟨_,Tryz.func132,by kernel_rfl,by kernel_rfl⟩
instance Qo:hG Tryz.prog 133:=⟨_,Tryz.func133,by kernel_rfl,by kernel_rfl⟩
instance PH:hG Tryz.prog 134:=⟨_,Tryz.func134,by kernel_rfl,by kernel_rfl⟩
instance Qw:hG Tryz.prog 135:=⟨_,Tryz.func135,by kernel_rfl,by kernel_rfl⟩
instance PW:hG Tryz.prog 136:=⟨_,Tryz.func136,by kernel_rfl,by kernel_rfl⟩
instance PD:hG Tryz.prog 137:=⟨_,Tryz.func137,by kernel_rfl,by kernel_rfl⟩
instance PG:hG Tryz.prog 138:=⟨_,Tryz.func138,by kernel_rfl,by kernel_rfl⟩
instance Qb:hG Tryz.prog 139:=⟨_,Tryz.func139,by kernel_rfl,by kernel_rfl⟩
instance Qa:hG Tryz.prog 140:=⟨_,Tryz.func140,by kernel_rfl,by kernel_rfl⟩
instance QV:hG Tryz.prog 141:=⟨_,Tryz.func141,by kernel_rfl,by kernel_rfl⟩
instance Q2:hG Tryz.prog 142:=⟨_,Tryz.func142,by kernel_rfl,by kernel_rfl⟩
instance Qp:hG Tryz.prog 143:=⟨_,Tryz.func143,by kernel_rfl,by kernel_rfl⟩
instance Q7:hG Tryz.prog 144:=⟨_,Tryz.func144,by kernel_rfl,by kernel_rfl⟩
instance PY:hG Tryz.prog 145:=⟨_,Tryz.func145,by kernel_rfl,by kernel_rfl⟩
instance QI:hG Tryz.prog 146:=⟨_,Tryz.func146,by kernel_rfl,by kernel_rfl⟩
instance Q8:hG Tryz.prog 147:=⟨_,Tryz.func147,by kernel_rfl,by kernel_rfl⟩
instance PU:hG Tryz.prog 148:=⟨_,Tryz.func148,by kernel_rfl,by kernel_rfl⟩
instance P9:hG Tryz.prog 149:=⟨_,Tryz.func149,by kernel_rfl,by kernel_rfl⟩
instance QG:hG Tryz.prog 150:=⟨_,Tryz.func150,by kernel_rfl,by kernel_rfl⟩
instance QZ:hG Tryz.prog 151:=⟨_,Tryz.func151,by kernel_rfl,by kernel_rfl⟩
instance Qe:hG Tryz.prog 152:=⟨_,Tryz.func152,by kernel_rfl,by kernel_rfl⟩
instance PI:hG Tryz.prog 153:=⟨_,Tryz.func153,by kernel_rfl,by kernel_rfl⟩
instance Q9:hG Tryz.prog 154:=⟨_,Tryz.func154,by kernel_rfl,by kernel_rfl⟩
instance P0:hG Tryz.prog 155:=⟨_,Tryz.func155,by kernel_rfl,by kernel_rfl⟩
instance P3:hG Tryz.prog 156:=⟨_,Tryz.func156,by kernel_rfl,by kernel_rfl⟩
instance Qx:hG Tryz.prog 157:=⟨_,Tryz.func157,by kernel_rfl,by kernel_rfl⟩
instance P6:hG Tryz.prog 158:=⟨_,Tryz.func158,by kernel_rfl,by kernel_rfl⟩
instance Q3:hG Tryz.prog 159:=⟨_,Tryz.func159,by kernel_rfl,by kernel_rfl⟩
instance PV:hG Tryz.prog 160:=⟨_,Tryz.func160,by kernel_rfl,by kernel_rfl⟩
instance P4:hG Tryz.prog 161:=⟨_,Tryz.func161,by kernel_rfl,by kernel_rfl⟩
instance PR:hG Tryz.prog 162:=⟨_,Tryz.func162,by kernel_rfl,by kernel_rfl⟩
instance Qt:hG Tryz.prog 163:=⟨_,Tryz.func163,by kernel_rfl,by kernel_rfl⟩
instance QK:hG Tryz.prog 164:=⟨_,Tryz.func164,by kernel_rfl,by kernel_rfl⟩
instance Q4:hG Tryz.prog 216:=⟨_,Tryz.func216,by kernel_rfl,by kernel_rfl⟩
theorem mixed:Tryz.prog.follows .mixedOrders=true:=by kernel_rfl
end Go.Proofs.YtlojelcoibpphaaGreatDoor.F
namespace Go.Proofs.YtlojelcoibpphaaGreatDoor.D
open Go Go.RowKit
def GR:List (Nat×Value)→Nat→(Value→Prop)→Prop
 |[],_,k=>k undef
 |p::r,t,k=>cond (Nat.beq t p.1) (k p.2) (GR r t k)
theorem xB:∀(e:List (Nat×Value))(b:Nat)(c:Value→Prop),GR e b c=c (get e b)
 |[],_,_=>rfl
 |d::f,b,c=>by unfold GR get;cases Nat.beq b d.1;exact xB f b c;rfl
def vb(e:Env)(x:Operand)(k:Value→Prop):Prop:=
 match x with
 | .tmp t=>GR e t k
 | .const v=>k v
 | .global g=>k (.pointer (some ⟨g,0,none⟩))
 | .func f=>k (.func (.func f) #[] #[])
theorem lU(e:Env)(x:Operand)(b:Value→Prop):vb e x b=b (ev e x):=by
 cases x with
 |tmp c=>exact xB e c b
 |_=>rfl
def KJ:List (Nat×List Nat):=[(7,[0,1,2,3]),(8,[0,1,2,3]),(13,[0,1]),(14,[0,1]),(18,[0]),(19,[0]),(25,[0,1,2,3,4,5]),(26,[0,1,2,3,4,5]),(30,[0,1,2,8,9,10,11]),(31,[0,1,2,8,9,10,11]),(41,[0,1,2]),(42,[0,1,2]),(44,[0,1,2]),(45,[0,1,2]),(51,[0,1]),(52,[0,1]),(53,[0,1,2,4]),(54,[0,1,2,4]),(58,[0,1,2,3]),(59,[0,1,2,3]),(60,[0,1,2]),(61,[0,1,2]),(87,[0,1]),(88,[0,1]),(104,[0,1,2,3,4,5,6,7]),(105,[0,1,2,3,4,5,6,7]),(109,[0,1,2]),(110,[0,1,2]),(124,[0,1,2,3,4,5,6,7,8,9,10,11,12,13,14,15,16]),(125,[0,1,2,3,4,5,6,7,8,9,10,11,12,13,14,15,16]),(128,[0,1]),(129,[0,1]),(132,[0,1]),(133,[0,1]),(134,[0,1]),(135,[0,1]),(151,[0,1]),(152,[0,1]),(160,[0]),(161,[0]),(163,[0,1,2,3]),(164,[0,1,2,3]),(165,[0,1]),(166,[0,1]),(170,[0,1,2]),(171,[0,1,2]),(172,[0]),(173,[0]),(174,[0,1]),(175,[0,1]),(177,[0]),(178,[0]),(180,[0,1,2,3]),(181,[0,1,2,3]),(184,[0,1,2]),(185,[0,1,2]),(191,[0,1,2,3,4]),(192,[0,1,2,3,4]),(196,[0,1,2,3]),(197,[0,1,2,3]),(199,[0,1]),(200,[0,1]),(201,[0,1,2,3]),(202,[0,1,2,3]),(203,[0,1,2,3,4]),(204,[0,1,2,3,4]),(208,[0,1,2]),(209,[0,1,2]),(213,[0,1]),(214,[0,1]),(216,[0,1,2,3]),(217,[0,1,2,3]),(220,[0,1,2,3,4,5,6]),(221,[0,1,2,3,4,5,6]),(226,[0]),(227,[0]),(243,[0,1,2,3]),(244,[0,1,2,3]),(253,[0,1,2,3,4,5,6,7,8,9,10]),(254,[0,1,2,3,4,5,6,7,8,9,10])]
def OL:List (Nat×Nat):=[(23,24),(27,29),(86,86),(101,103),(123,123),(127,127),(159,159),(176,176),(183,183),(195,195),(225,225)]
def OH:List (Nat×Nat):=[(9,11)]
def Pd:List (Nat×Nat):=[(15,17),(40,40),(46,46),(50,50),(81,81),(85,85),(100,100),(108,108),(112,122),(140,140),(142,143),(162,162),(167,167),(179,179),(186,186),(198,198),(207,207),(210,210),(219,219)]
def Of:List (Nat×Nat):=[(2,19),(21,31),(40,42),(44,46),(50,54),(58,61),(77,77),(81,81),(85,88),(100,105),(108,125),(127,129),(132,135),(140,140),(142,143),(150,154),(159,167),(170,181),(183,186),(188,188),(191,192),(195,204),(207,210),(212,214),(216,217),(219,221),(225,227),(230,230),(236,238),(242,249),(251,254),(257,257)]
def rowOf:List (Nat×List Nat)→Nat→List Nat
 |[],_=>[]
 |p::r,s=>cond (Nat.beq s p.1) p.2 (rowOf r s)
def we:List Nat→Nat→Nat
 |[],_=>9999
 |x::_,0=>x
 |_::r,f+1=>we r f
noncomputable def r7(s:Nat):Nat→List Nat→Bool
 |_,[]=>true
 |f,x::r=>cond (cond (Nat.beq x 9999) true (iq Tryz.prog s f x)) (r7 s (f+1) r) false
theorem qK{s:Nat}:∀(d:List Nat)(b c:Nat),r7 s b d=true→we d c≠9999→iq Tryz.prog s (b+c) (we d c)=true
 |[],_,_,_,h=>Tu rfl h
 |x::f,b,0,h,hj=>by
  unfold r7 at h
  cases hb:Nat.beq x 9999 with
  |true=>exact Tu (Ub hb) hj
  |false=>
   rw[hb]at h
   cases hf:iq Tryz.prog s b x with
   |true=>exact hf
   |false=>rw[hf]at h;cases h
 |x::f,b,c+1,h,hj=>by
  unfold r7 at h
  have h2:r7 s (b+1) f=true:=by
   revert h;cases (cond (Nat.beq x 9999) true (iq Tryz.prog s b x))<;>intro h
   ·cases h
   ·exact h
  have:=qK f (b+1) c h2 hj
  rwa[show b+1+c=b+(c+1) by omega]at this
noncomputable def wL:List (Nat×List Nat)→Bool
 |[]=>true
 |p::r=>r7 p.1 0 p.2&&wL r
theorem qd:∀(c:List (Nat×List Nat))(s b:Nat),wL c=true→we (rowOf c s) b≠9999→iq Tryz.prog s b (we (rowOf c s) b)=true
 |[],_,_,_,h=>Tu rfl h
 |d::f,s,b,h,hj=>by
  unfold wL at h;rw[Tx]at h
  unfold rowOf at hj⊢
  cases hb:Nat.beq s d.1 with
  |false=>rw[hb]at hj;exact qd f s b h.2 hj
  |true=>
   rw[hb]at hj
   have:=qK d.2 0 b h.1 hj
   rw[T9,←Ub hb]at this
   exact this
theorem Fx:wL KJ=true:=by kernel_rfl
noncomputable def Ms(t:Nat):Bool:=match Tryz.prog.underlying t with|some (.slice _)=>true|_=>false
noncomputable def LB(t:Nat):Bool:=match Tryz.prog.underlying t with|some .string=>true|_=>false
noncomputable def I3(t:Nat):Bool:=match Tryz.prog.underlying t with|some (.pointer _)=>true|_=>false
noncomputable def vt(f:Nat→Bool):List (Nat×Nat)→Bool
 |[]=>true
 |p::r=>(List.range' p.1 (p.2+1 - p.1)).all f&&vt f r
theorem lv{c:Nat→Bool}:∀(d:List (Nat×Nat))(b:Nat),vt c d=true→pE d b=true→c b=true
 |[],_,_,h=>by cases h
 |f::j,b,h,ht=>by
  unfold vt at h;rw[Tx]at h
  unfold pE at ht
  cases h1:Nat.ble f.1 b with
  |false=>rw[h1]at ht;exact lv j b h.2 ht
  |true=>
   cases h2:Nat.ble b f.2 with
   |false=>rw[h1,h2]at ht;exact lv j b h.2 ht
   |true=>
    have k:=TM h1;have l:=TM h2
    exact Uk.1 h.1 b (by rw[List.mem_range'_1];omega)
theorem JG:vt Ms OL=true:=by kernel_rfl
theorem JS:vt LB OH=true:=by kernel_rfl
theorem IV:vt I3 Pd=true:=by kernel_rfl
theorem IY:vt (nI Tryz.prog) Of=true:=by kernel_rfl
def rT:IntKind→Nat
 | .i8=>0| .i16=>1| .i32=>2| .i64=>3| .u8=>4| .u16=>5| .u32=>6| .u64=>7
def Km:List Value→Nat→(Value→Prop)→Prop
 |[],_,_=>False
 |v::_,0,k=>k v
 |_::r,i+1,k=>Km r i k
theorem r6:∀{l:List Value}{i:Nat}{c:Value→Prop},Km l i c→∃b,l[i]? =some b∧c b
 |[],_,_,h=>h.elim
 |b::_,0,_,h=>⟨b,rfl,h⟩
 |_::d,i+1,c,h=>by obtain⟨b,h1,h2⟩:=r6 (l:=d) (i:=i) h;exact⟨b,by simpa using h1,h2⟩
def JZ(op:BinOp)(t:Nat)(nil:Bool)(a b:Value)(k:Value→Prop):Prop:=
 match a,b with
 | .int i x,.int j y=>cond (Nat.beq (rT i) (rT j)) (match op with
  | .eql=>k (.bool (decide (x=y)))
  | .neq=>k (.bool (decide (¬x=y)))
  | .lss=>k (.bool (decide (x<y)))
  | .leq=>k (.bool (decide (x≤y)))
  | .gtr=>k (.bool (decide (y<x)))
  | .geq=>k (.bool (decide (y≤x)))
  |_=>False) False
 | .string x,.string y=>(match op with
  | .eql=>k (.bool (decide (x=y)))
  | .neq=>k (.bool (!decide (x=y)))
  |_=>False)
 | .pointer p,_=>cond nil (cond (pE Pd t) (match op with
  | .eql=>k (.bool p.isNone)
  | .neq=>k (.bool (!p.isNone))
  |_=>False) False) False
 |_,_=>False
def isNil:Operand→Bool
 | .const (.pointer none)=>true
 |_=>false
def oU(e:Env)(k:Value→Prop):Op→Prop
 | .move x=>vb e x k
 | .assign x=>vb e x k
 | .pick c a b=>vb e c fun v=>match v with| .bool p=>cond p (vb e a k) (vb e b k)|_=>False
 | .nilCheck x=>vb e x fun v=>match v with| .pointer (some a)=>k (.pointer (some a))| .iface t v=>k (.iface t v)|_=>False
 | .extract x i=>vb e x fun v=>match v with| .tuple vs=>Km vs.toList i k|_=>False
 | .fieldAddr s x f=>vb e x fun v=>match v with
  | .pointer (some ⟨b,o,none⟩)=>(fun off=>cond (Nat.beq off 9999) False (k (.pointer (some ⟨b,o+off,none⟩)))) (we (rowOf KJ s) f)
  |_=>False
 | .unOp .not _ x=>vb e x fun v=>match v with| .bool b=>k (.bool (!b))|_=>False
 | .binOp op t x y _=>vb e x fun a=>vb e y fun b=>JZ op t (isNil y) a b k
 | .makeInterface t x=>cond (pE Of t) (vb e x fun v=>k (.iface t v)) False
 | .call c=>match c.callee,c.args.toList,c.argTypes.toList with
  | .builtin .len,[x],[t]=>vb e x fun v=>(match v with
   | .slice _ n _=>cond (pE OL t) (k (.int .i64 n)) False
   | .string s=>cond (pE OH t) (k (.int .i64 s.size)) False
   |_=>False)
  |_,_,_=>False
 |_=>False
section
variable{n:Nat}{e:Env}{w:World}{dst:Option Tmp}{ty:TypeId}{pos:String}{af:Array Edge}{g:Option (Nat×Bool)}
theorem yf{a b:IntKind}(h:Nat.beq (rT a) (rT b)):a=b:=by
 cases a<;>cases b<;>first|rfl|cases h
theorem Y.L3{x:Operand}{t u:TypeId}{b:Option Addr}(ht:I3 t)(hx:ev e x=.pointer b):Y Tryz.prog e ⟨dst,.binOp .eql t x (.const Zp) u,ty,pos,af,g⟩ w (.bool b.isNone)∧Y Tryz.prog e ⟨dst,.binOp .neq t x (.const Zp) u,ty,pos,af,g⟩ w (.bool (!b.isNone)):=by
 have ht:Tryz.prog.underlying t=some (.pointer (Tryz.prog.pointee t)):=by
  unfold I3 at ht
  split at ht
  ·rename_i f d;simp[Program.pointee,d]
  cases ht
 constructor
 ·unfold Y
  have h:=run_eql_pointer_nil (P:=Tryz.prog) w t b ht
  have c:eqGuard .eql t x (.const Zp) (.pointer b) Zp=pure ():=by cases b<;>rfl
  have hc:ev e (.const Zp)=Zp:=rfl
  simp only[execOp,hx,hc,c,Sem.run_bind,Sem.run_pure,Result.andThen_ok,h]
 unfold Y
 have h:=run_neq_pointer_nil (P:=Tryz.prog) w t b ht
 have c:eqGuard .neq t x (.const Zp) (.pointer b) Zp=pure ():=by cases b<;>rfl
 have hc:ev e (.const Zp)=Zp:=rfl
 simp only[execOp,hx,hc,c,Sem.run_bind,Sem.run_pure,Result.andThen_ok,h]
theorem yX{c:BinOp}{f o:Nat}{x d:Operand}{j:Value→Prop}(h:JZ c f (isNil d) (ev e x) (ev e d) j):∃k,j k∧∀w:World,Y Tryz.prog e ⟨dst,.binOp c f x d o,ty,pos,af,g⟩ w k:=by
 unfold JZ at h
 split at h
 ·rename_i i a p l hx b
  cases hk:Nat.beq (rT i) (rT p)with
  |false=>rw[hk]at h;exact h.elim
  |true=>
   rw[hk]at h
   obtain rfl:=yf hk
   cases c<;>first|exact h.elim|exact⟨_,h,fun _=>Y.eq hx b⟩|exact⟨_,h,fun _=>Y.ne hx b⟩|exact⟨_,h,fun _=>Y.lt hx b⟩|exact⟨_,h,fun _=>Y.le hx b⟩|exact⟨_,h,fun _=>Y.gt hx b⟩|exact⟨_,h,fun _=>Y.ge hx b⟩
 ·rename_i a l hx b
  cases c<;>first|exact h.elim|exact⟨_,h,fun _=>Y.seq hx b⟩|exact⟨_,h,fun _=>Y.vK hx b⟩
 ·rename_i q l hx
  cases hn:isNil d with
  |false=>rw[hn]at h;exact h.elim
  |true=>
   rw[hn]at h
   cases ht:pE Pd f with
   |false=>rw[ht]at h;exact h.elim
   |true=>
    rw[ht]at h
    have m:=lv _ _ IV ht
    have b:d=.const Zp:=by
     unfold isNil at hn;split at hn
     ·rfl
     cases hn
    subst b
    cases c<;>first|exact h.elim|exact⟨_,h,fun _=>(Y.L3 m hx).1⟩|exact⟨_,h,fun _=>(Y.L3 m hx).2⟩
 exact h.elim
theorem pf{k:Value→Prop}(d:Op)(h:oU e k d):∃c,k c∧∀w:World,Y Tryz.prog e ⟨dst,d,ty,pos,af,g⟩ w c:=by
 cases d with
 |move x=>simp only[oU,lU]at h;exact⟨_,h,fun _=>Y.move⟩
 |assign x=>simp only[oU,lU]at h;exact⟨_,h,fun _=>Y.assign⟩
 |pick f a l=>
  simp only[oU,lU]at h
  split at h
  ·rename_i o hc
   cases o with
   |true=>exact⟨_,h,fun _=>Y.w6 hc⟩
   |false=>exact⟨_,h,fun _=>Y.r9 hc⟩
  exact h.elim
 |nilCheck x=>
  simp only[oU,lU]at h
  split at h
  ·rename_i a hx;exact⟨_,h,fun _=>Y.nil hx⟩
  ·rename_i b c hx;exact⟨_,h,fun _=>by unfold Y;simp[execOp,hx]⟩
  exact h.elim
 |extract x i=>
  simp only[oU,lU]at h
  split at h
  ·rename_i r hx
   obtain⟨c,h1,h2⟩:=r6 h
   exact⟨c,h2,fun _=>Y.extract hx AW⟩
  exact h.elim
 |fieldAddr s x p=>
  simp only[oU,lU]at h
  split at h
  ·rename_i l m hx
   cases hb:Nat.beq (we (rowOf KJ s) p) 9999 with
   |true=>rw[hb]at h;exact h.elim
   |false=>
    rw[hb]at h
    exact⟨_,h,fun _=>Y.field (qd _ _ _ Fx (fun q=>by rw[q]at hb;cases hb)) hx⟩
  exact h.elim
 |unOp m b x=>
  cases m with
  |not=>
   simp only[oU,lU]at h
   split at h
   ·rename_i l hx;exact⟨_,h,fun _=>Y.not hx⟩
   exact h.elim
  |_=>exact h.elim
 |binOp d b x t u=>simp only[oU,lU]at h;exact yX h
 |makeInterface b x=>
  simp only[oU,lU]at h
  cases ht:pE Of b with
  |false=>rw[ht]at h;exact h.elim
  |true=>rw[ht]at h;exact⟨_,h,fun _=>Y.RY (lv _ _ IY ht)⟩
 |call f=>
  obtain⟨v,⟨y⟩,⟨z⟩⟩:=f
  simp only[oU,lU]at h
  split at h
  ·rename_i x b
   split at h
   ·rename_i a A f hx
    cases ht:pE OL b with
    |false=>rw[ht]at h;exact h.elim
    |true=>
     rw[ht]at h
     have:=lv _ _ JG ht
     unfold Ms at this
     split at this
     ·rename_i B j;exact⟨_,h,fun _=>Y.mW j hx⟩
     cases this
   ·rename_i s hx
    cases ht:pE OH b with
    |false=>rw[ht]at h;exact h.elim
    |true=>
     rw[ht]at h
     have:=lv _ _ JS ht
     unfold LB at this
     split at this
     ·rename_i j;exact⟨_,h,fun _=>Y.ER j hx⟩
     cases this
   exact h.elim
  exact h.elim
 |_=>exact h.elim
end
inductive Sa where
 |c (c:Code)
 |o (all l:List Oper)
def Mu:List Fm→(Code→List Fm→Prop)→Prop→Prop
 |[],_,q=>q
 | .c y::s,k,_=>k y s
 | .b _::s,k,q=>Mu s k q
def ext(i:Nat):List Fm→(Code→List Fm→Prop)→Prop→Prop→Prop
 |[],_,_,q=>q
 | .c _::s,k,p,q=>ext i s k p q
 | .b j::s,k,p,q=>cond (Nat.beq i j) (Mu s k p) (ext i s k p q)
def run(n:Nat)(w:World)(Q:Exit→Env→World→Prop):Nat→List Fm→Sa→Env→Prop
 |0,s,.c c,e=>DC Tryz.prog n c e w (jr Tryz.prog n s Q)
 |0,s,.o all l,e=>DL Tryz.prog n all l e w (fun e' w'=>jr Tryz.prog n s Q .normal e' w')
 |f+1,s,.c c,e=>match c with
  | .seq a b=>run n w Q f (.c b::s) (.c a) e
  | .block i a=>run n w Q f (.b i::s) (.c a) e
  | .skip=>Mu s (fun y s'=>run n w Q f s' (.c y) e) (Q .normal e w)
  | .exit i=>ext i s (fun y s'=>run n w Q f s' (.c y) e) (Q .normal e w) (Q (.exit i) e w)
  | .ret=>Q .ret e w
  | .region _ ops false=>run n w Q f s (.o ops.toList ops.toList) e
  | .cond c a b=>vb e c fun v=>match v with| .bool p=>cond p (run n w Q f s (.c a) e) (run n w Q f s (.c b) e)|_=>False
  |_=>False
 |f+1,s,.o all l,e=>match l with
  |[]=>Mu s (fun y s'=>run n w Q f s' (.c y) e) (Q .normal e w)
  |⟨d,op,_,_,_,g⟩::r=>match d with
   |none=>False
   |some d=>cond (Nat.blt d n) (cond (hU all e g) (oU e (fun v=>run n w Q f s (.o all r) (List.cons (d,v) e)) op) (run n w Q f s (.o all r) (List.cons (d,undef) e))) False
section
variable{n:Nat}{w:World}{Q:Exit→Env→World→Prop}
theorem pZ{c:Code→List Fm→Prop}{e:Env}(hk:∀b s,c b s→DC Tryz.prog n b e w (jr Tryz.prog n s Q)):∀s,Mu s c (Q .normal e w)→jr Tryz.prog n s Q .normal e w
 |[],h=>h
 | .c b::s,h=>hk b s h
 | .b _::s,h=>pZ hk s h
theorem sN{k:Code→List Fm→Prop}{e:Env}{i:Nat}(hk:∀b s,k b s→DC Tryz.prog n b e w (jr Tryz.prog n s Q)):∀s,ext i s k (Q .normal e w) (Q (.exit i) e w)→jr Tryz.prog n s Q (.exit i) e w
 |[],h=>h
 | .c _::s,h=>sN (k:=k) hk s h
 | .b c::s,h=>by
  show cond (Nat.beq i c) (jr Tryz.prog n s Q .normal e w) (jr Tryz.prog n s Q (.exit i) e w)
  unfold ext at h
  cases hb:Nat.beq i c with
  |true=>rw[hb]at h;exact pZ hk s h
  |false=>rw[hb]at h;exact sN (k:=k) hk s h
theorem qw{e:Env}:∀s,Q .ret e w→jr Tryz.prog n s Q .ret e w
 |[],h=>h
 | .c _::s,h=>qw s h
 | .b _::s,h=>qw s h
def Goal(n:Nat)(w:World)(Q:Exit→Env→World→Prop)(s:List Fm)(e:Env):Sa→Prop
 | .c c=>DC Tryz.prog n c e w (jr Tryz.prog n s Q)
 | .o all l=>DL Tryz.prog n all l e w (fun e' w'=>jr Tryz.prog n s Q .normal e' w')
theorem kC:∀(b:Nat)(s:List Fm)(x:Sa)(e:Env),run n w Q b s x e→Goal n w Q s e x
 |0,s,.c l,e,h=>h
 |0,s,.o k f,e,h=>h
 |b+1,s,.c l,e,h=>by
  have hk:∀c d,run n w Q b d (.c c) e→DC Tryz.prog n c e w (jr Tryz.prog n d Q):=fun c d m=>kC b d (.c c) e m
  show DC Tryz.prog n l e w (jr Tryz.prog n s Q)
  cases l with
  |seq a o=>exact DC.seq (kC b (.c o::s) (.c a) e h)
  |block i a=>exact DC.block (kC b (.b i::s) (.c a) e h)
  |skip=>exact DC.skip (pZ hk s h)
  |exit i=>exact DC.exit (sN hk s h)
  |ret=>exact DC.ret (qw s h)
  |region i q j=>
   cases j with
   |true=>exact h.elim
   |false=>
    obtain⟨f⟩:=q
    exact DC.region (kC b s (.o f f) e h)
  |cond l a o=>
   simp only[run,lU]at h
   split at h
   ·rename_i r hc
    cases r with
    |true=>exact DC.HO hc (kC b s (.c a) e h)
    |false=>exact DC.zY hc (kC b s (.c o) e h)
   ·exact h.elim
  |_=>exact h.elim
 |b+1,s,.o k f,e,h=>by
  have hk:∀c d,run n w Q b d (.c c) e→DC Tryz.prog n c e w (jr Tryz.prog n d Q):=fun c d m=>kC b d (.c c) e m
  show DL Tryz.prog n k f e w (fun t u=>jr Tryz.prog n s Q .normal t u)
  cases f with
  |nil=>exact DL.nil (pZ hk s h)
  |cons v p=>
   obtain⟨j,y,ty,pos,af,g⟩:=v
   cases j with
   |none=>exact h.elim
   |some j=>
    simp only[run]at h
    cases hd:Nat.blt j n with
    |false=>rw[hd]at h;exact h.elim
    |true=>
     rw[hd]at h
     cases hg:hU k e g with
     |false=>rw[hg]at h;exact DL.skip hg hd (kC b s (.o k p) _ h)
     |true=>
      rw[hg]at h
      obtain⟨z,h1,h2⟩:=pf (dst:=some j) (ty:=ty) (pos:=pos) (af:=af) (g:=g) y h
      exact DL.y hg hd (h2 w) (kC b s (.o k p) _ h1)
theorem ac{s:List Fm}{b:Code}{e:Env}(c:Nat)(h:run n w Q c s (.c b) e):DC Tryz.prog n b e w (jr Tryz.prog n s Q):=kC c s (.c b) e h
theorem au{s:List Fm}{b c:List Oper}{e:Env}(d:Nat)(h:run n w Q d s (.o b c) e):DL Tryz.prog n b c e w (fun f j=>jr Tryz.prog n s Q .normal f j):=kC d s (.o b c) e h
end
end Go.Proofs.YtlojelcoibpphaaGreatDoor.D
namespace Go.Proofs.YtlojelcoibpphaaGreatDoor.D
open Go Go.RowKit Go.Deep
section
variable(P:Program)(ops:Array Oper)(Q:Exit→Act→World→Prop)(S:World→Prop)(z:Nat)
def rz:Nat→Array Bool→Act→World→Prop
 |0,L,a,w=>Region.ready .any ops L=[]∧Q .normal a w
 |f+1,L,a,w=>(Region.ready .any ops L=[]→Q .normal a w)∧
  ∀i∈Region.ready .any ops L,wpOp P ops Q i (fun a' w'=>((L.setIfInBounds i true).getD z false=true∨S w')∧rz f (L.setIfInBounds i true) a' w') a w
end
section
variable{P:Program}{ops:Array Oper}{Q:Exit→Act→World→Prop}{S:World→Prop}{z:Nat}
theorem qZ:∀(b:Nat)(c:Array Bool)(a:Act)(w:World),rz P ops Q S z b c a w→wpAny P .any ops Q b c a w
 |0,_,_,_,h=>h
 |b+1,_,_,_,h=>⟨h.1,fun i hi=>wpOp_mono (fun d f g=>qZ b _ d f g.2) (h.2 i hi)⟩
theorem vX{i:Nat}{oi:Oper}{v:Value}(hi:ops[i]? =some oi)(D:∀(b:Nat)(E:Oper) g j,ops[b]? =some E→E.op≠ .select g j)(T:∀t a w,¬Q (.panic t) a w)
  (U:∀F,ops[z]? =some F→∃e∈F.after,Region.binds .any e=true∧e.on=i) (W:z≠i) (p:Nat):∀(c:Array Bool)(a:Act)(w:World),
  (∀b d,ops[b]? =some d→b≠i→c.getD b true=false→(∀e∈d.after,Region.binds .any e=true→e.on≠i)→oi.apart ops d=true)→
  i∈Region.ready .any ops c→YieldsIf P ops S oi v a→S w→c.getD z false=false→rz P ops Q S z p (c.setIfInBounds i true) (a.put oi.dst v) w→rz P ops Q S z (p+1) c a w:=by
 induction p with
 |zero=>
  intro c a w u k q m y o
  refine⟨fun h=>Tu k Cc,fun b hj=>?_⟩
  rcases U2 (b=i)with rfl|f
  ·exact q.wpOp hi m ⟨Tk m,o⟩
  exact Tu (ready_mono hj f) (by rw[o.1];simp)
 |succ p X=>
  intro c a w u k q m y o
  refine⟨fun h=>Tu k Cc,fun b hj=>?_⟩
  rcases U2 (b=i)with rfl|f
  ·exact q.wpOp hi m ⟨Tk m,o⟩
  obtain⟨G,d,r,Y⟩:=mem_ready.1 hj
  have H:=(mem_ready.1 k).1
  have I:∀e∈d.after,Region.binds .any e=true→e.on≠i:=fun e A B Z=>by
   have h1:=Y e A B
   rw[Z]at h1
   rcases Vb i c.size with hl|hl
   ·simp only[Ug,UA hl,Vo]at h1 H
    rw[H]at h1;cases h1
   simp[Uz hl]at h1
  have J:b≠z:=fun h=>by
   subst h
   obtain⟨e,A,B,aa⟩:=U d r
   exact I e A B aa
  have ab:=wpOp_putIf r (u b d r f G I) (fun g j=>D i oi g j hi) (fun g j=>D b d g j r) (fun t a w h=>Tu h (T t _ w)) q (o.2 b (ready_mono hj f))
  refine wpOp_mono (fun ac L C=>?_) ab
  have ad:(c.setIfInBounds b true).getD z false=false:=by rw[getD_set_ne false J];exact y
  have ae:((c.setIfInBounds i true).setIfInBounds b true).getD z false=false:=by rw[getD_set_ne false J,getD_set_ne false (Ne.symm W)];exact y
  have M:S L:=C.2.1.resolve_left (by rw[ae];simp)
  refine⟨Tk M,X _ ac L (fun O af hk ag R ah=>u O af hk ag ?_ ah) (ready_mono k (Ne.symm f)) C.1 M ad ?_⟩
  ·rcases U2 (b=O)with rfl|ai
   ·exact G
   rw[getD_set_ne true ai]at R;exact R
  rw[U4 _ _ f];exact C.2.2
end
def E5(l:List Oper)(z i:Nat):Bool:= !(Nat.beq z i)&&(match kW l z with|some o=>o.after.toList.any (fun e=>Region.binds .any e&&Nat.beq e.on i)|none=>true)
structure DG(P:Program)(n:Nat)(l:List Oper)(S:World→Prop)(z:Nat)(fuel:Nat)(listed:Array Bool)(e:Env)(w:World)(K:Env→World→Prop):Prop where
 out:∀(a:Act)(Q:Exit→Act→World→Prop),mJ n a e→(listed.getD z false=true∨S w)→(∀c a w,¬Q (.panic c) a w)→(∀a' e' w',mJ n a' e'→(∀t,t∉iQ l→e' t=e t)→K e' w'→Q .normal a' w')→
  rz P l.toArray Q S z fuel listed a w
section
variable{P:Program}{n:Nat}{e:Env}{w:World}{l:List Oper}{S:World→Prop}{z fuel:Nat}{listed:Array Bool}{K:Env→World→Prop}
theorem DG.take{b:Oper}{v:Value}(i:Nat)(hi:kW l i=some b)(hs:Region.noSelect l.toArray)(o:Region.free .any l.toArray listed i)(p:(Region.ready .any l.toArray listed).contains i)(c:E5 l z i)(j:listed.getD z false=false)
  (q:hU l e b.guard) (r:nE n b.dst) (h:∀w,S w→Y P e b w v) (t:DG P n l S z fuel (listed.setIfInBounds i true) (put e b.dst v) w K):DG P n l S z (fuel+1) listed e w K:=by
 rw[j8]at hi
 unfold E5 at c
 rw[j8]at c
 simp only[Tx,UR]at c
 refine⟨fun a Q d hw k u=>?_⟩
 have m:S w:=hw.resolve_left (by rw[j];simp)
 refine vX (oi:=b) (v:=v) A3 (Region.noSelect_spec hs) k (fun y A=>?_) (fun h=>by rw[h,VL]at c;cases c.1) fuel listed a w (Region.free_spec A3 o) (by simpa using p) (Ts ⟨by rw[jx d,q],fun f B=>by rw[d.eval];exact h f B⟩) m j
  (t.out _ Q (d.put b.dst v (jy r)) (Tk m) k (fun C D f h1 h2 E=>u C D f h1 (fun F ht=>?_) E))
 ·have h2:=c.2
  have G:l[z]? =some y:=by simpa using A
  rw[G]at h2
  obtain⟨e,H,g⟩:=UX.1 h2
  simp only[Tx]at g
  exact⟨e,by simpa using H,g.1,Ub g.2⟩
 rw[h2 F ht,kS hi ht]
theorem DG.pick(k:List Nat)(q:Region.ready .any l.toArray listed=k)(t:k≠[])
  (h:∀i∈k,∃g,kW l i=some g∧DL P n l [g] e w (fun j b=>jr P n [] (fun _ j b=>((listed.setIfInBounds i true).getD z false=true∨S b)∧DG P n l S z fuel (listed.setIfInBounds i true) j b K) .normal j b)):DG P n l S z (fuel+1) listed e w K:=by
 refine⟨fun a Q u hw v y=>⟨fun h0=>Tu (q▸h0) t,fun i hi=>?_⟩⟩
 obtain⟨g,m,A⟩:=h i (q▸hi)
 rw[j8]at m
 unfold wpOp
 have B:l.toArray[i]? =some g:=by simpa using m
 simp only[B]
 have:=A.out a (fun x c b=>match x with| .normal=>((listed.setIfInBounds i true).getD z false=true∨S b)∧rz P l.toArray Q S z fuel (listed.setIfInBounds i true) c b|x=>Q x c b) u (fun c j b h1 h2 o=>
  ⟨o.1,o.2.out c Q h1 o.1 v (fun C D E F G H=>y C D E F (fun r ht=>by
   rw[G r ht]
   refine h2 r (fun d=>ht ?_)
   unfold iQ at d
   cases hod:g.dst with
   |none=>rw[hod]at d;simp[iQ]at d
   |some I=>rw[hod]at d;simp only[iQ,Tt]at d;rw[d];exact tl hod l i m) H)⟩)
 unfold wpList at this
 split
 ·rename_i p
  rw[TU p]at this
  rcases this with h|h
  ·exact Ts (vd (fun c b f=>by unfold wpList at f;exact f) (fun J c b f=>f) (fun f=>f) h)
  exact Tk h
 rename_i p
 rw[TI p]at this
 unfold wpList at this
 exact this
theorem DG.done(b:Region.ready .any l.toArray listed=[])(h:K e w):DG P n l S z fuel listed e w K:=
 ⟨fun a Q c hw f d=>by
  have:=d a e w c (fun _ _=>rfl) h
  cases fuel with
  |zero=>exact⟨b,this⟩
  |succ g=>exact⟨fun _=>this,by rw[b];simp⟩⟩
theorem DG.with(f:Env→World→Prop)(g:Nat)(j:Array Bool)(k:∀b c,f b c→DG P n l S z g j b c K)
  (h:(∀(d:Array Bool) b c,d=j→f b c→DG P n l S z g d b c K)→DG P n l S z fuel listed e w K):DG P n l S z fuel listed e w K:=
 h (fun d b c hl hi=>by subst hl;exact k b c hi)
theorem DC.drawn{id:Nat}{Q:Exit→Env→World→Prop}(S:World→World→Prop)(z:Nat)(g:P.follows .mixedOrders)
  (h:∀b,Fr [] w b→b.heap.size=w.heap.size→S b b∧DG P n l (S b) z l.length (Array.replicate l.length false) e b (fun j k=>Q .normal j k)):DC P n (.region id l.toArray true) e w Q:=by
 refine⟨fun a m=>wp_region_noPanic (wp_region_any g (qZ (S:=S {w with drawn:=w.drawn+1}) (z:=z) _ _ _ _ ?_))⟩
 obtain⟨o,p⟩:=h _ (Fr.drawn w (w.drawn+1)) rfl
 have:=p.out a (NoPanic fun x f b=>∃c,mJ n f c∧(∀d,d∉ji (.region id l.toArray true)→c d=e d)∧Q x c b) m (Tk o) (fun r a w h=>h) (fun f c b h1 h2 q=>
  (show∃c,mJ n f c∧(∀d,d∉ji (.region id l.toArray true)→c d=e d)∧Q .normal c b from⟨c,h1,fun d ht=>h2 d Br,q⟩))
 simpa using this
end
section
variable{P:Program}{n:Nat}{e:Env}{w:World}{ops rest:List Oper}{K:Env→World→Prop}{dst:Option Tmp}{ty:TypeId}{pos:String}{af:Array Edge}{g:Option (Nat×Bool)}
theorem DC.forget{b:Code}{c:Exit→Env→World→Prop}(d:List (Nat×Value))(f:j5 e d)(h:∀j:Env,DC P n b (oT j d) w c):DC P n b e w c:=(h e).congr (lz f)
theorem DC.jC{f:Code}{p:Exit→Env→World→Prop}{σ:Type}(j:List (Nat×Nat))(q:List (Nat×Value))(b:σ→List (Nat×Value))(c:σ→World→Prop)(k:σ→Nat)(l:σ)
  (t:(ji f).all (pE j)) (r:j5 e q) (h0:j5 e (b l)) (u:c l w)
  (v:∀(y:Env)(s:σ)(m:Env)(d:World),c s d→DC P n f (oT (mix j m (oT y q)) (b s)) d (jr P n [] (uE (fun z A=>∃o,c o A∧k o<k s∧j5 z (b o)) p))):
  DC P n (.loop f) e w p:=
 DC.congr (lz r) (DC.loop j b c k l t (j5.congr (lz r) h0) u (fun s m d hi=>v e s m d hi))
theorem Y.jb{x b:Operand}{t i:Nat}{k:IntKind}{c:Int}{s:ByteArray}(ht:P.underlying t=some .string)(hx:ev e x=.string s)(hi:ev e b=.int k c)(d:c=(i:Int))(f:i<s.size):
  Y P e ⟨dst,.index t x b,ty,pos,af,g⟩ w (.int .u8 (s[i].toNat:Int)):=by
 subst d
 have h2:s[i]? =some s[i]:=by simp[f]
 unfold Y
 simp[execOp,Instr.index,hx,hi,asIntOf,run_underlying ht,h2]
theorem Y.ma{x c:Operand}{t i:Nat}{k:IntKind}{d:Int}{s:ByteArray}{b:UInt8}(ht:P.underlying t=some .string)(hx:ev e x=.string s)(hi:ev e c=.int k d)(f:d=(i:Int))(j:s.data.toList[i]? =some b):
  Y P e ⟨dst,.index t x c,ty,pos,af,g⟩ w (.int .u8 (b.toNat:Int)):=by
 obtain⟨hl,l⟩:=UK.1 j
 have m:i<s.size:=by simpa using hl
 have o:s[i]=b:=by rw[←l];rfl
 have:=Y.jb (P:=P) (w:=w) (dst:=dst) (ty:=ty) (pos:=pos) (af:=af) (g:=g) ht hx hi f m
 rw[o]at this
 exact this
def uM(P:Program)(el len:Nat)(parts:List (Nat×Value)):Option (Array Value):=
 match P.info? el with
 |some ie=>(match ie.zero with
  |some z=>cond (Nat.ble (len*ie.size) 1000&& !(Nat.beq (len*ie.size) 0)) (Instr.fill (fun i=>some (i*ie.size,ie.size)) ((Array.range (len*ie.size)).map (z.cells[· %z.cells.size]!)) parts) none
  |none=>none)
 |none=>none
theorem DL.jq{f j c m:Nat}{k:List (Nat×Operand)}{cs:Array Value}(p:hU ops e g)(q:Nat.blt m n)(hu:P.underlying f=some (.slice j))(d:uM P j c (GJ e k)=some cs)
  (r:∀b w',Fr [] w w'→w.heap.size≤b→b<w'.heap.size→w'.heap[b]? =some (.cells cs j (0,0))→DL P n ops rest (jZ e m (.slice (some ⟨b,0,none⟩) c c)) w' K):
  DL P n ops (⟨some m,.buildSlice f c k.toArray,ty,pos,af,g⟩::rest) e w K:=by
 unfold uM at d
 split at d
 ·rename_i o h1
  split at d
  ·rename_i t h2
   cases hc:(Nat.ble (c*o.size) 1000&& !(Nat.beq (c*o.size) 0))with
   |false=>rw[hc]at d;cases d
   |true=>
    rw[hc,cond_true]at d
    simp only[Tx,UR]at hc
    have z:=TM hc.1
    have u:¬c*o.size=0:=fun h=>by rw[h]at hc;cases hc.2
    rw[tj]at d
    have hrun:=run_buildSlice (P:=P) w f j c (k.toArray.map fun l=>(l.1,ev e l.2)) cs o t hu h1 h2 Ac u (by simpa using d)
    refine DL.run (w':={w with heap:=w.heap.push (.cells cs j)}) p q (v:=.slice (some ⟨w.heap.size,0,none⟩) c c) ?_ (r w.heap.size _ (mN w _) (Tv _) Al (mr w _))
    have y:execOp (ev e) ⟨some m,.buildSlice f c k.toArray,ty,pos,af,g⟩=(do pure (.value (←Instr.buildSlice f c (k.toArray.map fun l=>(l.1,ev e l.2))))):=rfl
    rw[y]
    simp only[Sem.run_bind,hrun,Result.andThen_ok,Sem.run_pure]
    rfl
  cases d
 cases d
end
end Go.Proofs.YtlojelcoibpphaaGreatDoor.D
namespace Go.Proofs.YtlojelcoibpphaaGreatDoor
open Go Ieee
theorem w9:double.binade=4503599627370496:=by decide+kernel
theorem xx:double.infRung=9218868437227405312:=by decide+kernel
theorem Hs:double.signWeight=9223372036854775808:=by decide+kernel
theorem D9:double.leastPlace= -1074:=by decide+kernel
theorem DD:double.fractionBits=52:=rfl
theorem p8{n k:Nat}(h1:2^k≤n)(h2:n<2^(k+1)):n.log2=k:=by
 have h0:n≠0:=by have:=VJ k;omega
 exact(Nat.log2_eq_iff h0).2 ⟨h1,h2⟩
theorem um{m d:Nat}(h1:4503599627370496≤m)(h2:m<9007199254740992):(m*2^d).log2=52+d:=by
 have b:=VJ d
 refine p8 ?_ ?_
 ·rw[UW];exact UP _ h1
 rw[show 52+d+1=53+d by omega,UW];exact UU h2 b
theorem vx(c:Bool){m d:Nat}{b:Int}(h1:4503599627370496≤m)(h2:m<9007199254740992)(r: -1074≤b+d)(t:b+d≤900):
  double.nearest c (m*2^d) b=double.word c ((b+d+1074).toNat*4503599627370496+m):=by
 have f:=VJ d
 have h0:¬m*2^d=0:=by
  intro h;rcases Nat.mul_eq_zero.1 h with h|h<;>omega
 unfold Format.nearest
 rw[TI h0,um h1 h2,D9,DD,w9,xx]
 have g:max (b+((52+d:Nat):Int) - ((52:Nat):Int)) (-1074)=b+d:=by omega
 simp only[g]
 have j:(b - (b+(d:Int))).toNat=0:=by omega
 have k:(b+(d:Int) - b).toNat=d:=by omega
 rw[j,k]
 have l:(m*2^d)<<<0=m*2^d:=rfl
 rw[l]
 have o:Toward.even.cut c (m*2^d) d=m:=by
  unfold Toward.cut
  rw[um h1 h2,show min d (52+d+2)=d by omega,Nat.one_shiftLeft]
  dsimp only
  rw[VO _ f,Nat.mul_mod_left]
  simp only[Nat.mul_zero,Nat.not_lt_zero,decide_false,Bool.false_or]
  have p:(2^d==0)=false:=by simp
  rw[p];rfl
 rw[o]
 have q:b+(d:Int) - -1074=b+d+1074:=by omega
 rw[q]
 have u:(b+(d:Int)+1074).toNat≤1974:=by omega
 rw[Nat.min_eq_left Ac]
theorem yT(c:Bool){b m:Nat}(h1:4503599627370496≤m)(h2:m<9007199254740992)(l:b≤1974):
  double.read (double.word c (b*4503599627370496+m))=.number c m ((b:Int) - 1074):=by
 unfold Format.read Format.word
 rw[Hs,w9,xx,D9]
 cases c<;>simp only[UN,if_false,if_true]
 ·have f:(b*4503599627370496+m)/9223372036854775808=0:=by omega
  have g:(b*4503599627370496+m)%9223372036854775808=b*4503599627370496+m:=by omega
  rw[f,g,TI Ac,TU Ac]
  have j:4503599627370496+(b*4503599627370496+m)%4503599627370496=m:=by omega
  have k:(-1074:Int)+(((b*4503599627370496+m)/4503599627370496 - 1:Nat):Int)=(b:Int) - 1074:=by omega
  rw[j,k];rfl
 have f:(9223372036854775808+(b*4503599627370496+m))/9223372036854775808=1:=by omega
 have g:(9223372036854775808+(b*4503599627370496+m))%9223372036854775808=b*4503599627370496+m:=by omega
 rw[f,g,TI Ac,TU Ac]
 have j:4503599627370496+(b*4503599627370496+m)%4503599627370496=m:=by omega
 have k:(-1074:Int)+(((b*4503599627370496+m)/4503599627370496 - 1:Nat):Int)=(b:Int) - 1074:=by omega
 rw[j,k];rfl
structure Lh(h:Int)(m d:Nat):Prop where
 pos:0<h.natAbs
 eq:m=h.natAbs*2^d
 lo:4503599627370496≤m
 hi:m<9007199254740992
 d52:d≤52
section
variable{h:Int}{m d:Nat}
def Es(h:Int)(m d:Nat):Nat:=double.word (decide (h<0)) ((1074 - d)*4503599627370496+m)
def Ic(h:Int)(m d:Nat):Nat:=double.word (decide (h<0)) ((1073 - d)*4503599627370496+m)
theorem Lh.LX(b:Lh h m d):double.read (Es h m d)=.number (decide (h<0)) m (-(d:Int)):=by
 unfold Es
 rw[yT _ b.lo b.hi Ac]
 have:((1074 - d:Nat):Int) - 1074= -(d:Int):=by have:=b.d52;omega
 rw[this]
theorem DO:double.read 4611686018427387904=.number false 4503599627370496 (-51):=by decide+kernel
theorem Lh.half(b:Lh h m d):double.div (Es h m d) 4611686018427387904=some (Ic h m d):=by
 unfold Format.div
 rw[b.LX,DO,DD]
 have hl:m.log2=52:=p8 (k:=52) b.lo b.hi
 have c:Nat.log2 4503599627370496=52:=p8 (k:=52) Ah Ah
 simp only[Datum.quotient]
 rw[TI Ah,hl,c]
 have f:52+2+52 - 52=54:=by omega
 have g:m<<<54=m*4*4503599627370496:=by rw[Nat.shiftLeft_eq,UE]
 rw[f,g,VO _ Ah,Nat.mul_mod_left]
 simp only[Vd,Bool.xor_false]
 have j:2*(m*4)+(0!=0:Bool).toNat=m*2^3:=by simp;omega
 rw[j]
 show some (double.nearest _ _ _)=_
 rw[vx (d:=3) _ b.lo b.hi (by have:=b.d52;omega) Ac]
 unfold Ic
 have l:(-(d:Int) - -51 - ((54:Nat):Int) - 1+((3:Nat):Int)+1074).toNat=1073 - d:=by have:=b.d52;omega
 rw[l]
theorem Lh.cut(b:Lh h m d)(c:Bool):Toward.zero.cut c m d=h.natAbs:=by
 have hl:m.log2=52:=p8 (k:=52) b.lo b.hi
 have f:=b.d52
 unfold Toward.cut
 rw[hl,show min d (52+2)=d by omega,Nat.one_shiftLeft,b.eq]
 dsimp only
 rw[VO _ (VJ _)]
 rfl
end
end Go.Proofs.YtlojelcoibpphaaGreatDoor
namespace Go.Proofs.YtlojelcoibpphaaGreatDoor.D
open Go Go.RowKit Go.Deep
section
variable{P:Program}{n:Nat}{e:Env}{w:World}{ops rest:List Oper}{K:Env→World→Prop}{dst:Option Tmp}{ty:TypeId}{pos:String}{af:Array Edge}{g:Option (Nat×Bool)}
theorem Y.HG{x : Operand}{b : FuncId}{fn : Func}{c : Array TypeId}{d : Array Value → Sem Value}{a v : Value}(f : P.funcs[b]? = some fn)(j : (fn.name == "runtime.NumGoroutine") = false)(k : fn.body.isNone)(l : Extern.findNext fn = none)(m : Extern.find fn = some d)
  (hx:ev e x=a) (o:(d #[a]).run P w=.ok v w):Y P e ⟨dst,.call ⟨.value (.func b),#[x],c⟩,ty,pos,af,g⟩ w v:=by
 have p:execOp (ev e) ⟨dst,.call ⟨.value (.func b),#[x],c⟩,ty,pos,af,g⟩=callFunc b (#[]++ #[x].map (ev e)++ #[]):=rfl
 have q:(#[]++ #[x].map (ev e)++ #[])=#[a]:=by simp[hx]
 unfold Y
 rw[p,q,run_callFunc_extern f j k l m,o]
 rfl
theorem DL.qV{c d f:Nat}(j:hU ops e g)(k:Nat.blt f n)(hu:P.underlying c=some (.slice d))(hi:(P.info? d).isSome)
  (l:∀b w',Fr [] w w'→w.heap.size≤b→b<w'.heap.size→w'.heap[b]? =some (.cells #[] d (0,0))→DL P n ops rest (jZ e f (.slice (some ⟨b,0,none⟩) 0 0)) w' K):
  DL P n ops (⟨some f,.buildSlice c 0 #[],ty,pos,af,g⟩::rest) e w K:=by
 obtain⟨i,hi⟩:=UO.1 hi
 have hrun:(Instr.buildSlice c 0 #[]).run P w=.ok (.slice (some ⟨w.heap.size,0,none⟩) 0 0) (w.alloc (.cells #[] d)):=by
  have h0:Array.range 0=#[]:=by simp[Array.range]
  simp[Instr.buildSlice,run_underlying hu,sizeOf,typeInfo,hi,newRow,Instr.fill,h0]
 refine DL.run (w':={w with heap:=w.heap.push (.cells #[] d)}) j k (v:=.slice (some ⟨w.heap.size,0,none⟩) 0 0) ?_ (l w.heap.size _ (mN w _) (Tv _) Al (mr w _))
 have m:execOp (ev e) ⟨some f,.buildSlice c 0 #[],ty,pos,af,g⟩=(do pure (.value (←Instr.buildSlice c 0 #[]))):=by
  simp[execOp]
 rw[m]
 simp only[Sem.run_bind,hrun,Result.andThen_ok,Sem.run_pure]
 rfl
theorem o0{w:World}{c d f b:Nat}(j:w.heap[b]? =some (.cells #[] d (0,0)))(k:c≤b):w.ownsRow c d f (.slice (some ⟨b,0,none⟩) 0 0) 0 []:=
 ⟨by simp,.inr ⟨b,0,#[],rfl,k,j,Tv _,by decide,by simp,by simp⟩⟩
end
section
variable{P:Program}{n:Nat}{e:Env}{w:World}{ops rest:List Oper}{K:Env→World→Prop}{dst:Option Tmp}{ty:TypeId}{pos:String}{af:Array Edge}{g:Option (Nat×Bool)}
theorem DL.invoke{k:FuncId}{j:Operand}{d:String}{f:List Operand}{c:TypeId}{x:Value}{b:List Value}{l:Array TypeId}{m:List Nat}{o:Value→World→Prop}(p:hU ops e g)(q:nE n dst)(r:ev e j=.iface c x)(t:K9 e f=b)
  (u:∀w,(callMethod (.iface c x) d b.toArray).run P w=.ok (.enter k (x::b).toArray) w) (hc:Calls P k (x::b).toArray w (hH w m o)) (y:∀v w',Fr m w w'→o v w'→DL P n ops rest (put e dst v) w' K):
  DL P n ops (⟨dst,.call ⟨.invoke j d,f.toArray,l⟩,ty,pos,af,g⟩::rest) e w K:=by
 refine DL.op p q fun next a G N z A hk=>?_
 have B:(execOp (ev e) ⟨dst,.call ⟨.invoke j d,f.toArray,l⟩,ty,pos,af,g⟩).run P w=.ok (.enter k (x::b).toArray) w:=by
  have h1:execOp (ev e) ⟨dst,.call ⟨.invoke j d,f.toArray,l⟩,ty,pos,af,g⟩=Go.invoke (.fn (.method d) #[]) (#[ev e j]++f.toArray.map (ev e)):=rfl
  have h2:f.toArray.map (ev e)=b.toArray:=by rw[←t,sR];simp
  rw[h1,h2,r]
  have C:Go.invoke (.fn (.method d) #[]) (#[.iface c x]++b.toArray)=callMethod (.iface c x) d b.toArray:=by
   have D:(#[Value.iface c x]++b.toArray)[0]? =some (.iface c x):=by simp
   have E:(#[Value.iface c x]++b.toArray).extract 1 (#[Value.iface c x]++b.toArray).size=b.toArray:=by simp[Array.extract_append]
   unfold Go.invoke
   simp only[D,E]
  rw[C];exact u w
 unfold Oper.wp
 rw[z,B,Oper.upon_enter]
 refine hc.mono fun F w' hx=>?_
 cases F with
 |returned v=>exact A _ _ (hk _ _ (y v w' hx.1 hx.2))
 |_=>exact hx.elim
theorem Y.Mz{x y:Operand}{t u te:TypeId}{j:TypeInfo}{a:Addr}(ht:P.underlying t=some (.pointer te))(b:P.info? te=some j)(hx:ev e x=.pointer (some a))(c:ev e y=.pointer (some a)):Y P e ⟨dst,.binOp .neq t x y u,ty,pos,af,g⟩ w (.bool false):=by
 unfold Y
 have h:=Lib.run_neq_ptr_same (P:=P) w a ht b
 have d:eqGuard .neq t x y (.pointer (some a)) (.pointer (some a))=pure ():=by rfl
 simp only[execOp,hx,c,d,Sem.run_bind,Sem.run_pure,Result.andThen_ok,h]
theorem Y.M3{x:Operand}{b c t el:TypeId}{j:TypeInfo}{cells:Nat}{a:Addr}(hs:P.underlying b=some (.pointer t))(d:P.underlying c=some .unsafePointer)(ht:P.info? t=some j)(hj:j.size≠0)(hx:ev e x=.pointer (some a))(f:w.shape? a.block=some (el,cells))(k:a.off<cells):
  Y P e ⟨dst,.convert b c x,ty,pos,af,g⟩ w (.pointer (some a)):=by
 unfold Y
 simp only[execOp,hx,Sem.run_bind,Lib.run_to_unsafe (P:=P) w a hs d ht hj f k,Result.andThen_ok,Sem.run_pure]
theorem Y.FQ{x:Operand}{b c u el:TypeId}{j:TypeInfo}{cells:Nat}{a:Addr}(hs:P.underlying b=some .unsafePointer)(d:P.underlying c=some (.pointer u))(hu:P.info? u=some j)(hx:ev e x=.pointer (some a))(f:w.shape? a.block=some (el,cells))(k:liesAt P P.depth el (cells/P.cellsOf el) a.off u 1):
  Y P e ⟨dst,.convert b c x,ty,pos,af,g⟩ w (.pointer (some a)):=by
 unfold Y
 simp only[execOp,hx,Sem.run_bind,Lib.run_from_unsafe (P:=P) w a hs d hu f k,Result.andThen_ok,Sem.run_pure]
end
end Go.Proofs.YtlojelcoibpphaaGreatDoor.D
namespace Go.Proofs.YtlojelcoibpphaaGreatDoor
open Go Go.RowKit D
inductive V where
 |mk (kind half:Int) (text:ByteArray) (list:List V) (keys:List ByteArray) (vals:List V)
def Row(w:World)(B:Nat)(a:Option Addr)(n sz:Nat)(cl:Nat→Array Value):Prop:=
 ∀i,i<n→∃b o,a=some ⟨b,o,none⟩∧b<B∧hB w b (o+i*sz) (cl i)∧(cl i).size=sz
def strCells(keys:List ByteArray)(i:Nat):Array Value:=#[.string (keys.getD i default)]
inductive RV(w:World)(B:Nat):V→Array Value→Prop
 |mk {kind half:Int} {text:ByteArray} {list:List V} {keys:List ByteArray} {vals:List V} {la ka va:Option Addr} {lc kc vc:Nat} (cl cv:Nat→Array Value)
   (hk: -9223372036854775808≤kind∧kind≤9223372036854775807) (hh: -9223372036854775808≤half∧half≤9223372036854775807) (ht:text.size≤140737488351232)
   (ln:list.length≤140737488351232) (kn:keys.length≤140737488351232) (vn:vals.length≤140737488351232) (ks:∀k∈keys,k.size≤140737488351232)
   (hl:Row w B la list.length 6 cl) (rl:∀(i:Nat)(h:i<list.length),RV w B list[i] (cl i))
   (hks:Row w B ka keys.length 1 (strCells keys))
   (hv:Row w B va vals.length 6 cv) (rv:∀(i:Nat)(h:i<vals.length),RV w B vals[i] (cv i)):
   RV w B (.mk kind half text list keys vals) #[.int .i64 kind,.int .i64 half,.string text,.slice la list.length lc,.slice ka keys.length kc,.slice va vals.length vc]
theorem Row.fr{c:List Nat}{w d:World}{B:Nat}{a:Option Addr}{n f:Nat}{g:Nat→Array Value}(h:Row w B a n f g)(j:Fr c w d)(hs:∀b,b<B→b∉c):Row d B a n f g:=
 fun i hi=>let⟨b,o,h1,h2,h3,h4⟩:=h i hi;⟨b,o,h1,h2,h3.fr j (hs b h2),h4⟩
theorem Row.g{w d:World}{B:Nat}{a:Option Addr}{n b:Nat}{c:Nat→Array Value}(h:Row w B a n b c)(f:Row w B a n b c→Row d B a n b c:=by exact Gq):Row d B a n b c:=f h
theorem RV.fr{c:List Nat}{w d:World}{B:Nat}{f:V}{g:Array Value}(h:RV w B f g)(b:Fr c w d)(hs:∀j,j<B→j∉c):RV d B f g:=by
 induction h with
 |mk k l hk m ht ln kn vn ks hl t o p u q r=>exact .mk k l hk m ht ln kn vn ks (hl.fr b hs) q (o.fr b hs) (p.fr b hs) r
theorem RV.g{w d:World}{B:Nat}{b:V}{c:Array Value}(h:RV w B b c)(f:RV w B b c→RV d B b c:=by exact Gq):RV d B b c:=f h
theorem RV.size{w:World}{B:Nat}{c:V}{b:Array Value}(h:RV w B c b):b.size=6:=by cases h;rfl
theorem Row.at{w:World}{B:Nat}{a:Option Addr}{n d:Nat}{f:Nat→Array Value}(h:Row w B a n d f){i:Nat}(hi:i<n):∃b c,a=some ⟨b,c,none⟩∧b<B∧hB w b (c+i*d) (f i):=by
 obtain⟨b,c,h1,h2,g,_⟩:=h i hi
 exact⟨b,c,h1,h2,g⟩
theorem Row.str{w:World}{B:Nat}{a:Option Addr}{keys:List ByteArray}(h:Row w B a keys.length 1 (strCells keys)){i:Nat}(hi:i<keys.length):
  ∃b c,a=some ⟨b,c,none⟩∧b<B∧w.cell? ⟨b,c+i*1,none⟩=some (.string keys[i]):=by
 obtain⟨b,c,h1,h2,d,_⟩:=h i hi
 refine⟨b,c,h1,h2,?_⟩
 have:=d.cell 0 (v:=.string keys[i]) (by simp[strCells,TL,hi])
 simpa using this
mutual
def V.nodes:V→Nat
 | .mk _ _ _ list _ vals=>1+V.iy list+V.iy vals
def V.iy:List V→Nat
 |[]=>0
 |v::r=>v.nodes+V.iy r
end
def oo(keys:List ByteArray):Nat:=(keys.map (·.size)).sum
mutual
def V.bytes:V→Nat
 | .mk _ _ text list keys vals=>text.size+V.lg list+oo keys+V.lg vals
def V.lg:List V→Nat
 |[]=>0
 |v::r=>v.bytes+V.lg r
end
structure LK(kind half:Int)(text:ByteArray)(nl:Nat)(keys:List ByteArray)(nv:Nat):Prop where
 Ja:0≤kind∧kind≤6
 hzero:kind=3∨half=0
 Lz:kind=4∨text=⟨#[]⟩
 HS:kind=5∨nl=0
 HY:kind=6∨keys.length=0
 same:keys.length=nv
 hbound: -18014398509481984≤half∧half≤18014398509481984
 RM:half.tmod 2=0∨(-9007199254740992<half∧half<9007199254740992)
 zA:Lib.validD text.data.toList=true
 IE:∀i (h:i<keys.length),Lib.validD keys[i].data.toList=true
 SY:∀i (h:i+1<keys.length),Op.bytesLess keys[i].toList keys[i+1].toList=true
inductive Good:V→Prop
 |mk {kind half:Int} {text:ByteArray} {list:List V} {keys:List ByteArray} {vals:List V} (n:LK kind half text list.length keys vals.length)
   (hl:∀i (h:i<list.length),Good list[i]) (hv:∀i (h:i<vals.length),Good vals[i]):Good (.mk kind half text list keys vals)
theorem pP{b:List V}:∀{k:Nat}(h:k<b.length),V.iy (b.take (k+1))=V.iy (b.take k)+b[k].nodes:=by
 induction b with
 |nil=>intro k h;cases h
 |cons d b c=>
  intro k h
  cases k with
  |zero=>simp[V.iy]
  |succ k=>
   have:=c (k:=k) AU
   simp only[T4,V.iy,this,TZ]
   omega
theorem pR{b:List V}:∀{k:Nat}(h:k<b.length),V.lg (b.take (k+1))=V.lg (b.take k)+b[k].bytes:=by
 induction b with
 |nil=>intro k h;cases h
 |cons d b c=>
  intro k h
  cases k with
  |zero=>simp[V.lg]
  |succ k=>
   have:=c (k:=k) AU
   simp only[T4,V.lg,this,TZ]
   omega
theorem uq{b:List ByteArray}:∀{k:Nat}(h:k<b.length),oo (b.take (k+1))=oo (b.take k)+b[k].size:=by
 induction b with
 |nil=>intro k h;cases h
 |cons d b c=>
  intro k h
  cases k with
  |zero=>simp[oo]
  |succ k=>
   have:=c (k:=k) AU
   simp only[oo,T4,T8,Ui,TZ]at this⊢
   omega
theorem jo{l:List V}{k:Nat}(h:k<l.length):l[k].nodes≤V.iy l:=by
 induction l generalizing k with
 |nil=>cases h
 |cons c l b=>
  cases k with
  |zero=>simp[V.iy]
  |succ k=>have:=b (k:=k) AU;simp only[TZ,V.iy];omega
theorem kh(b:V):1≤b.nodes:=by cases b;simp only[V.nodes];omega
section
variable{w:World}{B:Nat}{kind half:Int}{text:ByteArray}{list:List V}{keys:List ByteArray}{vals:List V}{la ka va:Option Addr}{ln kn vn lc kc vc:Nat}
theorem RV.shape{b:Array Value}(h:RV w B (.mk kind half text list keys vals) b):
  ∃la lc ka kc va vc,b=#[.int .i64 kind,.int .i64 half,.string text,.slice la list.length lc,.slice ka keys.length kc,.slice va vals.length vc]:=by
 cases h;exact⟨_,_,_,_,_,_,rfl⟩
theorem RV.elem(h:RV w B (.mk kind half text list keys vals) #[.int .i64 kind,.int .i64 half,.string text,.slice la ln lc,.slice ka kn kc,.slice va vn vc]){b:Nat}(hk:b<list.length):
  ∃c f d,la=some ⟨c,f,none⟩∧c<B∧hB w c (f+b*6) d∧d.size=6∧RV w B list[b] d:=by
 cases h with
 |mk d l m o ht p q r ks hl g t u v=>
  obtain⟨c,f,h1,h2,j,k⟩:=hl b hk
  exact⟨c,f,d b,h1,h2,j,k,g b hk⟩
theorem RV.Ia(h:RV w B (.mk kind half text list keys vals) #[.int .i64 kind,.int .i64 half,.string text,.slice la ln lc,.slice ka kn kc,.slice va vn vc]){b:Nat}(hk:b<vals.length):
  ∃c d f,va=some ⟨c,d,none⟩∧c<B∧hB w c (d+b*6) f∧f.size=6∧RV w B vals[b] f:=by
 cases h with
 |mk f g o p ht q r t ks hl u v j k=>
  obtain⟨c,d,h1,h2,l,m⟩:=j b hk
  exact⟨c,d,g b,h1,h2,l,m,k b hk⟩
theorem RV.z1(h:RV w B (.mk kind half text list keys vals) #[.int .i64 kind,.int .i64 half,.string text,.slice la ln lc,.slice ka kn kc,.slice va vn vc]){c:Nat}(hk:c<keys.length):
  ∃b d,ka=some ⟨b,d,none⟩∧b<B∧w.cell? ⟨b,d+c*1,none⟩=some (.string keys[c])∧keys[c].size≤140737488351232:=by
 cases h with
 |mk j k l m ht o p q ks hl r f t u=>
  obtain⟨b,d,h1,h2,g⟩:=f.str hk
  exact⟨b,d,h1,h2,g,ks _ (T2 hk)⟩
theorem RV.bounds(h:RV w B (.mk kind half text list keys vals) #[.int .i64 kind,.int .i64 half,.string text,.slice la ln lc,.slice ka kn kc,.slice va vn vc]):
  text.size≤140737488351232∧list.length≤140737488351232∧keys.length≤140737488351232∧vals.length≤140737488351232∧
  (-9223372036854775808≤kind∧kind≤9223372036854775807)∧(-9223372036854775808≤half∧half≤9223372036854775807):=by
 cases h with
 |mk j k b c ht d f g ks hl l m o p=>exact⟨ht,d,f,g,b,c⟩
end
def ij(w:World):Prop:=Lib.Utf8Tabs 0 1 w
theorem ij.fr{j:List Nat}{w c:World}(h:ij w)(k:Fr j w c)(hs:∀b,b<2→b∉j):ij c:=by
 have d:∀b f g,b<2→w.cell? ⟨b,f,none⟩=some g→c.cell? ⟨b,f,none⟩=some g:=fun b f g l hc=>k.cell hc (hs b l)
 exact⟨fun m hc=>d _ _ _ Ah (h.1 m hc),fun i hi=>⟨d _ _ _ Ah (h.2 i hi).1,d _ _ _ Ah (h.2 i hi).2⟩⟩
theorem ij.g{w b:World}(h:ij w)(c:ij w→ij b:=by exact Gq):ij b:=c h
def V.kind:V→Int| .mk kind _ _ _ _ _=>kind
theorem tK:∀b:List UInt8,Op.bytesLess b b=false
 |[]=>rfl
 |a::b=>by simp[Op.bytesLess,tK b]
def Ei(w:World)(B:Nat)(a:Option Addr)(keys:List ByteArray):Prop:=∀k (hk:k<keys.length),∃b o,a=some ⟨b,o,none⟩∧b<B∧w.cell? ⟨b,o+k*1,none⟩=some (.string keys[k])∧keys[k].size≤140737488351232
theorem Ei.fr{c:List Nat}{w d:World}{B:Nat}{a:Option Addr}{keys:List ByteArray}(h:Ei w B a keys)(f:Fr c w d)(hs:∀b,b<B→b∉c):Ei d B a keys:=
 fun g hk=>let⟨b,o,h1,h2,h3,h4⟩:=h g hk;⟨b,o,h1,h2,f.cell h3 (hs b h2),h4⟩
theorem Ei.g{w b:World}{B:Nat}{a:Option Addr}{keys:List ByteArray}(h:Ei w B a keys)(c:Ei w B a keys→Ei b B a keys:=by exact Gq):Ei b B a keys:=c h
theorem RV.keys{w:World}{B:Nat}{kind half:Int}{text:ByteArray}{list:List V}{keys:List ByteArray}{vals:List V}{la ka va:Option Addr}{ln kn vn lc kc vc:Nat}(h:RV w B (.mk kind half text list keys vals) #[.int .i64 kind,.int .i64 half,.string text,.slice la ln lc,.slice ka kn kc,.slice va vn vc]):Ei w B ka keys:=
 fun b hk=>h.z1 hk
def y5(w:World)(B:Nat)(a:Option Addr)(list:List V):Prop:=∀k (hk:k<list.length),∃b o cl,a=some ⟨b,o,none⟩∧b<B∧hB w b (o+k*6) cl∧cl.size=6∧RV w B list[k] cl
theorem y5.fr{c:List Nat}{w d:World}{B:Nat}{a:Option Addr}{list:List V}(h:y5 w B a list)(f:Fr c w d)(hs:∀b,b<B→b∉c):y5 d B a list:=
 fun g hk=>let⟨b,o,cl,h1,h2,h3,h4,h5⟩:=h g hk;⟨b,o,cl,h1,h2,h3.fr f (hs b h2),h4,h5.fr f hs⟩
theorem y5.g{w b:World}{B:Nat}{a:Option Addr}{list:List V}(h:y5 w B a list)(c:y5 w B a list→y5 b B a list:=by exact Gq):y5 b B a list:=c h
section
variable{w:World}{B:Nat}{kind half:Int}{text:ByteArray}{list:List V}{keys:List ByteArray}{vals:List V}{la ka va:Option Addr}{ln kn vn lc kc vc:Nat}
theorem RV.lists(h:RV w B (.mk kind half text list keys vals) #[.int .i64 kind,.int .i64 half,.string text,.slice la ln lc,.slice ka kn kc,.slice va vn vc]):y5 w B la list:=fun b hk=>h.elem hk
theorem RV.Ik(h:RV w B (.mk kind half text list keys vals) #[.int .i64 kind,.int .i64 half,.string text,.slice la ln lc,.slice ka kn kc,.slice va vn vc]):y5 w B va vals:=fun b hk=>h.Ia hk
end
def hT(w:World)(D:Nat→Prop)(a:Option Addr)(n sz:Nat)(cl:Nat→Array Value):Prop:=
 ∀i,i<n→∃b o,a=some ⟨b,o,none⟩∧D b∧hB w b (o+i*sz) (cl i)∧(cl i).size=sz
theorem hT.fr{c:List Nat}{w d:World}{D:Nat→Prop}{a:Option Addr}{n f:Nat}{g:Nat→Array Value}(h:hT w D a n f g)(j:Fr c w d)(hs:∀b,D b→b∉c):hT d D a n f g:=
 fun i hi=>let⟨b,o,h1,h2,h3,h4⟩:=h i hi;⟨b,o,h1,h2,h3.fr j (hs b h2),h4⟩
theorem hT.g{w d:World}{D:Nat→Prop}{a:Option Addr}{n b:Nat}{c:Nat→Array Value}(h:hT w D a n b c)(f:hT w D a n b c→hT d D a n b c:=by exact Gq):hT d D a n b c:=f h
theorem hT.mono{w:World}{D D':Nat→Prop}{a:Option Addr}{n c:Nat}{d:Nat→Array Value}(h:hT w D a n c d)(f:∀b,D b→D' b):hT w D' a n c d:=
 fun i hi=>let⟨b,o,h1,h2,h3,h4⟩:=h i hi;⟨b,o,h1,f b h2,h3,h4⟩
theorem hT.str{w:World}{D:Nat→Prop}{a:Option Addr}{b:List ByteArray}(h:hT w D a b.length 1 (strCells b)){i:Nat}(hi:i<b.length):
  ∃c d,a=some ⟨c,d,none⟩∧D c∧w.cell? ⟨c,d+i*1,none⟩=some (.string b[i]):=by
 obtain⟨c,d,h1,h2,f,_⟩:=h i hi
 refine⟨c,d,h1,h2,?_⟩
 have:=f.cell 0 (v:=.string b[i]) (by simp[strCells,TL,hi])
 simpa using this
theorem hT.zx{w:World}{D:Nat→Prop}{c:Nat}{a:Option Addr}{n d:Nat}{f:Nat→Array Value}(h:hT w D a n d f)(g:∀b,D b→b<c):Row w c a n d f:=
 fun i hi=>let⟨b,o,h1,h2,h3,h4⟩:=h i hi;⟨b,o,h1,g b h2,h3,h4⟩
inductive j3(w:World)(D:Nat→Prop):V→Array Value→Prop
 |mk {kind half:Int} {text:ByteArray} {list:List V} {keys:List ByteArray} {vals:List V} {la ka va:Option Addr} {lc kc vc:Nat} (cl cv:Nat→Array Value)
   (hk: -9223372036854775808≤kind∧kind≤9223372036854775807) (hh: -9223372036854775808≤half∧half≤9223372036854775807) (ht:text.size≤140737488351232)
   (ln:list.length≤140737488351232) (kn:keys.length≤140737488351232) (vn:vals.length≤140737488351232) (ks:∀k∈keys,k.size≤140737488351232)
   (hl:hT w D la list.length 6 cl) (rl:∀(i:Nat)(h:i<list.length),j3 w D list[i] (cl i))
   (hks:hT w D ka keys.length 1 (strCells keys))
   (hv:hT w D va vals.length 6 cv) (rv:∀(i:Nat)(h:i<vals.length),j3 w D vals[i] (cv i)):
   j3 w D (.mk kind half text list keys vals) #[.int .i64 kind,.int .i64 half,.string text,.slice la list.length lc,.slice ka keys.length kc,.slice va vals.length vc]
theorem j3.fr{c:List Nat}{w d:World}{D:Nat→Prop}{f:V}{g:Array Value}(h:j3 w D f g)(b:Fr c w d)(hs:∀j,D j→j∉c):j3 d D f g:=by
 induction h with
 |mk k l hk m ht o p q ks hl y r t z u v=>exact .mk k l hk m ht o p q ks (hl.fr b hs) u (r.fr b hs) (t.fr b hs) v
theorem j3.g{w d:World}{D:Nat→Prop}{b:V}{c:Array Value}(h:j3 w D b c)(f:j3 w D b c→j3 d D b c:=by exact Gq):j3 d D b c:=f h
theorem j3.mono{w:World}{D D':Nat→Prop}{c:V}{d:Array Value}(h:j3 w D c d)(b:∀f,D f→D' f):j3 w D' c d:=by
 induction h with
 |mk g j hk k ht l m o ks hl u p q v r t=>exact .mk g j hk k ht l m o ks (hl.mono b) r (p.mono b) (q.mono b) t
theorem j3.size{w:World}{D:Nat→Prop}{c:V}{b:Array Value}(h:j3 w D c b):b.size=6:=by cases h;rfl
theorem j3.one{w:World}{D:Nat→Prop}{c:V}{b:Array Value}(h:j3 w D c b):b.all (·.oneCell')=true:=by cases h;simp[Value.oneCell']
theorem j3.zU{w:World}{D:Nat→Prop}{c:Nat}{d:V}{f:Array Value}(h:j3 w D d f)(b:∀g,D g→g<c):RV w c d f:=by
 induction h with
 |mk j k hk l ht m o p ks hl v q r y t u=>exact .mk j k hk l ht m o p ks (hl.zx b) t (q.zx b) (r.zx b) u
theorem RV.RW{w:World}{b:Nat}{c:V}{d:Array Value}(h:RV w b c d):j3 w (· <b) c d:=by
 induction h with
 |mk f g hk j ht k l m ks hl t o p u q r=>exact .mk f g hk j ht k l m ks hl q o p r
inductive N where
 |mk (op text:ByteArray) (val:V) (names:List ByteArray) (kids pats defs:List N)
mutual
def N.nodes:N→Nat
 | .mk _ _ _ _ kids pats defs=>1+N.iy kids+N.iy pats+N.iy defs
def N.iy:List N→Nat
 |[]=>0
 |v::r=>v.nodes+N.iy r
end
theorem N.kh(b:N):1≤b.nodes:=by cases b;simp only[N.nodes];omega
theorem N.jo{l:List N}{k:Nat}(h:k<l.length):l[k].nodes≤N.iy l:=by
 induction l generalizing k with
 |nil=>cases h
 |cons c l b=>
  cases k with
  |zero=>simp[N.iy]
  |succ k=>have:=b (k:=k) AU;simp only[TZ,N.iy];omega
inductive RN(w:World)(D:Nat→Prop):Nat→N→Array Value→Prop
 |q {op text:ByteArray} {val:V} {names:List ByteArray} {kids pats defs:List N} {ka na pa da:Option Addr} {kc nc pc dc:Nat} {v0 v1 v2 v3 v4 v5:Value} (ck cp cd:Nat→Array Value)
   (ho:op.size≤140737488351232) (ht:text.size≤140737488351232) (hv:j3 w D val #[v0,v1,v2,v3,v4,v5])
   (kn:kids.length≤140737488351232) (nn:names.length≤140737488351232) (pn:pats.length≤140737488351232) (dn:defs.length≤140737488351232) (ns:∀s∈names,s.size≤140737488351232)
   (hk:hT w D ka kids.length 12 ck) (rk:∀(i:Nat)(h:i<kids.length),RN w D 0 kids[i] (ck i)) (hn:hT w D na names.length 1 (strCells names))
   (hp:hT w D pa pats.length 4 cp) (rp:∀(i:Nat)(h:i<pats.length),RN w D 1 pats[i] (cp i)) (hd:hT w D da defs.length 14 cd) (rd:∀(i:Nat)(h:i<defs.length),RN w D 2 defs[i] (cd i)) (hkc:kids.length≤kc):
   RN w D 0 (.mk op text val names kids pats defs) #[.string op,.string text,v0,v1,v2,v3,v4,v5,.slice ka kids.length kc,.slice na names.length nc,.slice pa pats.length pc,.slice da defs.length dc]
 |p {op text:ByteArray} {val:V} {names:List ByteArray} {kids pats defs:List N} {ka pa:Option Addr} {kc pc:Nat} (ck cp:Nat→Array Value) (ho:op.size≤140737488351232) (ht:text.size≤140737488351232)
   (kn:kids.length≤140737488351232) (pn:pats.length≤140737488351232)
   (hk:hT w D ka kids.length 12 ck) (rk:∀(i:Nat)(h:i<kids.length),RN w D 0 kids[i] (ck i)) (hp:hT w D pa pats.length 4 cp) (rp:∀(i:Nat)(h:i<pats.length),RN w D 1 pats[i] (cp i)):
   RN w D 1 (.mk op text val names kids pats defs) #[.string op,.string text,.slice ka kids.length kc,.slice pa pats.length pc]
 |d {op text:ByteArray} {val:V} {names:List ByteArray} {body:N} {pats defs:List N} {na:Option Addr} {nc:Nat} {b0 b1 b2 b3 b4 b5 b6 b7 b8 b9 b10 b11:Value} (ht:text.size≤140737488351232)
   (nn:names.length≤140737488351232) (ns:∀s∈names,s.size≤140737488351232) (hn:hT w D na names.length 1 (strCells names)) (hb:RN w D 0 body #[b0,b1,b2,b3,b4,b5,b6,b7,b8,b9,b10,b11]):
   RN w D 2 (.mk op text val names [body] pats defs) #[.string text,.slice na names.length nc,b0,b1,b2,b3,b4,b5,b6,b7,b8,b9,b10,b11]
theorem RN.fr{y:List Nat}{w z:World}{D:Nat→Prop}{k:Nat}{A:N}{B:Array Value}(h:RN w D k A B)(b:Fr y w z)(hs:∀C,D C→C∉y):RN z D k A B:=by
 induction h with
 |q c f E g ht F j l m G o hk H r t I J M hkc u v K=>exact .q c f E g ht (F.fr b hs) j l m G o (hk.fr b hs) u (r.fr b hs) (t.fr b hs) v (J.fr b hs) K hkc
 |p c f g ht j m hk H t I u v=>exact .p c f g ht j m (hk.fr b hs) u (t.fr b hs) v
 |d ht l o r O L=>exact .d ht l o (r.fr b hs) L
theorem RN.g{w d:World}{D:Nat→Prop}{k:Nat}{b:N}{c:Array Value}(h:RN w D k b c)(f:RN w D k b c→RN d D k b c:=by exact Gq):RN d D k b c:=f h
theorem RN.mono{w:World}{D D':Nat→Prop}{k:Nat}{y:N}{z:Array Value}(h:RN w D k y z)(b:∀A,D A→D' A):RN w D' k y z:=by
 induction h with
 |q c f B g ht C j l m E o hk F r t G H K hkc u v I=>exact .q c f B g ht (C.mono b) j l m E o (hk.mono b) u (r.mono b) (t.mono b) v (H.mono b) I hkc
 |p c f g ht j m hk F t G u v=>exact .p c f g ht j m (hk.mono b) u (t.mono b) v
 |d ht l o r L J=>exact .d ht l o (r.mono b) J
theorem RN.hA{w:World}{D:Nat→Prop}{c:N}{b:Array Value}(h:RN w D 0 c b):b.size=12:=by cases h;rfl
theorem RN.jc{w:World}{D:Nat→Prop}{c:N}{b:Array Value}(h:RN w D 1 c b):b.size=4:=by cases h;rfl
theorem RN.nR{w:World}{D:Nat→Prop}{c:N}{b:Array Value}(h:RN w D 2 c b):b.size=14:=by cases h;rfl
theorem j3.O3{w:World}{D:Nat→Prop}{b:V}{v0 v1 v2 v3 v4 v5:Value}(h:j3 w D b #[v0,v1,v2,v3,v4,v5]):v0.oneCell'=true∧v1.oneCell'=true∧v2.oneCell'=true∧v3.oneCell'=true∧v4.oneCell'=true∧v5.oneCell'=true:=by
 cases h;exact⟨rfl,rfl,rfl,rfl,rfl,rfl⟩
theorem RN.one{w:World}{D:Nat→Prop}{k:Nat}{f:N}{b:Array Value}(h:RN w D k f b):b.all (·.oneCell')=true:=by
 induction h with
 |q g j H l ht m o r t I u hk v y z A J K hkc B C L=>
  obtain⟨h0,h1,h2,E,F,G⟩:=m.O3
  simp only[Vp,Vw,VW,VG,h0,h1,h2,E,F,G];rfl
 |p g j l ht o t hk v z A B C=>simp[Value.oneCell']
 |d ht r u y M c=>
  simp only[Vp,Vw,VW,VG,Value.oneCell',VH]at c⊢;exact c
section
variable{w:World}{D:Nat→Prop}{op text op' text':ByteArray}{val:V}{names:List ByteArray}{kids pats defs:List N}{ka na pa da:Option Addr}{kl kc nl nc pl pc dl dc:Nat}{v0 v1 v2 v3 v4 v5:Value}
theorem RN.hI{b:Array Value}(h:RN w D 0 (.mk op text val names kids pats defs) b):
  ∃ka kc na nc pa pc da dc v0 v1 v2 v3 v4 v5,b=#[.string op,.string text,v0,v1,v2,v3,v4,v5,.slice ka kids.length kc,.slice na names.length nc,.slice pa pats.length pc,.slice da defs.length dc]:=by
 cases h;exact⟨_,_,_,_,_,_,_,_,_,_,_,_,_,_,rfl⟩
theorem RN.lH{b:Array Value}(h:RN w D 1 (.mk op text val names kids pats defs) b):∃ka kc pa pc,b=#[.string op,.string text,.slice ka kids.length kc,.slice pa pats.length pc]:=by
 cases h;exact⟨_,_,_,_,rfl⟩
theorem RN.hV(h:RN w D 0 (.mk op text val names kids pats defs) #[.string op',.string text',v0,v1,v2,v3,v4,v5,.slice ka kl kc,.slice na nl nc,.slice pa pl pc,.slice da dl dc]):op.size≤140737488351232∧text.size≤140737488351232∧kids.length≤140737488351232∧names.length≤140737488351232∧pats.length≤140737488351232∧defs.length≤140737488351232:=by
 cases h with
 |q j k l b ht m c d f g o hk p r t u v y hkc=>exact⟨b,ht,c,d,f,g⟩
theorem RN.oM(h:RN w D 0 (.mk op text val names kids pats defs) #[.string op',.string text',v0,v1,v2,v3,v4,v5,.slice ka kl kc,.slice na nl nc,.slice pa pl pc,.slice da dl dc]):j3 w D val #[v0,v1,v2,v3,v4,v5]:=by
 cases h with
 |q c d f g ht b j k l m o hk p r t u v y hkc=>exact b
theorem RN.kF(h:RN w D 0 (.mk op text val names kids pats defs) #[.string op',.string text',v0,v1,v2,v3,v4,v5,.slice ka kl kc,.slice na nl nc,.slice pa pl pc,.slice da dl dc]){i:Nat}(hi:i<kids.length):
  ∃b c d,ka=some ⟨b,c,none⟩∧D b∧hB w b (c+i*12) d∧d.size=12∧RN w D 0 kids[i] d:=by
 cases h with
 |q f l m o ht p r t u v y hk g z A B C E hkc=>
  obtain⟨b,c,h1,h2,j,k⟩:=hk i hi
  exact⟨b,c,f i,h1,h2,j,k,g i hi⟩
theorem RN.pat(h:RN w D 0 (.mk op text val names kids pats defs) #[.string op',.string text',v0,v1,v2,v3,v4,v5,.slice ka kl kc,.slice na nl nc,.slice pa pl pc,.slice da dl dc]){i:Nat}(hi:i<pats.length):
  ∃b c d,pa=some ⟨b,c,none⟩∧D b∧hB w b (c+i*4) d∧d.size=4∧RN w D 1 pats[i] d:=by
 cases h with
 |q m f o p ht r t u v y z hk A B g j C E hkc=>
  obtain⟨b,c,h1,h2,k,l⟩:=g i hi
  exact⟨b,c,f i,h1,h2,k,l,j i hi⟩
theorem RN.NJ(h:RN w D 0 (.mk op text val names kids pats defs) #[.string op',.string text',v0,v1,v2,v3,v4,v5,.slice ka kl kc,.slice na nl nc,.slice pa pl pc,.slice da dl dc]){i:Nat}(hi:i<defs.length):
  ∃b c d,da=some ⟨b,c,none⟩∧D b∧hB w b (c+i*14) d∧d.size=14∧RN w D 2 defs[i] d:=by
 cases h with
 |q m o f p ht r t u v y z hk A B C E g j hkc=>
  obtain⟨b,c,h1,h2,k,l⟩:=g i hi
  exact⟨b,c,f i,h1,h2,k,l,j i hi⟩
theorem RN.name(h:RN w D 0 (.mk op text val names kids pats defs) #[.string op',.string text',v0,v1,v2,v3,v4,v5,.slice ka kl kc,.slice na nl nc,.slice pa pl pc,.slice da dl dc]){i:Nat}(hi:i<names.length):
  ∃b c,na=some ⟨b,c,none⟩∧D b∧w.cell? ⟨b,c+i*1,none⟩=some (.string names[i])∧names[i].size≤140737488351232:=by
 cases h with
 |q j k l m ht o p r t u d hk v f y z A B hkc=>
  obtain⟨b,c,h1,h2,g⟩:=f.str hi
  exact⟨b,c,h1,h2,g,d _ (T2 hi)⟩
theorem RN.qp(h:RN w D 0 (.mk op text val names kids pats defs) #[.string op',.string text',v0,v1,v2,v3,v4,v5,.slice ka kl kc,.slice na nl nc,.slice pa pl pc,.slice da dl dc]):hT w D na names.length 1 (strCells names):=by
 cases h with
 |q c d f g ht j k l m o p hk r b t u v y hkc=>exact b
theorem RN.G9(h:RN w D 1 (.mk op text val names kids pats defs) #[.string op',.string text',.slice ka kl kc,.slice pa pl pc]){i:Nat}(hi:i<kids.length):
  ∃b c d,ka=some ⟨b,c,none⟩∧D b∧hB w b (c+i*12) d∧d.size=12∧RN w D 0 kids[i] d:=by
 cases h with
 |p f l m ht o q hk g r t=>
  obtain⟨b,c,h1,h2,j,k⟩:=hk i hi
  exact⟨b,c,f i,h1,h2,j,k,g i hi⟩
theorem RN.Dz(h:RN w D 1 (.mk op text val names kids pats defs) #[.string op',.string text',.slice ka kl kc,.slice pa pl pc]){i:Nat}(hi:i<pats.length):
  ∃b c d,pa=some ⟨b,c,none⟩∧D b∧hB w b (c+i*4) d∧d.size=4∧RN w D 1 pats[i] d:=by
 cases h with
 |p m f o ht q r hk t g j=>
  obtain⟨b,c,h1,h2,k,l⟩:=g i hi
  exact⟨b,c,f i,h1,h2,k,l,j i hi⟩
theorem RN.nw(h:RN w D 1 (.mk op text val names kids pats defs) #[.string op',.string text',.slice ka kl kc,.slice pa pl pc]):op.size≤140737488351232∧text.size≤140737488351232∧kids.length≤140737488351232∧pats.length≤140737488351232:=by
 cases h with
 |p f g b ht c d hk j k l=>exact⟨b,ht,c,d⟩
end
theorem RN.mv{w:World}{D:Nat→Prop}{op text op' text':ByteArray}{val:V}{names:List ByteArray}{kids pats defs:List N}{ka na pa da:Option Addr}{kl kc nl nc pl pc dl dc:Nat}{v0 v1 v2 v3 v4 v5:Value}(h:RN w D 0 (.mk op text val names kids pats defs) #[.string op',.string text',v0,v1,v2,v3,v4,v5,.slice ka kl kc,.slice na nl nc,.slice pa pl pc,.slice da dl dc]):∃b,hT w D ka kids.length 12 b∧(∀(i:Nat)(h:i<kids.length),RN w D 0 kids[i] (b i))∧kids.length≤kc:=by
 cases h with
 |q c f g j ht k l m o p r hk d t u v y z hkc=>exact⟨c,hk,d,hkc⟩
theorem RN.wj{w:World}{D:Nat→Prop}{op text op' text':ByteArray}{val:V}{names:List ByteArray}{kids pats defs:List N}{ka na pa da:Option Addr}{kl kc nl nc pl pc dl dc:Nat}{v0 v1 v2 v3 v4 v5:Value}(h:RN w D 0 (.mk op text val names kids pats defs) #[.string op',.string text',v0,v1,v2,v3,v4,v5,.slice ka kl kc,.slice na nl nc,.slice pa pl pc,.slice da dl dc]):∃b,hT w D pa pats.length 4 b∧(∀(i:Nat)(h:i<pats.length),RN w D 1 pats[i] (b i)):=by
 cases h with
 |q g c j k ht l m o p r t hk u v d f y z hkc=>exact⟨c,d,f⟩
theorem RN.Gu{w:World}{D:Nat→Prop}{op text op' text':ByteArray}{val:V}{names:List ByteArray}{kids pats defs:List N}{ka pa:Option Addr}{kl kc pl pc:Nat}(h:RN w D 1 (.mk op text val names kids pats defs) #[.string op',.string text',.slice ka kl kc,.slice pa pl pc]):∃b,hT w D pa pats.length 4 b∧(∀(i:Nat)(h:i<pats.length),RN w D 1 pats[i] (b i)):=by
 cases h with
 |p g c j ht k l hk m d f=>exact⟨c,d,f⟩
theorem ja{w:World}{b d:Nat}{l:List ByteArray}(f:w.heap[b]? =some (.cells (l.map Value.string).toArray d (0,0))):hT w (fun g=>g=b) (some ⟨b,0,none⟩) l.length 1 (strCells l):=by
 intro i hi
 refine⟨b,0,rfl,rfl,fun c hj=>?_,rfl⟩
 have j:c=0:=by have:c<1:=hj;omega
 subst j
 have:w.cell? ⟨b,i,none⟩=some (.string l[i]):=jm f (by simp[hi])
 rw[show 0+i*1+0=i by omega,this]
 simp[strCells,hi]
theorem RV.lt{w:World}{B b:Nat}{c:V}{d:Array Value}(h:RV w B c d)(f:B≤b):RV w b c d:=h.RW.zU (fun j h=>Tj h f)
def hS(css:List (Array Value)):List Value:=css.flatMap (·.toList)
theorem ra(css:List (Array Value))(b:Array Value):hS (css++[b])=hS css++b.toList:=by simp[hS]
theorem mg{sz:Nat}:∀{css:List (Array Value)},(∀b∈css,b.size=sz)→∀(i c:Nat)(hi:i<css.length),c<sz→(hS css)[i*sz+c]? =css[i][c]?
 |[],_,i,c,hi,_=>by cases hi
 |b::css,h,i,c,hi,hj=>by
  have hc:b.size=sz:=h b Al
  have d:b.toList.length=sz:=by simpa using hc
  cases i with
  |zero=>
   simp only[hS,US,Nat.zero_mul,T9,TF]
   rw[UB Ac];simp
  |succ i=>
   have:=mg (sz:=sz) (css:=css) (fun b hc=>h b (by simp[hc])) i c A3 hj
   simp only[hS]at this
   simp only[hS,US,TZ]
   rw[Uy (by rw[d,VB];omega),d,←this]
   congr 1
   rw[VB];omega
theorem ju{sz:Nat}:∀{css:List (Array Value)},(∀b∈css,b.size=sz)→(hS css).length=css.length*sz
 |[],_=>by simp[hS]
 |b::css,h=>by
  have hc:b.toList.length=sz:=by simpa using h b Al
  have:=ju (sz:=sz) (css:=css) (fun b hc=>h b (by simp[hc]))
  simp only[hS]at this
  simp only[hS,US,Tl,To,this,hc]
  rw[VB];omega
theorem qQ{w:World}{B e b n:Nat}{d:Value}{css:List (Array Value)}(h:w.ownsRow B e b d n (hS css))(hs:∀f∈css,f.size=b)(t:css.length=n)(u:0<b):
  ∃a f,d=.slice a n f∧hT w (fun j=>d.ownBlock=some j) a n b (fun i=>css.getD i #[]):=by
 obtain⟨a,q,rfl,hl,hc⟩:=kg h
 refine⟨a,q,rfl,fun i hi=>?_⟩
 obtain⟨j,rfl,v,y,r⟩:=hc i hi
 have c:i<css.length:=by omega
 have o:css[i].size=b:=hs _ (T2 c)
 refine⟨j,0,rfl,rfl,fun m hj=>?_,by simp[TL,c,o]⟩
 have p:m<b:=by simpa[TL,c,o]using hj
 have:=r m p
 rw[mg hs i m c p]at this
 simp only[TL,TP c,Vo,T9]
 exact this
structure lV(w:World)(VT B H:Nat)(X:Nat→Prop)(l:List V)(k:Nat)(sl:Value)(css:List (Array Value)):Prop where
 len:css.length=k
 own:w.ownsRow B VT 6 sl k (hS css)
 lt:∀b,sl.ownBlock=some b→b<H∧¬X b
 xk:∀c∈css,c.size=6
 rv:∀(i:Nat)(h1:i<css.length)(h2:i<l.length),j3 w (fun b=>B≤b∧b<H∧sl.ownBlock≠some b∧¬X b) l[i] css[i]
section
variable{S:List Nat}{w w':World}{VT B H k:Nat}{X:Nat→Prop}{l:List V}{sl:Value}{css:List (Array Value)}
theorem lV.nil(w:World)(VT B H:Nat)(X:Nat→Prop)(l:List V):lV w VT B H X l 0 Zl []:=
 ⟨rfl,World.ownsRow_nil _ _ _ _,(fun b h=>by simp[Value.ownBlock]at h),(fun c h=>by cases h),(fun i h=>by cases h)⟩
theorem lV.fr(h:lV w VT B H X l k sl css)(d:Fr S w w')(hs:∀b∈S,b<B∨H≤b∨X b):lV w' VT B H X l k sl css:=by
 refine⟨h.len,kX h.own d (fun b c f=>?_),h.lt,h.xk,fun i h1 h2=>(h.rv i h1 h2).fr d (fun b c j=>?_)⟩
 ·have h1:=h.lt b f
  have h2:=(ik h.own b (hF.2 f)).1
  rcases hs b c with h|h|h
  ·omega
  ·omega
  exact h1.2 h
 rcases hs b j with h|h|h
 ·omega
 ·omega
 exact c.2.2.2 h
theorem lV.g(h:lV w VT B H X l k sl css)(b:lV w VT B H X l k sl css→lV w' VT B H X l k sl css:=by exact Gq):lV w' VT B H X l k sl css:=b h
theorem lV.up{d:Nat}(h:lV w VT B H X l k sl css)(f:H≤d):lV w VT B d X l k sl css:=
 ⟨h.len,h.own,fun c b=>⟨Tj (h.lt c b).1 f,(h.lt c b).2⟩,h.xk,fun i h1 h2=>(h.rv i h1 h2).mono (fun c b=>⟨b.1,Tj b.2.1 f,b.2.2⟩)⟩
theorem lV.snoc{d:Value}{ce:Array Value}(h:lV w VT B H X l k sl css)(hk:k<l.length)(z:H≤w.heap.size)
  (m:j3 w (fun b=>B≤b∧b<w.heap.size∧sl.ownBlock≠some b∧¬X b) l[k] ce) (t:¬X w.heap.size) (f:Fr (hX sl) w w') (o:w'.ownsRow B VT 6 d (k+1) (hS css++ce.toList)) (p:d.ownBlock=sl.ownBlock∨d.ownBlock=some w.heap.size):
  lV w' VT B w'.heap.size X l (k+1) d (css++[ce]):=by
 have A:=f.size
 have q:∀b,b<w.heap.size→sl.ownBlock≠some b→d.ownBlock≠some b:=fun b c u=>by
  rcases p with h1|h1
  ·rw[h1];exact u
  rw[h1];intro h2;cases h2;omega
 refine⟨by simp[h.len],by rw[ra];exact o,fun b c=>⟨(ik o b (hF.2 c)).2,?_⟩,fun v hc=>?_,fun i h1 h2=>?_⟩
 ·rcases p with h1|h1
  ·exact(h.lt b (h1▸c)).2
  rw[h1]at c;cases c;exact t
 ·rcases Uc.1 hc with hc|hc
  ·exact h.xk v hc
  rw[Tt.1 hc];exact m.size
 by_cases r:i<css.length
 ·have e:(css++[ce])[i]=css[i]:=TC r
  rw[e]
  refine((h.rv i r h2).fr f (fun b c j=>c.2.2.1 (hF.1 j))).mono (fun b c=>⟨c.1,Ac,q b Ac c.2.2.1,c.2.2.2⟩)
 have y:i=k:=by simp only[Tl,TG]at h1;have:=h.len;omega
 subst y
 have e:(css++[ce])[i]=ce:=by rw[Tz Ac];simp[h.len]
 rw[e]
 exact(m.fr f (fun b c j=>c.2.2.1 (hF.1 j))).mono (fun b c=>⟨c.1,Ac,q b Ac c.2.2.1,c.2.2.2⟩)
theorem lV.done(h:lV w VT B H X l l.length sl css):
  ∃a d,sl=.slice a l.length d∧hT w (fun b=>B≤b∧b<H) a l.length 6 (fun i=>css.getD i #[])∧∀(i:Nat)(hi:i<l.length),j3 w (fun b=>B≤b∧b<H) l[i] (css.getD i #[]):=by
 obtain⟨a,d,j,m⟩:=qQ h.own h.xk h.len Ah
 refine⟨a,d,j,m.mono (fun b c=>⟨(ik h.own b (hF.2 c)).1,(h.lt b c).1⟩),fun i hi=>?_⟩
 have f:i<css.length:=by rw[h.len];exact hi
 have e:css.getD i #[]=css[i]:=by simp[TL,f]
 rw[e]
 exact(h.rv i f hi).mono (fun b c=>⟨c.1,c.2.1⟩)
theorem lV.one(h:lV w VT B H X l k sl css):sl.oneCell'=true:=by
 obtain⟨a,b,rfl,_⟩:=kg h.own;rfl
end
structure KV(w:World)(VT St B H:Nat)(keys:List ByteArray)(k1:Nat)(iC:Value)(vals:List V)(k2:Nat)(slv:Value)(css:List (Array Value)):Prop where
 ko:w.ownsRow B St 1 iC k1 ((keys.take k1).map Value.string)
 kl:∀b,iC.ownBlock=some b→b<H
 vo:lV w VT B H (fun b=>iC.ownBlock=some b) vals k2 slv css
section
variable{S:List Nat}{w w':World}{VT St B H k1 k2:Nat}{keys:List ByteArray}{iC slv slk' slv':Value}{vals:List V}{css:List (Array Value)}{ce:Array Value}
theorem KV.nil(w:World)(VT St B H:Nat)(keys:List ByteArray)(vals:List V):KV w VT St B H keys 0 Zl vals 0 Zl []:=
 ⟨World.ownsRow_nil _ _ _ _,(fun b h=>by simp[Value.ownBlock]at h),lV.nil _ _ _ _ _ _⟩
theorem KV.fr(h:KV w VT St B H keys k1 iC vals k2 slv css)(d:Fr S w w')(hs:∀b∈S,b<B∨H≤b):KV w' VT St B H keys k1 iC vals k2 slv css:=by
 refine⟨kX h.ko d (fun b c f=>?_),h.kl,h.vo.fr d (fun b c=>by rcases hs b c with h|h;exact Ts h;exact Tk (Ts h))⟩
 have h1:=h.kl b f
 have h2:=(ik h.ko b (hF.2 f)).1
 have:=hs b c
 omega
theorem KV.g(h:KV w VT St B H keys k1 iC vals k2 slv css)(b:KV w VT St B H keys k1 iC vals k2 slv css→KV w' VT St B H keys k1 iC vals k2 slv css:=by exact Gq):KV w' VT St B H keys k1 iC vals k2 slv css:=b h
theorem KV.up{b:Nat}(h:KV w VT St B H keys k1 iC vals k2 slv css)(c:H≤b):KV w VT St B b keys k1 iC vals k2 slv css:=
 ⟨h.ko,fun d f=>Tj (h.kl d f) c,h.vo.up c⟩
end
namespace D
section
variable{P:Program}{n:Nat}{e:Env}{w:World}{ops rest:List Oper}{K:Env→World→Prop}{ty:TypeId}{pos:String}{af:Array Edge}{g:Option (Nat×Bool)}
theorem DL.hJ{s x:Operand}{j m f p q B d u N b r:Nat}{v:Value}{t:List Value}{news:Array Value}(y:hU ops e g)(z:Nat.blt q n)(ht:lR P j m f p)(hs:ev e s=v)(hx:ev e x=.slice (some ⟨b,r,none⟩) d u)
  (A:w.ownsRow B m f v N t) (C:hB w b r news) (hl:news.size=d*f) (h1:news.all (·.oneCell')) (hby:(N+d)*p≤140737488355328) (D:N+d≤9223372036854775807) (E:B≤w.heap.size)
  (k:∀c w',Fr (hX v) w w'→w'.ownsRow B m f c (N+d) (t++news.toList)→(c.ownBlock=v.ownBlock∨c.ownBlock=some w.heap.size)→DL P n ops rest (jZ e q c) w' K):
  DL P n ops (⟨some q,.call ⟨.builtin .append,#[s,x],#[j,j]⟩,ty,pos,af,g⟩::rest) e w K:=by
 obtain⟨i,F,k1,k2,G,I,J,L,M,W⟩:=kj ht
 obtain⟨c,w',hrun,O,Q,_,R⟩:=run_append_own_at (P:=P) w B j ty m i F f p k1 k2 J G I L M v N t A ⟨b,r,none⟩ d u news.toList Bo
  (fun o T hj=>by
   have U:o<news.size:=by have:=(UK.1 hj).1;simpa using this
   have:=C o U
   rw[kt,this,←hj];simp)
  (fun T hu=>by
   obtain⟨o,hj,rfl⟩:=T0 hu
   have:=VU.1 h1 o B1
   simpa using this) (by simp only[maxLen];exact D) hby E
 refine DL.run y z (v:=c) ?_ (k c w' (mo Q) O R)
 simp[execOp,resolve,Go.invoke,builtin,hs,hx,hrun]
end
end D
theorem sw(a b:List (Array Value)):hS (a++b)=hS a++hS b:=by simp[hS]
theorem jL{cl:Nat→Array Value}{b c:Nat}(hs:∀i,i<b→(cl i).size=c){i j:Nat}(hi:i<b)(hj:j<c):(hS ((List.range b).map cl))[i*c+j]? =(cl i)[j]? :=by
 have h:=mg (sz:=c) (css:=(List.range b).map cl) (fun d hc=>by obtain⟨i,hi,rfl⟩:=U3.1 hc;exact hs i (UH.1 hi)) i j A3 hj
 simpa using h
namespace D
section
variable{P:Program}{n:Nat}{e:Env}{w:World}{ops rest:List Oper}{K:Env→World→Prop}{ty:TypeId}{pos:String}{af:Array Edge}{g:Option (Nat×Bool)}
theorem nM(d:Nat)(b ty e:TypeId)(i:TypeInfo)(f j:Nat)(ht:P.underlying b=some (.slice e))(hi:P.info? e=some i)(c:Value)(n:Nat)(k:List Value)(l:w.ownsRow d e f c n k):
  (Builtin.append_ #[b,b] ty #[c,.slice none 0 j]).run P w=.ok c w:=by
 rcases l.2 with⟨rfl,rfl⟩|⟨g,o,p,rfl,_,_,m,_⟩
 ·simp[Builtin.append_,run_underlying ht,sizeOf,typeInfo,hi,Builtin.lenOf,Builtin.firstCells]
 simp[Builtin.append_,run_underlying ht,sizeOf,typeInfo,hi,Builtin.lenOf,Builtin.firstCells,m,storeCells]
theorem DL.nD{s x:Operand}{l m c u y o d p N:Nat}{a:Option Addr}{v:Value}{css:List (Array Value)}{j:Nat→Array Value}(B:hU ops e g)(C:Nat.blt y n)(ht:lR P l m c u)(hs:ev e s=v)(hx:ev e x=.slice a d p)
  (z:w.ownsRow o m c v N (hS css)) (q:∀i,i<d→∃b r,a=some ⟨b,r,none⟩∧hB w b (r+i*c) (j i)∧(j i).size=c∧(j i).all (·.oneCell')=true) (hby:(N+d)*u≤140737488355328) (A:N+d≤9223372036854775807) (J:o≤w.heap.size)
  (D:∀k w',Fr (hX v) w w'→w'.ownsRow o m c k (N+d) (hS (css++(List.range d).map j))→(k.ownBlock=v.ownBlock∨k.ownBlock=some w.heap.size)→DL P n ops rest (jZ e y k) w' K):
  DL P n ops (⟨some y,.call ⟨.builtin .append,#[s,x],#[l,l]⟩,ty,pos,af,g⟩::rest) e w K:=by
 obtain⟨i,L,E,F,M,O,Q,R,G,ae⟩:=kj ht
 have H:∀i,i<d→(j i).size=c:=fun i hi=>let⟨_,_,_,_,h,_⟩:=q i hi;h
 cases a with
 |none=>
  have S:d=0:=by
   rcases Ur d with h|h
   ·exact h
   obtain⟨b,r,h1,_⟩:=q 0 h;cases h1
  subst S
  refine DL.run B C (v:=v) (w':=w) ?_ (D v w (Fr.refl _ _) (by simpa using z) (Ts rfl))
  simp[execOp,resolve,Go.invoke,builtin,hs,hx,nM o l ty m i c p E F v N (hS css) z]
 |some T=>
  have hlen:(hS ((List.range d).map j)).length=d*c:=by
   rw[ju (sz:=c) (fun p hc=>by obtain⟨i,hi,rfl⟩:=U3.1 hc;exact H i (UH.1 hi))]
   simp
  obtain⟨k,w',hrun,U,W,_,X⟩:=run_append_own_at (P:=P) w o l ty m i L c u E F Q M O R G v N (hS css) z T d p (hS ((List.range d).map j)) hlen
   (fun f Y hj=>by
    have Z:f<d*c:=by have:=(UK.1 hj).1;omega
    have hi:f/c<d:=Nat.div_lt_of_lt_mul (by rw[Vq];exact Z)
    have I:f%c<c:=Nat.mod_lt _ G
    have t:f=(f/c)*c+f%c:=by rw[Vq];exact(Nat.div_add_mod f c).symm
    obtain⟨b,r,h1,h2,aa,_⟩:=q _ hi
    cases h1
    rw[t,jL H hi I]at hj
    have:=h2 (f%c) (by rw[aa];exact I)
    rw[kt,t,←Vx,this]
    have ag:(f/c*c+f%c)/c=f/c:=by rw[←t]
    have ah:(f/c*c+f%c)%c=f%c:=by rw[←t]
    exact hj)
   (fun Y hu=>by
    obtain⟨p,hc,A⟩:=List.mem_flatMap.1 hu
    obtain⟨i,hi,rfl⟩:=U3.1 hc
    obtain⟨_,_,_,_,_,ab⟩:=q i (UH.1 hi)
    obtain⟨ac,ad,rfl⟩:=T0 A
    have:=VU.1 ab ac (by simpa using ad)
    simpa using this) (by simp only[maxLen];exact A) hby J
  refine DL.run B C (v:=k) ?_ (D k w' (mo W) (by rw[sw];exact U) X)
  simp[execOp,resolve,Go.invoke,builtin,hs,hx,hrun]
end
end D
namespace D
section
variable{P:Program}{e:Env}{w:World}{dst:Option Tmp}{ty:TypeId}{pos:String}{af:Array Edge}{g:Option (Nat×Bool)}
theorem Y.Pk{x y:Operand}{t u:TypeId}{k:IntKind}{a b c:Int}(hx:ev e x=.int k a)(d:ev e y=.int k b)(f:b≠0)(h:a.tmod b=c):Y P e ⟨dst,.binOp .rem t x y u,ty,pos,af,g⟩ w (.int k c):=by
 subst h;exact Y.rem hx d f
theorem Y.Mn{x:Operand}{s t:TypeId}{k k':IntKind}{a c:Int}(hs:(P.underlying s).isSome)(ht:P.underlying t=some (.int k'))(hx:ev e x=.int k a)(h:k'.wrap a=c):Y P e ⟨dst,.convert s t x,ty,pos,af,g⟩ w (.int k' c):=by
 subst h;exact Y.Dt hs ht hx
theorem Y.D6{x:Operand}{s t:Nat}{k:IntKind}{c:Int}{b:ByteArray}(hs:(P.underlying s).isSome)(ht:P.underlying t=some .string)(hx:ev e x=.int k c)(h:Utf8.encode c=b):Y P e ⟨dst,.convert s t x,ty,pos,af,g⟩ w (.string b):=by
 subst h;exact Y.FD hs ht hx
theorem DL.L8{n:Nat}{c f:List Oper}{j:Env→World→Prop}{x y:Operand}{l m d:Nat}{a b:ByteArray}(o:hU c e g)(p:Nat.blt d n)(hx:ev e x=.string a)(q:ev e y=.string b)(h:a.size+b.size≤9223372036854775807)
  (r:∀k:ByteArray,k.data.toList=a.data.toList++b.data.toList→DL P n c f (jZ e d (.string k)) w j):DL P n c (⟨some d,.binOp .add l x y m,ty,pos,af,g⟩::f) e w j:=
 DL.y o p (Y.cat hx q h) (r _ (by rw[Un,Array.toList_append]))
end
end D
theorem hK(b:ByteArray):b.size=b.data.toList.length:=by rw[Array.length_toList];rfl
def mU(d:Nat):UInt8:=if d<10 then UInt8.ofNat (48+d)else UInt8.ofNat (87+d)
def kK(c:UInt8):List UInt8:=
 if c=34 then[92,34]else if c=92 then[92,92]else if c=10 then[92,110]else if c=9 then[92,116]else if c=13 then[92,114]else if c=8 then[92,98]else if c=12 then[92,102]
 else if c.toNat<32∨c=127 then[92,117,48,48,mU (c.toNat/16),mU (c.toNat%16)]else[c]
def iS(l:List UInt8):List UInt8:=l.flatMap kK
def qL(l:List UInt8):List UInt8:=34::(iS l++[34])
theorem ET(b:UInt8):(kK b).length≤6:=by
 unfold kK
 repeat' split
 all_goals simp
theorem lS:∀b:List UInt8,(iS b).length≤6*b.length
 |[]=>by simp[iS]
 |c::b=>by
  have h1:=ET c
  have h2:=lS b
  simp only[iS,US,Tl,To]at h2⊢
  omega
theorem j1{s:ByteArray}{i:Nat}(h:i<s.size):iS (s.data.toList.take (i+1))=iS (s.data.toList.take i)++kK s[i]:=by
 have hl:i<s.data.toList.length:=by simpa using h
 rw[Ul hl]
 simp[iS]
 rfl
def kJ(n:Nat):List UInt8:=if h:n<10 then[UInt8.ofNat (48+n)]else kJ (n/10)++[UInt8.ofNat (48+n%10)]
termination_by n
decreasing_by omega
theorem mx{n:Nat}(h:n<10):kJ n=[UInt8.ofNat (48+n)]:=by rw[kJ,dif_pos h]
theorem nk{n:Nat}(h:10≤n):kJ n=kJ (n/10)++[UInt8.ofNat (48+n%10)]:=by rw[kJ,dif_neg Ac]
theorem oJ:∀(b n:Nat),n<10^(b+1)→(kJ n).length≤b+1
 |0,n,h=>by rw[mx AU];simp
 |b+1,n,h=>by
  by_cases c:n<10
  ·rw[mx c];simp
  ·rw[nk Ac,Tl]
   have:=oJ b (n/10) (by rw[Vs]at h;omega)
   simp only[TG];omega
end Go.Proofs.YtlojelcoibpphaaGreatDoor
namespace Go.Proofs.YtlojelcoibpphaaGreatDoor.D
open Go Go.RowKit Go.Deep
theorem wrap_u8{b:Nat}(h:b<256):IntKind.u8.wrap (b:Int)=(b:Int):=by
 rw[IntKind.wrap_u8];omega
theorem Op.ry(b d:IntKind)(a c:Nat)(f:c≤b.bits):Op.shift .shr b (a:Int) d (c:Int)=pure (.int b ((a/2^c:Nat):Int)):=by
 rw[Go.shift_shr b d (a:Int) (c:Int) Ac Ac,Vh]
 congr 1
theorem np(b a:Nat)(c:a<2^b):(BitVec.ofInt b (a:Int)).toNat=a:=by
 rw[BitVec.ofInt_natCast,BitVec.toNat_ofNat,Nat.mod_eq_of_lt c]
theorem Op.pX(b:IntKind)(a c:Nat)(d:a<2^b.bits)(f:c<2^b.bits):Op.intBits .and b (a:Int) (c:Int)=pure (.int b (b.wrap ((a&&& c:Nat):Int))):=by
 simp only[Op.intBits,BitVec.toNat_and,np _ _ d,np _ _ f]
theorem Op.qM(b:IntKind)(a c:Nat)(d:a<2^b.bits)(f:c<2^b.bits):Op.intBits .or b (a:Int) (c:Int)=pure (.int b (b.wrap ((a|||c:Nat):Int))):=by
 simp only[Op.intBits,BitVec.toNat_or,np _ _ d,np _ _ f]
section
variable{P:Program}{n:Nat}{e:Env}{w:World}{ops rest:List Oper}{K:Env→World→Prop}{dst:Option Tmp}{ty:TypeId}{pos:String}{af:Array Edge}{g:Option (Nat×Bool)}
theorem Y.N3{x y:Operand}{t u:TypeId}{k k':IntKind}{a m c:Nat}(hx:ev e x=.int k (a:Int))(b:ev e y=.int k' (m:Int))(d:m≤k.bits)(hc:a/2^m=c):Y P e ⟨dst,.binOp .shr t x y u,ty,pos,af,g⟩ w (.int k (c:Int)):=by
 subst hc
 have h:=Op.ry k k' a m d
 unfold Y;simp[execOp,hx,b,eqGuard,binOp,h]
theorem Y.Oc{x y:Operand}{t u:TypeId}{k:IntKind}{a b:Nat}{c:Int}(hx:ev e x=.int k (a:Int))(d:ev e y=.int k (b:Int))(f:a<2^k.bits)(j:b<2^k.bits)(hc:k.wrap ((a&&& b:Nat):Int)=c):Y P e ⟨dst,.binOp .and t x y u,ty,pos,af,g⟩ w (.int k c):=by
 subst hc
 have h:=Op.pX k a b f j
 unfold Y;simp[execOp,hx,d,eqGuard,binOp,h]
theorem Y.Pv{x y:Operand}{t u:TypeId}{k:IntKind}{a b:Nat}{c:Int}(hx:ev e x=.int k (a:Int))(d:ev e y=.int k (b:Int))(f:a<2^k.bits)(j:b<2^k.bits)(hc:k.wrap ((a|||b:Nat):Int)=c):Y P e ⟨dst,.binOp .or t x y u,ty,pos,af,g⟩ w (.int k c):=by
 subst hc
 have h:=Op.qM k a b f j
 unfold Y;simp[execOp,hx,d,eqGuard,binOp,h]
end
end Go.Proofs.YtlojelcoibpphaaGreatDoor.D
