/- Numbers with halves, back from the program's own. -/
import Derived.Test.YtmbleojlnaofjaaDoorRD
import Derived.Test.YtmbleojlnaofjaaDoorO8
import Derived.Test.YtmbleojlnaofjaaDoorO6
import Derived.Test.YtmbleojlnaofjaaDoorTxt
namespace Go.Proofs.YtmbleojlnaofjaaDoor
open Go Go.RowKit D Go.Deep
set_option linter.unusedVariables false
set_option linter.unusedSimpArgs false


open Ieee in
theorem read_lo : double.read 14109777632551763968 = .number true 4503599627370496 10 := by decide +kernel
open Ieee in
theorem read_hi : double.read 4886405595696988160 = .number false 4503599627370496 10 := by decide +kernel
open Ieee in
theorem big_shift {d : Nat} : 4611686018427387904 ≤ 4503599627370496 <<< (10 + d) := by
  rw [Nat.shiftLeft_eq, Nat.pow_add]
  have := Nat.two_pow_pos d
  have h2 : 4503599627370496 * (2 ^ 10 * 1) ≤ 4503599627370496 * (2 ^ 10 * 2 ^ d) := Nat.mul_le_mul_left _ (Nat.mul_le_mul_left _ this)
  omega
theorem cmp_gt {a b : Int} (h : b < a) : compare a b = .gt := by
  show compareOfLessAndEq a b = .gt
  unfold compareOfLessAndEq
  rw [if_neg (by omega), if_neg (by omega)]
theorem cmp_lt {a b : Int} (h : a < b) : compare a b = .lt := by
  show compareOfLessAndEq a b = .lt
  unfold compareOfLessAndEq
  rw [if_pos h]
theorem cmp_eq (a : Int) : compare a a = .eq := by
  show compareOfLessAndEq a a = .eq
  unfold compareOfLessAndEq
  rw [if_neg (by omega), if_pos rfl]
section
variable {h : Int} {m d : Nat}
open Ieee in
theorem Dig.ordS (D : Dig h m d) : FloatKind.f64.format.order (wordH h m d) (wordH h m d) = some .eq := by
  show (double.read _).order (double.read _) = _
  rw [D.readH]
  simp only [Datum.order, cmp_eq]
open Ieee in
theorem signed_abs (b : Bool) (m : Nat) : -(m : Int) ≤ signed b m 0 ∧ signed b m 0 ≤ m := by
  unfold signed
  rw [show m <<< 0 = m from rfl]
  cases b <;> simp <;> omega
open Ieee in
theorem Dig.ordLo (D : Dig h m d) : FloatKind.f64.format.order (wordH h m d) 14109777632551763968 = some .gt := by
  show (double.read _).order (double.read _) = _
  rw [D.readH, read_lo]
  simp only [Datum.order]
  have e1 : (-(d : Int) - min (-(d : Int)) 10).toNat = 0 := by omega
  have e2 : ((10 : Int) - min (-(d : Int)) 10).toNat = 10 + d := by omega
  rw [e1, e2]
  have h1 := signed_abs (decide (h < 0)) m
  have h2 := D.hi
  have h3 := big_shift (d := d)
  congr 1
  refine cmp_gt ?_
  have e3 : signed true 4503599627370496 (10 + d) = -((4503599627370496 <<< (10 + d) : Nat) : Int) := rfl
  rw [e3]
  omega
open Ieee in
theorem Dig.ordHi (D : Dig h m d) : FloatKind.f64.format.order (wordH h m d) 4886405595696988160 = some .lt := by
  show (double.read _).order (double.read _) = _
  rw [D.readH, read_hi]
  simp only [Datum.order]
  have e1 : (-(d : Int) - min (-(d : Int)) 10).toNat = 0 := by omega
  have e2 : ((10 : Int) - min (-(d : Int)) 10).toNat = 10 + d := by omega
  rw [e1, e2]
  have h1 := signed_abs (decide (h < 0)) m
  have h2 := D.hi
  have h3 := big_shift (d := d)
  congr 1
  refine cmp_lt ?_
  have e3 : signed false 4503599627370496 (10 + d) = ((4503599627370496 <<< (10 + d) : Nat) : Int) := rfl
  rw [e3]
  omega
theorem Dig.bits (D : Dig h m d) : halfBits h = wordF h m d := by
  unfold halfBits
  rw [D.near, D.half]; rfl
theorem integral_run {P : Program} {n : String} {way : Ieee.Toward} {x : Nat} {w : World} {s : Bool} {m : Nat} {i : Int} (h : FloatKind.f64.decode x = .number s m i) :
    (Extern.MathFloor.toIntegral n way #[.float .f64 x]).run P w = .ok (.float .f64 (FloatKind.f64.encode ((Ieee.Datum.number s m i).integral way))) w := by
  conv => lhs; arg 2; whnf
  rw [h]
  rfl
theorem trunc_run {P : Program} (D : Dig h m d) (w : World) : (Extern.MathFloor.toIntegral "math.archTrunc" .zero #[.float .f64 (wordH h m d)]).run P w = .ok (.float .f64 (wordH h m d)) w := by
  have e1 := D.integral
  have e2 : FloatKind.f64.decode (wordH h m d) = .number (decide (h < 0)) m (-(d : Int)) := D.readH
  have e3 : FloatKind.f64.encode (.number (decide (h < 0)) h.natAbs 0) = wordH h m d := D.near
  rw [e2] at e1
  rw [integral_run e2, e1, e3]
end
def numC (h : Int) : Array Value := #[.int .i64 3, .int .i64 h, .string ⟨#[]⟩, .slice none 0 0, .slice none 0 0, .slice none 0 0]

theorem Trunc_any {h : Int} {m d : Nat} (D : Dig h m d) (w : World) : Calls Tryd.prog 66 #[.float .f64 (wordH h m d)] w (Ret w [] fun v _ => v = .float .f64 (wordH h m d)) := by
  refine calls_of Tryd.func66 rfl rfl rfl rfl ?_
  have FR := Fr.refl [] w
  refine DC.seq ?_
  refine DC.region ?_
  refine DL.y rfl rfl (Y.assign) ?_
  refine DL.nil ?_
  show DC _ _ _ _ _ _
  refine DC.seq ?_
  refine DC.condT rfl ?_
  refine DC.seq ?_
  refine DC.region ?_
  refine DL.y rfl rfl (Y.move) ?_
  refine DL.y rfl rfl (Y.ext1 Tryd.func76 (by kernel_rfl) (by kernel_rfl) (by kernel_rfl) (en := Extern.MathFloor.toIntegral "math.archTrunc" .zero) rfl rfl (trunc_run D _)) ?_
  refine DL.y rfl rfl (Y.assign) ?_
  refine DL.nil ?_
  show DC _ _ _ _ _ _
  refine DC.ret ?_
  exact FinQ.ret1 rfl (Ret.mk FR rfl)

theorem half_any {h : Int} {m d : Nat} (D : Dig h m d) (hb : h.natAbs < 9007199254740992) (w : World) : Calls Tryd.prog 50 #[.float .f64 (wordH h m d)] w (Ret w [] fun v _ => v = .tuple #[.agg (numC h), .bool true]) := by
  refine calls_of Tryd.func50 rfl rfl rfl rfl ?_
  have FR := Fr.refl [] w
  refine DC.seq ?_
  refine DC.region ?_
  refine DL.alloc rfl rfl F.z26 rfl ?_
  intro b2 w1 f2 lo2 hi2 hb2
  replace lo2 := Nat.le_trans FR.size lo2
  replace FR := FR.tr0 f2
  refine DL.y rfl rfl (Y.assign) ?_
  refine DL.nil ?_
  show DC _ _ _ _ _ _
  refine DC.seq ?_
  refine DC.seq ?_
  refine DC.region ?_
  refine DL.y rfl rfl (Y.move) ?_
  refine DL.y rfl rfl (Y.move) ?_
  refine DL.call rfl rfl F.nm66 rfl (Trunc_any D _) ?_
  rintro _ w3 f4 rfl
  replace FR := FR.tr0 f4
  replace hb2 := f4.blk0 hb2
  replace hi2 := Nat.lt_of_lt_of_le hi2 f4.size
  refine DL.y rfl rfl (Y.fne rfl rfl (r := false) (by rw [D.ordS]; rfl)) ?_
  refine DL.y rfl rfl (Y.move) ?_
  refine DL.y rfl rfl (Y.move) ?_
  refine DL.y rfl rfl (Y.fle rfl rfl (r := false) (by rw [D.ordLo]; rfl)) ?_
  refine DL.y rfl rfl (Y.pickF rfl) ?_
  refine DL.y rfl rfl (Y.move) ?_
  refine DL.y rfl rfl (Y.move) ?_
  refine DL.y rfl rfl (Y.fge rfl rfl (r := false) (by rw [D.ordHi]; rfl)) ?_
  refine DL.y rfl rfl (Y.pickF rfl) ?_
  refine DL.nil ?_
  show DC _ _ _ _ _ _
  refine DC.condF rfl ?_
  refine DC.skip ?_
  show DC _ _ _ _ _ _
  refine DC.seq ?_
  refine DC.region ?_
  refine DL.y rfl rfl (Y.move) ?_
  refine DL.y rfl rfl (Y.convFI F.us64 Tryd.underlying3 rfl (D.toInt hb)) ?_
  refine DL.y rfl rfl (Y.build (cs := numC h) (by kernel_rfl)) ?_
  refine DL.storeA rfl F.ag26 rfl rfl rfl (by kernel_rfl) hb2 rfl ?_
  intro w5 f6 hs7 hb2'
  replace FR := FR.put f6 (by intro i hi; simp only [List.mem_cons, List.mem_singleton, List.not_mem_nil, or_false] at hi; rcases hi with rfl; all_goals (first | (left; simp; done) | (right; omega)))
  replace hi2 := Nat.lt_of_lt_of_le hi2 f6.size
  replace hb2 := hb2'
  refine DL.y rfl rfl (Y.assign) ?_
  refine DL.nil ?_
  show DC _ _ _ _ _ _
  refine DC.ret ?_
  exact FinQ.retCT rfl (cs := numC h) F.ag26 (.ofBlk hb2) rfl (Ret.mk FR rfl)

end Go.Proofs.YtmbleojlnaofjaaDoor
