/- Own texts, merged: Dec6, Dec7, FX2, Dec8, Enc2, Txt, ShelfStr, Enc3. -/
import Derived.Test.YtmbleojlnaofjaaGreatDoorMu09
import Derived.Test.YtmbleojlnaofjaaGreatDoorMu02
import Derived.Test.YtmbleojlnaofjaaGreatDoorMu01
import Derived.Test.YtmbleojlnaofjaaGreatDoorMu03
import Derived.Test.YtmbleojlnaofjaaGreatDoorMu08
import Derived.Test.YtmbleojlnaofjaaGreatDoorMu04
import Derived.Shelf.Strings.Builder1
import Derived.Test.YtmbleojlnaofjaaGreatDoorProg
import Derived.Test.YtmbleojlnaofjaaGreatDoorMu05
/- The walk of short: no fewer digits read back to an odd number's half. -/
namespace Go.Proofs.YtmbleojlnaofjaaGreatDoor
open Go Go.RowKit D Go.Deep
set_option linter.unusedVariables false
set_option linter.unusedSimpArgs false


theorem Dm.base {w : World} {B c : Nat} {X d : List Nat} {dp : Int} (h : Dm w B c X d dp) : B ≤ w.heap.size ∧ c < w.heap.size := by
 obtain ⟨v, hb, _, _⟩ := h.out
 have := lt_of_blk hb; have := h.lo
 omega
theorem Dv.bound {t : List Nat} {dp : Int} {X e L : Nat} (D : Dv t dp X e) (h : X < 10 ^ L) : t.length ≤ L ∧ -(e : Int) ≤ dp ∧ dp ≤ L := by
 obtain ⟨j, h1, h2⟩ := D.eq
 have h3 := D.canon.lo
 have hp := D.canon.pos
 have h4 : 10 ^ (t.length - 1 + j) < 10 ^ L := by
  refine Nat.lt_of_le_of_lt ?_ (h2 ▸ h)
  rw [Nat.pow_add]; exact Nat.mul_le_mul_right _ h3
 have h5 : t.length - 1 + j < L := (Nat.pow_lt_pow_iff_right (by decide)).1 h4
 omega
theorem big80 {X k : Nat} (h : X < 10 ^ 18) (hk : k ≤ 60) : X * 5 ^ k < 10 ^ 80 := by
 have h1 : 5 ^ k ≤ 10 ^ 60 := Nat.le_trans (Nat.pow_le_pow_right (by decide) hk) (Nat.pow_le_pow_left (by decide) 60)
 have h2 : X * 5 ^ k ≤ X * 10 ^ 60 := Nat.mul_le_mul_left _ h1
 have h3 : X * 10 ^ 60 < 10 ^ 18 * 10 ^ 60 := Nat.mul_lt_mul_of_pos_right h (Nat.pow_pos (by decide))
 have h4 : 10 ^ 18 * 10 ^ 60 ≤ 10 ^ 80 := by decide +kernel
 omega
theorem Cut.lt {o t : List Nat} {z : Nat} (h : Cut o t z) (hl : ∀ i, dg o i < 10) : ∀ i, dg t i < 10 := fun i => by
 rcases Nat.lt_or_ge i t.length with hi | hi
 ·rw [← dg_left (b := List.replicate z 0) hi, ← h.eq]; exact hl i
 ·rw [dg_ge hi]; decide
theorem dg_take_lt {d : List Nat} (h : ∀ i, dg d i < 10) (n : Nat) : ∀ i, dg (d.take n) i < 10 := fun i => by
 rcases Nat.lt_or_ge i n with hi | hi
 ·rw [dg_take hi]; exact h i
 ·rw [dg_ge (by rw [List.length_take]; omega)]; decide

set_option maxHeartbeats 1000000 in
theorem short_any {B c k m h : Nat} {X d : List Nat} {dp : Int} {w : World} (hD : Dm w B c X d dp) (H : Half d dp h) (hm : m = h * 2 ^ (k - 1)) (hk1 : 1 ≤ k) (hk : k ≤ 53) (hmlo : 4503599627370496 ≤ m) (hmhi : m < 9007199254740992) (hdl : d.length ≤ 990) (hdp : -900000 ≤ dp ∧ dp ≤ 900000) : Calls Tryz.prog 211 #[(.pointer (some ⟨c, 0, none⟩)), .int .u64 (m : Int), .int .i64 (52 - (k : Int)), (.agg #[.int .i64 52, .int .i64 11, .int .i64 (-1023)])] w (Ret w [] fun r w' => r = (.pointer (some ⟨c, 0, none⟩))) := by
 have h2m : 2 * m = h * 2 ^ k := by rw [hm, show k = (k - 1) + 1 by omega, Nat.pow_succ, Nat.add_sub_cancel]; simp only [Nat.mul_comm, Nat.mul_assoc, Nat.mul_left_comm]
 have h4m : 4 * m = h * 2 ^ (k + 1) := by rw [Nat.pow_succ, ← Nat.mul_assoc, ← h2m]; omega
 have hX0 : ∀ i ∈ X, i < w.heap.size := fun i hi => (hD.ge i hi).2
 have hb0 := hD.base
 obtain ⟨vd, hb, hvd, hXe⟩ := hD.out
 obtain ⟨a, cap, rfl, _, _⟩ := own_cells hvd
 refine calls_of Tryz.func211 rfl rfl rfl rfl ?_
 have FR := Fr.refl [] w
 refine DC.seq ?_
 refine DC.region ?_
 refine DL.boxA rfl rfl rfl ?_
 intro b7 w1 f2 lo7 hi7 hb7
 replace lo7 := Nat.le_trans FR.size lo7
 replace FR := FR.tr0 f2
 replace hD := hD.fr0 f2
 replace hb := f2.blk0 hb
 refine DL.y rfl rfl (Y.assign) ?_
 refine DL.nil ?_
 show DC _ _ _ _ _ _
 refine DC.seq ?_
 refine DC.seq ?_
 refine DC.region ?_
 refine DL.y rfl rfl (Y.move) ?_
 refine DL.if rfl rfl (Y.eq rfl rfl) (fun c18 => ?_) (fun c18 => ?_)
 ·exfalso; omega
 ·refine DL.nil ?_
  show DC _ _ _ _ _ _
  refine DC.condF rfl ?_
  refine DC.skip ?_
  show DC _ _ _ _ _ _
  refine DC.seq ?_
  refine DC.region ?_
  refine DL.y rfl rfl (Y.move) ?_
  refine DL.y rfl rfl (Y.mulC (c := ((2 * m : Nat) : Int)) rfl rfl (by rw [show (2 : Int) * (m : Int) = ((2 * m : Nat) : Int) by omega]; exact wrap_u64 (by omega))) ?_
  refine DL.y rfl rfl (Y.addC (c := ((2 * m + 1 : Nat) : Int)) rfl rfl (by rw [show ((2 * m : Nat) : Int) + 1 = ((2 * m + 1 : Nat) : Int) by omega]; exact wrap_u64 (by omega))) ?_
  have hpreA := FR.size
  have h7A := hi7
  refine DL.call rfl rfl F.nm209 rfl (newDecimal_any (2 * m + 1) (by omega) (by omega) _) ?_
  rintro _ w3 f4 ⟨cA, XA, tA, rfl, pA, hDA, hVA⟩
  replace FR := FR.tr0 f4
  replace hD := hD.fr0 f4
  replace hb := f4.blk0 hb
  replace hb7 := f4.blk0 hb7
  replace hi7 := Nat.lt_of_lt_of_le hi7 f4.size
  have hBA := hDA.base
  have hloA := hDA.lo
  obtain ⟨EA, hEA⟩ : ∃ EA, EA = w3.heap.size := ⟨_, rfl⟩
  have hXA : ∀ i ∈ XA, i < EA := fun i hi => by have := (hDA.ge i hi).2; omega
  have hqA := hVA.bound (L := 18) (by omega)
  have hEcA := Nat.le_of_eq hEA
  have hcwA : w.heap.size ≤ cA := by omega
  refine DL.y rfl rfl (Y.assign) ?_
  refine DL.nil ?_
  show DC _ _ _ _ _ _
  refine DC.seq ?_
  refine DC.region ?_
  refine DL.y rfl rfl (Y.move) ?_
  refine DL.y rfl rfl (Y.move) ?_
  refine DL.y rfl rfl (Y.field F.fd235_0 rfl) ?_
  refine DL.y rfl rfl (Y.loadB F.sc3 rfl hb7 rfl) ?_
  refine DL.y rfl rfl (Y.subI (c := -(k : Int)) rfl rfl (by omega) (by omega) (by omega)) ?_
  refine DL.y rfl rfl (Y.subI (c := -((k + 1 : Nat) : Int)) rfl rfl (by omega) (by omega) (by omega)) ?_
  refine DL.call rfl rfl F.nm210 rfl (shift_any (k := k + 1) hDA hVA.canon (by omega) (by omega) (by omega) (by omega) hDA.base.1) ?_
  rintro _ w5 f6 ⟨rfl, XB, tB, pB, hDB, hXsB, hWB⟩
  replace FR := FR.put f6 (by intro i hi; simp only [List.mem_cons, List.mem_singleton, List.not_mem_nil, or_false] at hi; rcases hi with rfl; all_goals (first | (left; simp; done) | (right; omega)))
  replace hD := hD.fr f6 (fun i hi hm => by have hx := hX0 i hm; simp only [List.mem_cons, List.mem_singleton, List.not_mem_nil, or_false] at hi; omega)
  replace hb := f6.blk hb (by simp only [List.mem_cons, List.not_mem_nil, or_false, not_or]; omega)
  replace hb7 := f6.blk hb7 (by simp only [List.mem_cons, List.not_mem_nil, or_false, not_or]; omega)
  replace hi7 := Nat.lt_of_lt_of_le hi7 f6.size
  replace hWB := hWB _ _ hVA
  rw [Nat.zero_add, h2m] at hWB
  obtain ⟨EB, hEB⟩ : ∃ EB, EB = w5.heap.size := ⟨_, rfl⟩
  have hXB : ∀ i ∈ XB, i < EB := fun i hi => by have := (hDB.ge i hi).2; omega
  have hEcB := Nat.le_of_eq hEB
  refine DL.nil ?_
  show DC _ _ _ _ _ _
  refine DC.seq ?_
  refine DC.region ?_
  refine DL.y rfl rfl (Y.move) ?_
  refine DL.y rfl rfl (Y.mulC (c := ((2 * m : Nat) : Int)) rfl rfl (by rw [show (2 : Int) * (m : Int) = ((2 * m : Nat) : Int) by omega]; exact wrap_u64 (by omega))) ?_
  refine DL.y rfl rfl (Y.subC (c := ((2 * m - 1 : Nat) : Int)) rfl rfl (by rw [show ((2 * m : Nat) : Int) - 1 = ((2 * m - 1 : Nat) : Int) by omega]; exact wrap_u64 (by omega))) ?_
  have hpreC := FR.size
  have h7C := hi7
  have hpeCB := hEcB
  refine DL.call rfl rfl F.nm209 rfl (newDecimal_any (2 * m - 1) (by omega) (by omega) _) ?_
  rintro _ w7 f8 ⟨cC, XC, tC, rfl, pC, hDC, hVC⟩
  replace FR := FR.tr0 f8
  replace hD := hD.fr0 f8
  replace hb := f8.blk0 hb
  replace hb7 := f8.blk0 hb7
  replace hi7 := Nat.lt_of_lt_of_le hi7 f8.size
  replace hDB := hDB.fr0 f8
  replace hEcB := Nat.le_trans hEcB f8.size
  have hBC := hDC.base
  have hloC := hDC.lo
  obtain ⟨EC, hEC⟩ : ∃ EC, EC = w7.heap.size := ⟨_, rfl⟩
  have hXC : ∀ i ∈ XC, i < EC := fun i hi => by have := (hDC.ge i hi).2; omega
  have hqC := hVC.bound (L := 18) (by omega)
  have hEcC := Nat.le_of_eq hEC
  have hcwC : w.heap.size ≤ cC := by omega
  refine DL.y rfl rfl (Y.assign) ?_
  refine DL.nil ?_
  show DC _ _ _ _ _ _
  refine DC.seq ?_
  refine DC.region ?_
  refine DL.y rfl rfl (Y.move) ?_
  refine DL.y rfl rfl (Y.move) ?_
  refine DL.y rfl rfl (Y.field F.fd235_0 rfl) ?_
  refine DL.y rfl rfl (Y.loadB F.sc3 rfl hb7 rfl) ?_
  refine DL.y rfl rfl (Y.subI (c := -(k : Int)) rfl rfl (by omega) (by omega) (by omega)) ?_
  refine DL.y rfl rfl (Y.subI (c := -((k + 1 : Nat) : Int)) rfl rfl (by omega) (by omega) (by omega)) ?_
  refine DL.call rfl rfl F.nm210 rfl (shift_any (k := k + 1) hDC hVC.canon (by omega) (by omega) (by omega) (by omega) hDC.base.1) ?_
  rintro _ w9 f10 ⟨rfl, XD, tD, pD, hDD, hXsD, hWD⟩
  replace FR := FR.put f10 (by intro i hi; simp only [List.mem_cons, List.mem_singleton, List.not_mem_nil, or_false] at hi; rcases hi with rfl; all_goals (first | (left; simp; done) | (right; omega)))
  replace hD := hD.fr f10 (fun i hi hm => by have hx := hX0 i hm; simp only [List.mem_cons, List.mem_singleton, List.not_mem_nil, or_false] at hi; omega)
  replace hb := f10.blk hb (by simp only [List.mem_cons, List.not_mem_nil, or_false, not_or]; omega)
  replace hb7 := f10.blk hb7 (by simp only [List.mem_cons, List.not_mem_nil, or_false, not_or]; omega)
  replace hi7 := Nat.lt_of_lt_of_le hi7 f10.size
  replace hDB := hDB.fr f10 (fun i hi hm => by have hx := hXB i hm; simp only [List.mem_cons, List.mem_singleton, List.not_mem_nil, or_false] at hi; omega)
  replace hEcB := Nat.le_trans hEcB f10.size
  replace hWD := hWD _ _ hVC
  rw [Nat.zero_add, h2m] at hWD
  obtain ⟨ED, hED⟩ : ∃ ED, ED = w9.heap.size := ⟨_, rfl⟩
  have hXD : ∀ i ∈ XD, i < ED := fun i hi => by have := (hDD.ge i hi).2; omega
  have hEcD := Nat.le_of_eq hED
  refine DL.nil ?_
  show DC _ _ _ _ _ _
  have J11 := Fr.refl [] w9
  refine DC.seqJ (σ := Nat × Nat) (fun (cl, _) => [(0, (.pointer (some ⟨c, 0, none⟩))), (1, .int .u64 (m : Int)), (9, (.pointer (some ⟨cA, 0, none⟩))), (10, .pointer (some ⟨cl, 0, none⟩))]) (fun sg wl => Fr [] w9 wl ∧ (fun (cl, kk) wl => 1 ≤ kk ∧ kk ≤ k + 1 ∧ ∃ Bl Xl tl pl, Dm wl Bl cl Xl tl pl ∧ Dv tl pl ((h * 2 ^ kk - 1) * 5 ^ (kk + 1)) (kk + 1)) sg wl) ?_ ?_
  ·refine DC.seq ?_
   refine DC.region ?_
   refine DL.y rfl rfl (Y.move) ?_
   refine DL.y rfl rfl (Y.field F.fd235_0 rfl) ?_
   refine DL.y rfl rfl (Y.loadB F.sc3 rfl hb7 rfl) ?_
   refine DL.y rfl rfl (Y.shlN (k := .u64) (k' := .i64) (m := 52) (a := 1) (c := 4503599627370496) rfl rfl (by decide) (by decide)) ?_
   refine DL.if rfl rfl (Y.eq rfl rfl) (fun c46 => ?_) (fun c46 => ?_)
   ·refine DL.y rfl rfl (Y.move) ?_
    refine DL.y rfl rfl (Y.move) ?_
    refine DL.y rfl rfl (Y.field F.fd235_2 rfl) ?_
    refine DL.y rfl rfl (Y.loadB F.sc3 rfl hb7 rfl) ?_
    refine DL.y rfl rfl (Y.addI (c := -1022) rfl rfl (by omega) (by omega) (by omega)) ?_
    refine DL.if rfl rfl (Y.gt rfl rfl) (fun c52 => ?_) (fun c52 => ?_)
    ·refine DL.y rfl rfl (Y.pickT rfl) ?_
     refine DL.nil ?_
     show DC _ _ _ _ _ _
     refine DC.condT rfl ?_
     refine DC.seq ?_
     refine DC.region ?_
     refine DL.y rfl rfl (Y.move) ?_
     refine DL.y rfl rfl (Y.mulC (c := ((4 * m : Nat) : Int)) rfl rfl (by rw [show (4 : Int) * (m : Int) = ((4 * m : Nat) : Int) by omega]; exact wrap_u64 (by omega))) ?_
     refine DL.y rfl rfl (Y.subC (c := ((4 * m - 1 : Nat) : Int)) rfl rfl (by rw [show ((4 * m : Nat) : Int) - 1 = ((4 * m - 1 : Nat) : Int) by omega]; exact wrap_u64 (by omega))) ?_
     have hpreF := FR.size
     have h7F := hi7
     have hpeFB := hEcB
     have hpeFD := hEcD
     refine DL.call rfl rfl F.nm209 rfl (newDecimal_any (4 * m - 1) (by omega) (by omega) _) ?_
     rintro _ w15 f16 ⟨cF, XF, tF, rfl, pF, hDF, hVF⟩
     replace FR := FR.tr0 f16
     replace J11 := J11.tr0 f16
     replace hD := hD.fr0 f16
     replace hb := f16.blk0 hb
     replace hb7 := f16.blk0 hb7
     replace hi7 := Nat.lt_of_lt_of_le hi7 f16.size
     replace hDB := hDB.fr0 f16
     replace hEcB := Nat.le_trans hEcB f16.size
     replace hDD := hDD.fr0 f16
     replace hEcD := Nat.le_trans hEcD f16.size
     have hBF := hDF.base
     have hloF := hDF.lo
     obtain ⟨EF, hEF⟩ : ∃ EF, EF = w15.heap.size := ⟨_, rfl⟩
     have hXF : ∀ i ∈ XF, i < EF := fun i hi => by have := (hDF.ge i hi).2; omega
     have hqF := hVF.bound (L := 18) (by omega)
     have hEcF := Nat.le_of_eq hEF
     have hcwF : w.heap.size ≤ cF := by omega
     refine DL.y rfl rfl (Y.assign) ?_
     refine DL.nil ?_
     show DC _ _ _ _ _ _
     refine DC.region ?_
     refine DL.y rfl rfl (Y.move) ?_
     refine DL.y rfl rfl (Y.move) ?_
     refine DL.y rfl rfl (Y.field F.fd235_0 rfl) ?_
     refine DL.y rfl rfl (Y.loadB F.sc3 rfl hb7 rfl) ?_
     refine DL.y rfl rfl (Y.subI (c := -(k : Int)) rfl rfl (by omega) (by omega) (by omega)) ?_
     refine DL.y rfl rfl (Y.subI (c := -((k + 2 : Nat) : Int)) rfl rfl (by omega) (by omega) (by omega)) ?_
     refine DL.call rfl rfl F.nm210 rfl (shift_any (k := k + 2) hDF hVF.canon (by omega) (by omega) (by omega) (by omega) hDF.base.1) ?_
     rintro _ w17 f18 ⟨rfl, XG, tG, pG, hDG, hXsG, hWG⟩
     replace FR := FR.put f18 (by intro i hi; simp only [List.mem_cons, List.mem_singleton, List.not_mem_nil, or_false] at hi; rcases hi with rfl; all_goals (first | (left; simp; done) | (right; omega)))
     replace J11 := J11.put f18 (by intro i hi; simp only [List.mem_cons, List.mem_singleton, List.not_mem_nil, or_false] at hi; rcases hi with rfl; all_goals (first | (left; simp; done) | (right; omega)))
     replace hD := hD.fr f18 (fun i hi hm => by have hx := hX0 i hm; simp only [List.mem_cons, List.mem_singleton, List.not_mem_nil, or_false] at hi; omega)
     replace hb := f18.blk hb (by simp only [List.mem_cons, List.not_mem_nil, or_false, not_or]; omega)
     replace hb7 := f18.blk hb7 (by simp only [List.mem_cons, List.not_mem_nil, or_false, not_or]; omega)
     replace hi7 := Nat.lt_of_lt_of_le hi7 f18.size
     replace hDB := hDB.fr f18 (fun i hi hm => by have hx := hXB i hm; simp only [List.mem_cons, List.mem_singleton, List.not_mem_nil, or_false] at hi; omega)
     replace hEcB := Nat.le_trans hEcB f18.size
     replace hDD := hDD.fr f18 (fun i hi hm => by have hx := hXD i hm; simp only [List.mem_cons, List.mem_singleton, List.not_mem_nil, or_false] at hi; omega)
     replace hEcD := Nat.le_trans hEcD f18.size
     replace hWG := hWG _ _ hVF
     rw [Nat.zero_add, h4m] at hWG
     obtain ⟨EG, hEG⟩ : ∃ EG, EG = w17.heap.size := ⟨_, rfl⟩
     have hXG : ∀ i ∈ XG, i < EG := fun i hi => by have := (hDG.ge i hi).2; omega
     have hEcG := Nat.le_of_eq hEG
     refine DL.nil ?_
     exact ⟨(cF, k + 1), ⟨rfl, rfl, rfl, rfl⟩, J11, by omega, by omega, _, _, _, _, hDG, hWG⟩
    ·exfalso; omega
   ·refine DL.y rfl rfl (Y.move) ?_
    refine DL.skip rfl rfl ?_
    refine DL.skip rfl rfl ?_
    refine DL.skip rfl rfl ?_
    refine DL.skip rfl rfl ?_
    refine DL.skip rfl rfl ?_
    refine DL.y rfl rfl (Y.pickF rfl) ?_
    refine DL.nil ?_
    show DC _ _ _ _ _ _
    refine DC.condF rfl ?_
    refine DC.skip ?_
    exact ⟨(cC, k), ⟨rfl, rfl, rfl, rfl⟩, J11, by omega, by omega, _, _, _, _, hDD, hWD⟩
  ·rintro ⟨cl, kk⟩ e0 w12 ⟨f13, hkk1, hkk, Bl, Xl, tl, pl, hDl, hWl⟩
   replace FR := FR.tr0 f13
   replace hD := hD.fr0 f13
   replace hb := f13.blk0 hb
   replace hb7 := f13.blk0 hb7
   replace hi7 := Nat.lt_of_lt_of_le hi7 f13.size
   replace hDB := hDB.fr0 f13
   replace hEcB := Nat.le_trans hEcB f13.size
   replace hEcD := Nat.le_trans hEcD f13.size
   have hXl := hDl.base
   refine DC.seq ?_
   refine DC.region ?_
   refine DL.y rfl rfl (Y.assign) ?_
   refine DL.nil ?_
   show DC _ _ _ _ _ _
   have J19 := Fr.refl [] w12
   refine DC.seqJ (σ := Int) (fun ed => [(0, (.pointer (some ⟨c, 0, none⟩))), (9, (.pointer (some ⟨cA, 0, none⟩))), (10, .pointer (some ⟨cl, 0, none⟩)), (11, .int .i64 ed)]) (fun sg wl => Fr [] w12 wl ∧ (fun ed wl => ed ≤ 1) sg wl) ?_ ?_
   ·refine DC.seq ?_
    refine DC.region ?_
    refine DL.y rfl rfl (Y.move) ?_
    refine DL.y rfl rfl (Y.remC (c := ((m % 2 : Nat) : Int)) rfl rfl (by decide) (tmodN m 2 (by decide))) ?_
    refine DL.if rfl rfl (Y.eq rfl rfl) (fun c67 => ?_) (fun c67 => ?_)
    ·refine DL.nil ?_
     show DC _ _ _ _ _ _
     refine DC.condT rfl ?_
     refine DC.region ?_
     refine DL.y rfl rfl (Y.assign) ?_
     refine DL.nil ?_
     exact ⟨1, ⟨rfl, rfl, rfl, rfl⟩, J19, by show (_ : Int) ≤ 1; decide⟩
    ·refine DL.nil ?_
     show DC _ _ _ _ _ _
     refine DC.condF rfl ?_
     refine DC.skip ?_
     exact ⟨0, ⟨rfl, rfl, rfl, rfl⟩, J19, by show (_ : Int) ≤ 1; decide⟩
   ·rintro ed e0 w20 ⟨f21, hed⟩
    replace FR := FR.tr0 f21
    replace hD := hD.fr0 f21
    replace hb := f21.blk0 hb
    replace hb7 := f21.blk0 hb7
    replace hi7 := Nat.lt_of_lt_of_le hi7 f21.size
    replace hDB := hDB.fr0 f21
    replace hEcB := Nat.le_trans hEcB f21.size
    replace hEcD := Nat.le_trans hEcD f21.size
    replace hDl := hDl.fr0 f21
    refine DC.seq ?_
    refine DC.seq ?_
    refine DC.region ?_
    refine DL.y rfl rfl (Y.assign) ?_
    refine DL.nil ?_
    show DC _ _ _ _ _ _
    refine DC.block ?_
    refine DC.loopE (σ := Nat) [(8, 8), (12, 16), (68, 106)] [(0, (.pointer (some ⟨c, 0, none⟩))), (9, (.pointer (some ⟨cA, 0, none⟩))), (10, (.pointer (some ⟨cl, 0, none⟩))), (11, .int .i64 ed)] (fun n => [(12, .int .i64 (n : Int))]) (fun sg wl => Fr [] w20 wl ∧ (fun n wl => n ≤ d.length) sg wl) (fun n => d.length - n) (0) rfl ?_ ?_ ?_ ?_
    ·exact ⟨rfl, rfl, rfl, rfl⟩
    ·exact rfl
    ·exact ⟨Fr.refl _ _, Nat.zero_le _⟩
    ·rintro e0 n j w23 ⟨f24, hn0⟩
     replace FR := FR.tr0 f24
     replace hD := hD.fr0 f24
     replace hb := f24.blk0 hb
     replace hb7 := f24.blk0 hb7
     replace hi7 := Nat.lt_of_lt_of_le hi7 f24.size
     replace hDB := hDB.fr0 f24
     replace hEcB := Nat.le_trans hEcB f24.size
     replace hEcD := Nat.le_trans hEcD f24.size
     replace hDl := hDl.fr0 f24
     have G25 := f24
     have HG25 := Fr.refl [] w23
     refine DC.seq ?_
     refine DC.seq ?_
     refine DC.region ?_
     refine DL.y rfl rfl (Y.move) ?_
     refine DL.y rfl rfl (Y.move) ?_
     refine DL.y rfl rfl (Y.nil rfl) ?_
     refine DL.y rfl rfl (Y.field F.fd242_0 rfl) ?_
     refine DL.y rfl rfl (Y.loadB F.sc107 rfl hb rfl) ?_
     refine DL.y rfl rfl (Y.lenS Tryz.underlying107 rfl) ?_
     refine DL.if rfl rfl (Y.lt rfl rfl) (fun c74 => ?_) (fun c74 => ?_)
     ·have hn : n < d.length := by omega
      refine DL.nil ?_
      show DC _ _ _ _ _ _
      refine DC.condT rfl ?_
      refine DC.skip ?_
      show DC _ _ _ _ _ _
      refine DC.seq ?_
      refine DC.block ?_
      refine DC.seq ?_
      refine DC.region ?_
      refine DL.y rfl rfl (Y.move) ?_
      refine DL.y rfl rfl (Y.move) ?_
      refine DL.call rfl rfl F.nm236 rfl (down_any hD hn (by omega) hD.base.1) ?_
      rintro _ w26 f27 ⟨c13, X13, t13, z13, rfl, hD13, hcut⟩
      replace FR := FR.tr0 f27
      replace G25 := G25.tr0 f27
      replace HG25 := HG25.tr0 f27
      replace hD := hD.fr0 f27
      replace hb := f27.blk0 hb
      replace hb7 := f27.blk0 hb7
      replace hi7 := Nat.lt_of_lt_of_le hi7 f27.size
      replace hDB := hDB.fr0 f27
      replace hEcB := Nat.le_trans hEcB f27.size
      replace hEcD := Nat.le_trans hEcD f27.size
      replace hDl := hDl.fr0 f27
      refine DL.y rfl rfl (Y.move) ?_
      refine DL.y rfl rfl (Y.move) ?_
      refine DL.call rfl rfl F.nm237 rfl (up_any hD H.canon hn (by omega) (by omega) hD.base.1) ?_
      rintro _ w28 f29 ⟨c14, X14, u14, p14, rfl, hD14, hup⟩
      replace FR := FR.tr0 f29
      replace G25 := G25.tr0 f29
      replace HG25 := HG25.tr0 f29
      replace hD := hD.fr0 f29
      replace hb := f29.blk0 hb
      replace hb7 := f29.blk0 hb7
      replace hi7 := Nat.lt_of_lt_of_le hi7 f29.size
      replace hDB := hDB.fr0 f29
      replace hEcB := Nat.le_trans hEcB f29.size
      replace hEcD := Nat.le_trans hEcD f29.size
      replace hDl := hDl.fr0 f29
      replace hD13 := hD13.fr0 f29
      have hU : Dv u14 p14 ((pre d n + 1) * 10 ^ (d.length - n)) 1 ∧ u14.length ≤ 1000 ∧ -1000000 ≤ p14 ∧ p14 ≤ 1000000 := by
       rcases hup with ⟨i, h1, h2, h3, rfl, rfl⟩ | ⟨h1, rfl, rfl⟩
       ·exact ⟨H.up1 hn h1 h2 h3, by rw [List.length_append, List.length_take]; simp; omega, by omega, by omega⟩
       ·exact ⟨H.up2 hn h1, by simp, by omega, by omega⟩
      have hct := hcut.len
      rw [List.length_take] at hct
      have hql := hWl.bound (L := 80) (big80 (by have h1 : h * 2 ^ kk ≤ 4 * m := by { rw [h4m]; exact Nat.mul_le_mul_left _ (Nat.pow_le_pow_right (by decide) (by omega)) }; omega) (by omega))
      have hqh := hWB.bound (L := 80) (big80 (by omega) (by omega))
      refine DL.y rfl rfl (Y.assign) ?_
      refine DL.y rfl rfl (Y.assign) ?_
      refine DL.nil ?_
      show DC _ _ _ _ _ _
      refine DC.seq ?_
      refine DC.region ?_
      refine DL.y rfl rfl (Y.move) ?_
      refine DL.y rfl rfl (Y.move) ?_
      refine DL.call rfl rfl F.nm238 rfl (dcmp_any hDl hD13 (by omega) (by omega) (by omega) (by split <;> omega) hWl.canon.lt (hcut.lt (dg_take_lt H.canon.lt n)) (low_gt H hkk1 hWl hn hcut (fun hne => by rw [if_neg hne]))) ?_
      rintro _ w30 f31 ⟨z85, rfl, hz85⟩
      replace FR := FR.tr0 f31
      replace G25 := G25.tr0 f31
      replace HG25 := HG25.tr0 f31
      replace hD := hD.fr0 f31
      replace hb := f31.blk0 hb
      replace hb7 := f31.blk0 hb7
      replace hi7 := Nat.lt_of_lt_of_le hi7 f31.size
      replace hDB := hDB.fr0 f31
      replace hEcB := Nat.le_trans hEcB f31.size
      replace hEcD := Nat.le_trans hEcD f31.size
      replace hDl := hDl.fr0 f31
      replace hD13 := hD13.fr0 f31
      replace hD14 := hD14.fr0 f31
      refine DL.y rfl rfl (Y.move) ?_
      refine DL.if rfl rfl (Y.lt rfl rfl) (fun c87 => ?_) (fun c87 => ?_)
      ·exfalso; omega
      ·refine DL.y rfl rfl (Y.move) ?_
       refine DL.y rfl rfl (Y.move) ?_
       refine DL.call rfl rfl F.nm238 rfl (dcmp_any hD14 hDB (by omega) (by omega) (by omega) (by omega) hU.1.canon.lt hWB.canon.lt (up_gt H hk1 hWB hn hU.1)) ?_
       rintro _ w32 f33 ⟨z90, rfl, hz90⟩
       replace FR := FR.tr0 f33
       replace G25 := G25.tr0 f33
       replace HG25 := HG25.tr0 f33
       replace hD := hD.fr0 f33
       replace hb := f33.blk0 hb
       replace hb7 := f33.blk0 hb7
       replace hi7 := Nat.lt_of_lt_of_le hi7 f33.size
       replace hDB := hDB.fr0 f33
       replace hEcB := Nat.le_trans hEcB f33.size
       replace hEcD := Nat.le_trans hEcD f33.size
       replace hDl := hDl.fr0 f33
       replace hD13 := hD13.fr0 f33
       replace hD14 := hD14.fr0 f33
       refine DL.y rfl rfl (Y.move) ?_
       refine DL.if rfl rfl (Y.lt rfl rfl) (fun c92 => ?_) (fun c92 => ?_)
       ·exfalso; omega
       ·refine DL.y rfl rfl (Y.assign) ?_
        refine DL.y rfl rfl (Y.assign) ?_
        refine DL.nil ?_
        show DC _ _ _ _ _ _
        refine DC.block ?_
        refine DC.seq ?_
        refine DC.region ?_
        refine DL.y rfl rfl (Y.move) ?_
        refine DL.y rfl rfl (Y.move) ?_
        refine DL.skip rfl rfl ?_
        refine DL.y rfl rfl (Y.pickF rfl) ?_
        refine DL.y rfl rfl (Y.assign) ?_
        refine DL.nil ?_
        show DC _ _ _ _ _ _
        refine DC.condF rfl ?_
        refine DC.seq ?_
        refine DC.region ?_
        refine DL.y rfl rfl (Y.move) ?_
        refine DL.y rfl rfl (Y.assign) ?_
        refine DL.nil ?_
        show DC _ _ _ _ _ _
        refine DC.condF rfl ?_
        refine DC.seq ?_
        refine DC.region ?_
        refine DL.y rfl rfl (Y.move) ?_
        refine DL.y rfl rfl (Y.assign) ?_
        refine DL.nil ?_
        show DC _ _ _ _ _ _
        refine DC.condF rfl ?_
        refine DC.skip ?_
        show DC _ _ _ _ _ _
        refine DC.region ?_
        refine DL.y rfl rfl (Y.move) ?_
        refine DL.y rfl rfl (Y.addI (c := ((n + 1 : Nat) : Int)) rfl rfl (by omega) (by omega) (by omega)) ?_
        refine DL.y rfl rfl (Y.assign) ?_
        refine DL.nil ?_
        exact ⟨n + 1, ⟨G25, by omega⟩, by show d.length - (n + 1) < d.length - n; omega, rfl⟩
     ·refine DL.nil ?_
      show DC _ _ _ _ _ _
      refine DC.condF rfl ?_
      refine DC.exit ?_
      show DC _ _ _ _ _ _
      refine DC.seq ?_
      refine DC.region ?_
      refine DL.y rfl rfl (Y.move) ?_
      refine DL.y rfl rfl (Y.assign) ?_
      refine DL.nil ?_
      show DC _ _ _ _ _ _
      refine DC.ret ?_
      exact FinQ.ret1 rfl (Ret.mk FR rfl)

end Go.Proofs.YtmbleojlnaofjaaGreatDoor

/- The walk of FormatFloat at halves. -/
namespace Go.Proofs.YtmbleojlnaofjaaGreatDoor
open Go Go.RowKit D Go.Deep
set_option linter.unusedVariables false
set_option linter.unusedSimpArgs false

set_option maxRecDepth 100000 in
theorem formOf_any (w : World) : Calls Tryz.prog 207 #[.int .i64 64] w (Ret w [] fun r w' => r = .agg #[.int .i64 52, .int .i64 11, .int .i64 (-1023)]) := by
 refine calls_of Tryz.func207 rfl rfl rfl rfl ?_
 have FR := Fr.refl [] w
 refine DC.seq ?_
 refine DC.region ?_
 refine DL.alloc rfl rfl F.z235 rfl ?_
 intro b2 w1 f2 lo2 hi2 hb2
 replace lo2 := Nat.le_trans FR.size lo2
 replace FR := FR.tr0 f2
 refine DL.nil ?_
 show DC _ _ _ _ _ _
 refine DC.seq ?_
 refine DC.seq ?_
 refine DC.region ?_
 refine DL.y rfl rfl (Y.move) ?_
 refine DL.if rfl rfl (Y.eq rfl rfl) (fun c4 => ?_) (fun c4 => ?_)
 ·exfalso; omega
 ·refine DL.nil ?_
  show DC _ _ _ _ _ _
  refine DC.condF rfl ?_
  refine DC.skip ?_
  show DC _ _ _ _ _ _
  refine DC.seq ?_
  refine DC.region ?_
  refine DL.y rfl rfl (Y.build (cs := #[.int .i64 52, .int .i64 11, .int .i64 (-1023)]) (by kernel_rfl)) ?_
  refine DL.storeA rfl F.ag235 rfl rfl rfl (by kernel_rfl) hb2 rfl ?_
  intro w3 f4 hs5 hb2'
  replace FR := FR.put f4 (by intro i hi; simp only [List.mem_cons, List.mem_singleton, List.not_mem_nil, or_false] at hi; rcases hi with rfl; all_goals (first | (left; simp; done) | (right; omega)))
  replace hi2 := Nat.lt_of_lt_of_le hi2 f4.size
  replace hb2 := hb2'
  refine DL.nil ?_
  show DC _ _ _ _ _ _
  refine DC.ret ?_
  exact FinQ.retC (cs := #[.int .i64 52, .int .i64 11, .int .i64 (-1023)]) rfl F.ag235 (CellsAt.ofBlk hb2) (Ret.mk FR rfl)


theorem numL_half {a : List Nat} {dp z : Int} {h : Nat} (H : Half a dp h) (hz : z.natAbs = h) : (if z < 0 then [45] else []) ++ (textD a).map UInt8.ofNat = numL z := by
 have hl := H.canon.pos
 have ho := H.odd
 have hv : val a = 5 * h := H.val
 obtain ⟨m, hm⟩ : ∃ m, a.length = m + 1 := ⟨a.length - 1, by omega⟩
 have hs := val_mod hm
 have hd := H.canon.lt m
 have h5 : dg a m = 5 := by omega
 have hp : pre a m = h / 2 := by omega
 unfold numL textD
 rw [hz, if_pos ho, show a.length - 1 = m by omega, h5]
 have e2 : (wholeD a).map UInt8.ofNat = decL (h / 2) := by
  unfold wholeD
  split
  ·have : m = 0 := by omega
   subst this
   rw [show h / 2 = 0 by rw [← hp]; rfl, decL_lt (by decide)]; rfl
  ·have ht : val (a.take m) = h / 2 := by rw [val_take (by omega), hp]
   rw [show a.length - 1 = m by omega, ← ht, decL_digits (a.take m) (dg_take_lt H.canon.lt m) (by rw [dg_take (by omega)]; exact H.canon.first), List.map_map]
   rfl
 rw [List.map_append, e2]
 simp only [List.append_assoc]
 rfl
theorem or_top' {f i : Nat} (hf : f < 2 ^ i) : f ||| 2 ^ i = f + 2 ^ i := by
 rw [Nat.or_comm]
 have := Nat.two_pow_add_eq_or_of_lt (i := i) (b := f) hf 1
 rw [Nat.mul_one] at this
 rw [← this, Nat.add_comm]
theorem or_top {f : Nat} (hf : f < 4503599627370496) : f ||| 4503599627370496 = f + 4503599627370496 := by
 have := or_top' (f := f) (i := 52) (by simpa using hf)
 simpa using this

set_option maxHeartbeats 1000000 in
theorem FormatFloat_any (s q f h : Nat) (z : Int) (hs : s ≤ 1) (hsz : s = 1 ↔ z < 0) (hq : q ≤ 52) (hf : f < 4503599627370496) (hz : z.natAbs = h) (ho : h % 2 = 1) (hfm : f + 4503599627370496 = h * 2 ^ q) (w : World) : Calls Tryz.prog 198 #[.float .f64 (s * 9223372036854775808 + (1074 - q) * 4503599627370496 + f), .int .u8 102, .int .i64 (-1), .int .i64 64] w (Ret w [] fun r w' => ∃ b : ByteArray, r = .string b ∧ b.data.toList = numL z) := by
 have hE1 : ∀ _ : Unit, s * 2048 + (1074 - q) < 2 ^ IntKind.i64.bits := fun _ => by clear hfm; show _ < 18446744073709551616; omega
 have hE2 : ∀ _ : Unit, 2047 < 2 ^ IntKind.i64.bits := fun _ => by clear hfm; show _ < 18446744073709551616; omega
 have hm5 : ∀ _ : Unit, (f + 4503599627370496) * 5 ^ (q + 1) = 5 * h * 10 ^ q := fun _ => by rw [hfm, Nat.pow_succ, show (10 : Nat) ^ q = 2 ^ q * 5 ^ q by rw [← Nat.mul_pow]]; simp only [Nat.mul_comm, Nat.mul_assoc, Nat.mul_left_comm]
 have hfm1 : ∀ _ : Unit, f + 4503599627370496 = h * 2 ^ q := fun _ => hfm
 clear hfm
 have hWl : (s * 9223372036854775808 + (1074 - q) * 4503599627370496 + f) < 18446744073709551616 := by omega
 refine calls_of Tryz.func198 rfl rfl rfl rfl ?_
 have FR := Fr.refl [] w
 refine DC.seq ?_
 refine DC.region ?_
 refine DL.y rfl rfl (Y.assign) ?_
 refine DL.nil ?_
 show DC _ _ _ _ _ _
 refine DC.seq ?_
 refine DC.region ?_
 refine DL.y rfl rfl (Y.assign) ?_
 refine DL.nil ?_
 show DC _ _ _ _ _ _
 refine DC.seq ?_
 refine DC.seq ?_
 refine DC.region ?_
 refine DL.y rfl rfl (Y.move) ?_
 refine DL.nil ?_
 show DC _ _ _ _ _ _
 refine DC.block ?_
 refine DC.seq ?_
 refine DC.region ?_
 refine DL.if rfl rfl (Y.eq rfl rfl) (fun c22 => ?_) (fun c22 => ?_)
 ·exfalso; omega
 ·refine DL.y rfl rfl (Y.assign) ?_
  refine DL.nil ?_
  show DC _ _ _ _ _ _
  refine DC.condF rfl ?_
  refine DC.seq ?_
  refine DC.region ?_
  refine DL.if rfl rfl (Y.eq rfl rfl) (fun c28 => ?_) (fun c28 => ?_)
  ·refine DL.y rfl rfl (Y.assign) ?_
   refine DL.nil ?_
   show DC _ _ _ _ _ _
   refine DC.condT rfl ?_
   refine DC.region ?_
   refine DL.y rfl rfl (Y.move) ?_
   refine DL.y rfl rfl (Y.ext1 (fn := Tryz.f161) (en := Extern.MathFloatBits.float64bits) (a := .float .f64 (s * 9223372036854775808 + (1074 - q) * 4503599627370496 + f)) (v := .int .u64 (((s * 9223372036854775808 + (1074 - q) * 4503599627370496 + f) : Nat) : Int)) Tryz.func161 (by kernel_rfl) (by kernel_rfl) (by kernel_rfl) (by kernel_rfl) rfl rfl) ?_
   refine DL.y rfl rfl (Y.assign) ?_
   refine DL.nil ?_
   show DC _ _ _ _ _ _
   refine DC.seq ?_
   refine DC.region ?_
   refine DL.y rfl rfl (Y.move) ?_
   refine DL.call rfl rfl F.nm207 rfl (formOf_any _) ?_
   rintro _ w1 f2 rfl
   replace FR := FR.tr0 f2
   refine DL.alloc rfl rfl F.z235 rfl ?_
   intro b10 w3 f4 lo10 hi10 hb10
   replace lo10 := Nat.le_trans FR.size lo10
   replace FR := FR.tr0 f4
   refine DL.storeA rfl F.ag235 rfl rfl rfl (by kernel_rfl) hb10 rfl ?_
   intro w5 f6 hs7 hb10'
   replace FR := FR.put f6 (by intro i hi; simp only [List.mem_cons, List.mem_singleton, List.not_mem_nil, or_false] at hi; rcases hi with rfl; all_goals (first | (left; simp; done) | (right; omega)))
   replace hi10 := Nat.lt_of_lt_of_le hi10 f6.size
   replace hb10 := hb10'
   refine DL.nil ?_
   show DC _ _ _ _ _ _
   refine DC.seq ?_
   refine DC.region ?_
   refine DL.y rfl rfl (Y.assign) ?_
   refine DL.nil ?_
   show DC _ _ _ _ _ _
   refine DC.seq ?_
   refine DC.seq ?_
   refine DC.region ?_
   refine DL.y rfl rfl (Y.move) ?_
   refine DL.y rfl rfl (Y.field F.fd235_0 rfl) ?_
   refine DL.y rfl rfl (Y.loadB F.sc3 rfl hb10 rfl) ?_
   refine DL.y rfl rfl (Y.field F.fd235_1 rfl) ?_
   refine DL.y rfl rfl (Y.loadB F.sc3 rfl hb10 rfl) ?_
   refine DL.y rfl rfl (Y.addI (c := 63) rfl rfl (by omega) (by omega) (by omega)) ?_
   refine DL.y rfl rfl (Y.shrN (k := .u64) (k' := .i64) (m := 63) (a := (s * 9223372036854775808 + (1074 - q) * 4503599627370496 + f)) (c := s) rfl rfl (by decide) (by show _ / 2 ^ 63 = _; omega)) ?_
   refine DL.if rfl rfl (Y.ne rfl rfl) (fun c40 => ?_) (fun c40 => ?_)
   ·have hs1 : s = 1 := by omega
    have hzn : z < 0 := hsz.1 hs1
    refine DL.nil ?_
    show DC _ _ _ _ _ _
    refine DC.condT rfl ?_
    refine DC.region ?_
    refine DL.y rfl rfl (Y.assign) ?_
    refine DL.nil ?_
    show DC _ _ _ _ _ _
    refine DC.seq ?_
    refine DC.still F.mixed (by kernel_rfl) ?_
    intro w8 f9 hsw8
    replace FR := FR.tr0 f9
    replace hi10 := Nat.lt_of_lt_of_le hi10 f9.size
    replace hb10 := f9.blk0 hb10
    refine DS.y rfl rfl (Y.move) ?_
    refine DS.y rfl rfl (Y.field F.fd235_0 rfl) ?_
    refine DS.y rfl rfl (Y.loadB F.sc3 rfl hb10 rfl) ?_
    refine DS.y rfl rfl (Y.shrN (k := .u64) (k' := .i64) (m := 52) (a := (s * 9223372036854775808 + (1074 - q) * 4503599627370496 + f)) (c := s * 2048 + (1074 - q)) rfl rfl (by decide) (by show _ / 2 ^ 52 = _; omega)) ?_
    refine DS.y rfl rfl (Y.convC (c := ((s * 2048 + (1074 - q) : Nat) : Int)) F.us93 Tryz.underlying3 rfl (wrap_i64 (by omega) (by omega))) ?_
    refine DS.y rfl rfl (Y.field F.fd235_1 rfl) ?_
    refine DS.y rfl rfl (Y.loadB F.sc3 rfl hb10 rfl) ?_
    refine DS.y rfl rfl (Y.shlN (k := .i64) (k' := .i64) (m := 11) (a := 1) (c := 2048) rfl rfl (by decide) (by decide)) ?_
    refine DS.y rfl rfl (Y.subI (c := ((2047 : Nat) : Int)) rfl rfl (by omega) (by omega) (by omega)) ?_
    refine DS.y rfl rfl (Y.andN (k := .i64) (a := s * 2048 + (1074 - q)) (b := 2047) (c := ((1074 - q : Nat) : Int)) rfl rfl (hE1 ()) (hE2 ()) (by rw [show (2047 : Nat) = 2 ^ 11 - 1 from rfl, Nat.and_two_pow_sub_one_eq_mod, show (s * 2048 + (1074 - q)) % 2 ^ 11 = 1074 - q by omega]; exact wrap_i64 (by omega) (by omega))) ?_
    refine DS.y rfl rfl (Y.move) ?_
    refine DS.y rfl rfl (Y.field F.fd235_0 rfl) ?_
    refine DS.y rfl rfl (Y.loadB F.sc3 rfl hb10 rfl) ?_
    refine DS.y rfl rfl (Y.shlN (k := .u64) (k' := .i64) (m := 52) (a := 1) (c := 4503599627370496) rfl rfl (by decide) (by decide)) ?_
    refine DS.y rfl rfl (Y.subC (c := ((4503599627370495 : Nat) : Int)) rfl rfl (by decide)) ?_
    refine DS.y rfl rfl (Y.andN (k := .u64) (a := (s * 9223372036854775808 + (1074 - q) * 4503599627370496 + f)) (b := 4503599627370495) (c := ((f : Nat) : Int)) rfl rfl (by show _ < 18446744073709551616; omega) (by show _ < 18446744073709551616; omega) (by rw [show (4503599627370495 : Nat) = 2 ^ 52 - 1 from rfl, Nat.and_two_pow_sub_one_eq_mod, show (s * 9223372036854775808 + (1074 - q) * 4503599627370496 + f) % 2 ^ 52 = f by omega]; exact wrap_u64 (by omega))) ?_
    refine DS.y rfl rfl (Y.assign) ?_
    refine DS.y rfl rfl (Y.assign) ?_
    refine DS.nil ?_
    show DC _ _ _ _ _ _
    refine DC.forget [(1, .int .u8 102), (2, .int .i64 (-1)), (10, (.pointer (some ⟨b10, 0, none⟩))), (11, .string ⟨#[45]⟩), (12, .int .i64 (((1074 - q : Nat) : Int))), (13, .int .u64 ((f : Nat) : Int))] ⟨rfl, rfl, rfl, rfl, rfl, rfl⟩ (fun e0 => ?_)
    refine DC.seq ?_
    refine DC.block ?_
    refine DC.seq ?_
    refine DC.region ?_
    refine DL.y rfl rfl (Y.move) ?_
    refine DL.y rfl rfl (Y.field F.fd235_1 rfl) ?_
    refine DL.y rfl rfl (Y.loadB F.sc3 rfl hb10 rfl) ?_
    refine DL.y rfl rfl (Y.shlN (k := .i64) (k' := .i64) (m := 11) (a := 1) (c := 2048) rfl rfl (by decide) (by decide)) ?_
    refine DL.y rfl rfl (Y.subI (c := ((2047 : Nat) : Int)) rfl rfl (by omega) (by omega) (by omega)) ?_
    refine DL.if rfl rfl (Y.eq rfl rfl) (fun c68 => ?_) (fun c68 => ?_)
    ·exfalso; omega
    ·refine DL.y rfl rfl (Y.move) ?_
     refine DL.skip rfl rfl ?_
     refine DL.skip rfl rfl ?_
     refine DL.y rfl rfl (Y.pickF rfl) ?_
     refine DL.y rfl rfl (Y.assign) ?_
     refine DL.nil ?_
     show DC _ _ _ _ _ _
     refine DC.condF rfl ?_
     refine DC.seq ?_
     refine DC.region ?_
     refine DL.y rfl rfl (Y.move) ?_
     refine DL.y rfl rfl (Y.field F.fd235_1 rfl) ?_
     refine DL.y rfl rfl (Y.loadB F.sc3 rfl hb10 rfl) ?_
     refine DL.y rfl rfl (Y.shlN (k := .i64) (k' := .i64) (m := 11) (a := 1) (c := 2048) rfl rfl (by decide) (by decide)) ?_
     refine DL.y rfl rfl (Y.subI (c := ((2047 : Nat) : Int)) rfl rfl (by omega) (by omega) (by omega)) ?_
     refine DL.if rfl rfl (Y.eq rfl rfl) (fun c79 => ?_) (fun c79 => ?_)
     ·exfalso; omega
     ·refine DL.y rfl rfl (Y.move) ?_
      refine DL.skip rfl rfl ?_
      refine DL.skip rfl rfl ?_
      refine DL.y rfl rfl (Y.pickF rfl) ?_
      refine DL.y rfl rfl (Y.assign) ?_
      refine DL.nil ?_
      show DC _ _ _ _ _ _
      refine DC.condF rfl ?_
      refine DC.seq ?_
      refine DC.region ?_
      refine DL.y rfl rfl (Y.move) ?_
      refine DL.y rfl rfl (Y.field F.fd235_1 rfl) ?_
      refine DL.y rfl rfl (Y.loadB F.sc3 rfl hb10 rfl) ?_
      refine DL.y rfl rfl (Y.shlN (k := .i64) (k' := .i64) (m := 11) (a := 1) (c := 2048) rfl rfl (by decide) (by decide)) ?_
      refine DL.y rfl rfl (Y.subI (c := ((2047 : Nat) : Int)) rfl rfl (by omega) (by omega) (by omega)) ?_
      refine DL.if rfl rfl (Y.eq rfl rfl) (fun c90 => ?_) (fun c90 => ?_)
      ·exfalso; omega
      ·refine DL.y rfl rfl (Y.assign) ?_
       refine DL.nil ?_
       show DC _ _ _ _ _ _
       refine DC.condF rfl ?_
       refine DC.seq ?_
       refine DC.region ?_
       refine DL.y rfl rfl (Y.move) ?_
       refine DL.if rfl rfl (Y.eq rfl rfl) (fun c93 => ?_) (fun c93 => ?_)
       ·exfalso; omega
       ·refine DL.y rfl rfl (Y.assign) ?_
        refine DL.nil ?_
        show DC _ _ _ _ _ _
        refine DC.condF rfl ?_
        refine DC.region ?_
        refine DL.y rfl rfl (Y.move) ?_
        refine DL.y rfl rfl (Y.field F.fd235_0 rfl) ?_
        refine DL.y rfl rfl (Y.loadB F.sc3 rfl hb10 rfl) ?_
        refine DL.y rfl rfl (Y.shlN (k := .u64) (k' := .i64) (m := 52) (a := 1) (c := ((4503599627370496 : Nat) : Int)) rfl rfl (by decide) (by decide)) ?_
        refine DL.y rfl rfl (Y.orN (k := .u64) (a := f) (b := 4503599627370496) (c := ((f + 4503599627370496 : Nat) : Int)) rfl rfl (by show _ < 18446744073709551616; omega) (by show _ < 18446744073709551616; omega) (by rw [or_top hf]; exact wrap_u64 (by omega))) ?_
        refine DL.y rfl rfl (Y.assign) ?_
        refine DL.nil ?_
        show DC _ _ _ _ _ _
        refine DC.forget [(1, .int .u8 102), (2, .int .i64 (-1)), (10, (.pointer (some ⟨b10, 0, none⟩))), (11, .string ⟨#[45]⟩), (12, .int .i64 (((1074 - q : Nat) : Int))), (13, .int .u64 ((f + 4503599627370496 : Nat) : Int))] ⟨rfl, rfl, rfl, rfl, rfl, rfl⟩ (fun e0 => ?_)
        refine DC.seq ?_
        refine DC.region ?_
        refine DL.y rfl rfl (Y.move) ?_
        refine DL.y rfl rfl (Y.field F.fd235_2 rfl) ?_
        refine DL.y rfl rfl (Y.loadB F.sc3 rfl hb10 rfl) ?_
        refine DL.y rfl rfl (Y.addI (c := 52 - ((q + 1 : Nat) : Int)) rfl rfl (by omega) (by omega) (by omega)) ?_
        refine DL.y rfl rfl (Y.assign) ?_
        refine DL.nil ?_
        show DC _ _ _ _ _ _
        refine DC.forget [(1, .int .u8 102), (2, .int .i64 (-1)), (10, (.pointer (some ⟨b10, 0, none⟩))), (11, .string ⟨#[45]⟩), (12, .int .i64 (52 - ((q + 1 : Nat) : Int))), (13, .int .u64 ((f + 4503599627370496 : Nat) : Int))] ⟨rfl, rfl, rfl, rfl, rfl, rfl⟩ (fun e0 => ?_)
        refine DC.seq ?_
        refine DC.seq ?_
        refine DC.region ?_
        refine DL.y rfl rfl (Y.move) ?_
        refine DL.if rfl rfl (Y.eq rfl rfl) (fun c101 => ?_) (fun c101 => ?_)
        ·exfalso; omega
        ·refine DL.nil ?_
         show DC _ _ _ _ _ _
         refine DC.condF rfl ?_
         refine DC.skip ?_
         show DC _ _ _ _ _ _
         refine DC.forget [(1, .int .u8 102), (2, .int .i64 (-1)), (10, (.pointer (some ⟨b10, 0, none⟩))), (11, .string ⟨#[45]⟩), (12, .int .i64 (52 - ((q + 1 : Nat) : Int))), (13, .int .u64 ((f + 4503599627370496 : Nat) : Int))] ⟨rfl, rfl, rfl, rfl, rfl, rfl⟩ (fun e0 => ?_)
         refine DC.seq ?_
         refine DC.region ?_
         refine DL.y rfl rfl (Y.move) ?_
         have hpA := FR.size
         have h10A := hi10
         refine DL.call rfl rfl F.nm209 rfl (newDecimal_any (f + 4503599627370496) (by omega) (by omega) _) ?_
         rintro _ w10 f11 ⟨cA, XA, tA, rfl, pA, hDA, hVA⟩
         replace FR := FR.tr0 f11
         replace hi10 := Nat.lt_of_lt_of_le hi10 f11.size
         replace hb10 := f11.blk0 hb10
         have hcA : w.heap.size ≤ cA := by have := hDA.lo; omega
         have hc10 : b10 < cA := by have := hDA.lo; omega
         have hqA := hVA.bound (L := 18) (by omega)
         refine DL.y rfl rfl (Y.assign) ?_
         refine DL.nil ?_
         show DC _ _ _ _ _ _
         refine DC.seq ?_
         refine DC.region ?_
         refine DL.y rfl rfl (Y.move) ?_
         refine DL.y rfl rfl (Y.move) ?_
         refine DL.y rfl rfl (Y.field F.fd235_0 rfl) ?_
         refine DL.y rfl rfl (Y.loadB F.sc3 rfl hb10 rfl) ?_
         refine DL.y rfl rfl (Y.subI (c := -((q + 1 : Nat) : Int)) rfl rfl (by omega) (by omega) (by omega)) ?_
         refine DL.call rfl rfl F.nm210 rfl (shift_any (k := q + 1) hDA hVA.canon (by omega) (by omega) (by omega) (by omega) hDA.base.1) ?_
         rintro _ w12 f13 ⟨rfl, XB, tB, pB, hDB, hXsB, hWB⟩
         replace FR := FR.put f13 (by intro i hi; simp only [List.mem_cons, List.mem_singleton, List.not_mem_nil, or_false] at hi; rcases hi with rfl; all_goals (first | (left; simp; done) | (right; omega)))
         replace hi10 := Nat.lt_of_lt_of_le hi10 f13.size
         replace hb10 := f13.blk hb10 (by simp only [List.mem_cons, List.not_mem_nil, or_false, not_or]; omega)
         try (replace hDA := Dm.fr0 hDA f13)
         replace hWB := hWB _ _ hVA
         rw [Nat.zero_add] at hWB
         have hDh : Dv tB pB (5 * h) 1 := hWB.scale (a := 0) (b := q) (by rw [hm5 (), Nat.pow_zero, Nat.mul_one]) (by omega)
         have H := half_of hDh ho
         have hql := hWB.bound (L := 80) (big80 (by omega) (by omega))
         have hHd := H.dp
         refine DL.nil ?_
         show DC _ _ _ _ _ _
         refine DC.forget [(1, .int .u8 102), (2, .int .i64 (-1)), (10, (.pointer (some ⟨b10, 0, none⟩))), (11, .string ⟨#[45]⟩), (12, .int .i64 (52 - ((q + 1 : Nat) : Int))), (13, .int .u64 ((f + 4503599627370496 : Nat) : Int)), (15, (.pointer (some ⟨cA, 0, none⟩)))] ⟨rfl, rfl, rfl, rfl, rfl, rfl, rfl⟩ (fun e0 => ?_)
         refine DC.seq ?_
         refine DC.region ?_
         refine DL.y rfl rfl (Y.move) ?_
         refine DL.if rfl rfl (Y.lt rfl rfl) (fun c128 => ?_) (fun c128 => ?_)
         ·refine DL.y rfl rfl (Y.assign) ?_
          refine DL.nil ?_
          show DC _ _ _ _ _ _
          refine DC.seq ?_
          refine DC.block ?_
          refine DC.seq ?_
          refine DC.region ?_
          refine DL.y rfl rfl (Y.move) ?_
          refine DL.y rfl rfl (Y.assign) ?_
          refine DL.nil ?_
          show DC _ _ _ _ _ _
          refine DC.condT rfl ?_
          refine DC.seq ?_
          refine DC.region ?_
          refine DL.y rfl rfl (Y.move) ?_
          refine DL.y rfl rfl (Y.move) ?_
          refine DL.y rfl rfl (Y.move) ?_
          refine DL.y rfl rfl (Y.loadW rfl hb10 F.ag235) ?_
          refine DL.call rfl rfl F.nm211 rfl (short_any (k := q + 1) (m := f + 4503599627370496) hDB H (hfm1 ()) (by omega) (by omega) (by omega) (by omega) (by omega) (by omega)) ?_
          rintro _ w14 f15 rfl
          replace FR := FR.tr0 f15
          replace hi10 := Nat.lt_of_lt_of_le hi10 f15.size
          replace hb10 := f15.blk0 hb10
          try (replace hDA := Dm.fr0 hDA f15)
          try (replace hDB := Dm.fr0 hDB f15)
          obtain ⟨vd, hbc, hvd, hXe⟩ := hDB.out
          obtain ⟨ad, capd, rfl, _, _⟩ := own_cells hvd
          refine DL.y rfl rfl (Y.assign) ?_
          refine DL.nil ?_
          show DC _ _ _ _ _ _
          refine DC.forget [(1, .int .u8 102), (2, .int .i64 (-1)), (10, (.pointer (some ⟨b10, 0, none⟩))), (11, .string ⟨#[45]⟩), (15, (.pointer (some ⟨cA, 0, none⟩)))] ⟨rfl, rfl, rfl, rfl, rfl⟩ (fun e0 => ?_)
          refine DC.seq ?_
          refine DC.region ?_
          refine DL.y rfl rfl (Y.move) ?_
          refine DL.nil ?_
          show DC _ _ _ _ _ _
          refine DC.block ?_
          refine DC.seq ?_
          refine DC.seq ?_
          refine DC.region ?_
          refine DL.if rfl rfl (Y.eq rfl rfl) (fun c138 => ?_) (fun c138 => ?_)
          ·exfalso; omega
          ·refine DL.y rfl rfl (Y.assign) ?_
           refine DL.nil ?_
           show DC _ _ _ _ _ _
           refine DC.condF rfl ?_
           refine DC.region ?_
           refine DL.if rfl rfl (Y.eq rfl rfl) (fun c139 => ?_) (fun c139 => ?_)
           ·exfalso; omega
           ·refine DL.y rfl rfl (Y.assign) ?_
            refine DL.nil ?_
            show DC _ _ _ _ _ _
            refine DC.condF rfl ?_
            refine DC.seq ?_
            refine DC.region ?_
            refine DL.if rfl rfl (Y.eq rfl rfl) (fun c147 => ?_) (fun c147 => ?_)
            ·refine DL.y rfl rfl (Y.assign) ?_
             refine DL.nil ?_
             show DC _ _ _ _ _ _
             refine DC.condT rfl ?_
             refine DC.still F.mixed (by kernel_rfl) ?_
             intro w16 f17 hsw16
             replace FR := FR.tr0 f17
             replace hi10 := Nat.lt_of_lt_of_le hi10 f17.size
             replace hb10 := f17.blk0 hb10
             try (replace hDA := Dm.fr0 hDA f17)
             try (replace hDB := Dm.fr0 hDB f17)
             replace hbc := f17.blk0 hbc
             refine DS.y rfl rfl (Y.move) ?_
             refine DS.y rfl rfl (Y.nil rfl) ?_
             refine DS.y rfl rfl (Y.field F.fd242_0 rfl) ?_
             refine DS.y rfl rfl (Y.loadB F.sc107 rfl hbc rfl) ?_
             refine DS.y rfl rfl (Y.lenS Tryz.underlying107 rfl) ?_
             refine DS.y rfl rfl (Y.move) ?_
             refine DS.y rfl rfl (Y.nil rfl) ?_
             refine DS.y rfl rfl (Y.field F.fd242_1 rfl) ?_
             refine DS.y rfl rfl (Y.loadB F.sc3 rfl hbc rfl) ?_
             refine DS.y rfl rfl (Y.subI (c := 1) rfl rfl (by omega) (by omega) (by omega)) ?_
             refine DS.y rfl rfl (Y.bmax (a := .int .i64 1) (b := .int .i64 0) (v := .int .i64 1) rfl rfl (by rw [max_int]; rfl)) ?_
             refine DS.y rfl rfl (Y.assign) ?_
             refine DS.nil ?_
             show DC _ _ _ _ _ _
             refine DC.forget [(1, .int .u8 102), (2, .int .i64 1), (10, (.pointer (some ⟨b10, 0, none⟩))), (11, .string ⟨#[45]⟩), (15, (.pointer (some ⟨cA, 0, none⟩)))] ⟨rfl, rfl, rfl, rfl, rfl⟩ (fun e0 => ?_)
             refine DC.seq ?_
             refine DC.seq ?_
             refine DC.region ?_
             refine DL.y rfl rfl (Y.move) ?_
             refine DL.nil ?_
             show DC _ _ _ _ _ _
             refine DC.block ?_
             refine DC.seq ?_
             refine DC.seq ?_
             refine DC.region ?_
             refine DL.if rfl rfl (Y.eq rfl rfl) (fun c203 => ?_) (fun c203 => ?_)
             ·exfalso; omega
             ·refine DL.y rfl rfl (Y.assign) ?_
              refine DL.nil ?_
              show DC _ _ _ _ _ _
              refine DC.condF rfl ?_
              refine DC.region ?_
              refine DL.if rfl rfl (Y.eq rfl rfl) (fun c204 => ?_) (fun c204 => ?_)
              ·exfalso; omega
              ·refine DL.y rfl rfl (Y.assign) ?_
               refine DL.nil ?_
               show DC _ _ _ _ _ _
               refine DC.condF rfl ?_
               refine DC.seq ?_
               refine DC.region ?_
               refine DL.if rfl rfl (Y.eq rfl rfl) (fun c212 => ?_) (fun c212 => ?_)
               ·refine DL.y rfl rfl (Y.assign) ?_
                refine DL.nil ?_
                show DC _ _ _ _ _ _
                refine DC.condT rfl ?_
                refine DC.seq ?_
                refine DC.region ?_
                refine DL.y rfl rfl (Y.move) ?_
                refine DL.y rfl rfl (Y.move) ?_
                refine DL.y rfl rfl (Y.move) ?_
                refine DL.y rfl rfl (Y.bmax (a := .int .i64 1) (b := .int .i64 0) (v := .int .i64 1) rfl rfl (by rw [max_int]; rfl)) ?_
                refine DL.call rfl rfl F.nm214 rfl (dtext_any hDB H.canon.lt H.dp (by have := H.canon.pos; omega) (by omega)) ?_
                rintro _ w18 f19 ⟨s217, rfl, hs217⟩
                replace FR := FR.tr0 f19
                replace hi10 := Nat.lt_of_lt_of_le hi10 f19.size
                replace hb10 := f19.blk0 hb10
                try (replace hDA := Dm.fr0 hDA f19)
                try (replace hDB := Dm.fr0 hDB f19)
                replace hbc := f19.blk0 hbc
                have hd2 : ∃ d2, d2 = tB := ⟨_, rfl⟩
                obtain ⟨d2, hd2⟩ := hd2
                rw [← hd2] at hs217
                have hdl2 : d2.length ≤ 80 := by rw [hd2]; omega
                refine DL.catE rfl rfl rfl rfl (by have e := size_list s217; rw [hs217, List.length_map] at e; have e2 : (textD d2).length ≤ 1000 := (by { unfold textD wholeD; split <;> simp <;> omega }); rw [show (⟨#[45]⟩ : ByteArray).size = 1 from rfl]; omega) (fun c218 h218 => ?_)
                refine DL.y rfl rfl (Y.assign) ?_
                refine DL.nil ?_
                show DC _ _ _ _ _ _
                refine DC.ret ?_
                refine FinQ.ret1 rfl (Ret.mk FR ⟨c218, rfl, ?_⟩)
                rw [h218, hs217, ← numL_half H hz]
                rw [if_pos (by omega), hd2]
               ·exfalso; omega
            ·exfalso; omega
         ·exfalso; omega
   ·have hs0 : ¬ s = 1 := by omega
    have hzn : ¬ z < 0 := fun h => hs0 (hsz.2 h)
    refine DL.nil ?_
    show DC _ _ _ _ _ _
    refine DC.condF rfl ?_
    refine DC.skip ?_
    show DC _ _ _ _ _ _
    refine DC.seq ?_
    refine DC.still F.mixed (by kernel_rfl) ?_
    intro w20 f21 hsw20
    replace FR := FR.tr0 f21
    replace hi10 := Nat.lt_of_lt_of_le hi10 f21.size
    replace hb10 := f21.blk0 hb10
    refine DS.y rfl rfl (Y.move) ?_
    refine DS.y rfl rfl (Y.field F.fd235_0 rfl) ?_
    refine DS.y rfl rfl (Y.loadB F.sc3 rfl hb10 rfl) ?_
    refine DS.y rfl rfl (Y.shrN (k := .u64) (k' := .i64) (m := 52) (a := (s * 9223372036854775808 + (1074 - q) * 4503599627370496 + f)) (c := s * 2048 + (1074 - q)) rfl rfl (by decide) (by show _ / 2 ^ 52 = _; omega)) ?_
    refine DS.y rfl rfl (Y.convC (c := ((s * 2048 + (1074 - q) : Nat) : Int)) F.us93 Tryz.underlying3 rfl (wrap_i64 (by omega) (by omega))) ?_
    refine DS.y rfl rfl (Y.field F.fd235_1 rfl) ?_
    refine DS.y rfl rfl (Y.loadB F.sc3 rfl hb10 rfl) ?_
    refine DS.y rfl rfl (Y.shlN (k := .i64) (k' := .i64) (m := 11) (a := 1) (c := 2048) rfl rfl (by decide) (by decide)) ?_
    refine DS.y rfl rfl (Y.subI (c := ((2047 : Nat) : Int)) rfl rfl (by omega) (by omega) (by omega)) ?_
    refine DS.y rfl rfl (Y.andN (k := .i64) (a := s * 2048 + (1074 - q)) (b := 2047) (c := ((1074 - q : Nat) : Int)) rfl rfl (hE1 ()) (hE2 ()) (by rw [show (2047 : Nat) = 2 ^ 11 - 1 from rfl, Nat.and_two_pow_sub_one_eq_mod, show (s * 2048 + (1074 - q)) % 2 ^ 11 = 1074 - q by omega]; exact wrap_i64 (by omega) (by omega))) ?_
    refine DS.y rfl rfl (Y.move) ?_
    refine DS.y rfl rfl (Y.field F.fd235_0 rfl) ?_
    refine DS.y rfl rfl (Y.loadB F.sc3 rfl hb10 rfl) ?_
    refine DS.y rfl rfl (Y.shlN (k := .u64) (k' := .i64) (m := 52) (a := 1) (c := 4503599627370496) rfl rfl (by decide) (by decide)) ?_
    refine DS.y rfl rfl (Y.subC (c := ((4503599627370495 : Nat) : Int)) rfl rfl (by decide)) ?_
    refine DS.y rfl rfl (Y.andN (k := .u64) (a := (s * 9223372036854775808 + (1074 - q) * 4503599627370496 + f)) (b := 4503599627370495) (c := ((f : Nat) : Int)) rfl rfl (by show _ < 18446744073709551616; omega) (by show _ < 18446744073709551616; omega) (by rw [show (4503599627370495 : Nat) = 2 ^ 52 - 1 from rfl, Nat.and_two_pow_sub_one_eq_mod, show (s * 9223372036854775808 + (1074 - q) * 4503599627370496 + f) % 2 ^ 52 = f by omega]; exact wrap_u64 (by omega))) ?_
    refine DS.y rfl rfl (Y.assign) ?_
    refine DS.y rfl rfl (Y.assign) ?_
    refine DS.nil ?_
    show DC _ _ _ _ _ _
    refine DC.forget [(1, .int .u8 102), (2, .int .i64 (-1)), (10, (.pointer (some ⟨b10, 0, none⟩))), (11, .string ⟨#[]⟩), (12, .int .i64 (((1074 - q : Nat) : Int))), (13, .int .u64 ((f : Nat) : Int))] ⟨rfl, rfl, rfl, rfl, rfl, rfl⟩ (fun e0 => ?_)
    refine DC.seq ?_
    refine DC.block ?_
    refine DC.seq ?_
    refine DC.region ?_
    refine DL.y rfl rfl (Y.move) ?_
    refine DL.y rfl rfl (Y.field F.fd235_1 rfl) ?_
    refine DL.y rfl rfl (Y.loadB F.sc3 rfl hb10 rfl) ?_
    refine DL.y rfl rfl (Y.shlN (k := .i64) (k' := .i64) (m := 11) (a := 1) (c := 2048) rfl rfl (by decide) (by decide)) ?_
    refine DL.y rfl rfl (Y.subI (c := ((2047 : Nat) : Int)) rfl rfl (by omega) (by omega) (by omega)) ?_
    refine DL.if rfl rfl (Y.eq rfl rfl) (fun c68 => ?_) (fun c68 => ?_)
    ·exfalso; omega
    ·refine DL.y rfl rfl (Y.move) ?_
     refine DL.skip rfl rfl ?_
     refine DL.skip rfl rfl ?_
     refine DL.y rfl rfl (Y.pickF rfl) ?_
     refine DL.y rfl rfl (Y.assign) ?_
     refine DL.nil ?_
     show DC _ _ _ _ _ _
     refine DC.condF rfl ?_
     refine DC.seq ?_
     refine DC.region ?_
     refine DL.y rfl rfl (Y.move) ?_
     refine DL.y rfl rfl (Y.field F.fd235_1 rfl) ?_
     refine DL.y rfl rfl (Y.loadB F.sc3 rfl hb10 rfl) ?_
     refine DL.y rfl rfl (Y.shlN (k := .i64) (k' := .i64) (m := 11) (a := 1) (c := 2048) rfl rfl (by decide) (by decide)) ?_
     refine DL.y rfl rfl (Y.subI (c := ((2047 : Nat) : Int)) rfl rfl (by omega) (by omega) (by omega)) ?_
     refine DL.if rfl rfl (Y.eq rfl rfl) (fun c79 => ?_) (fun c79 => ?_)
     ·exfalso; omega
     ·refine DL.y rfl rfl (Y.move) ?_
      refine DL.skip rfl rfl ?_
      refine DL.skip rfl rfl ?_
      refine DL.y rfl rfl (Y.pickF rfl) ?_
      refine DL.y rfl rfl (Y.assign) ?_
      refine DL.nil ?_
      show DC _ _ _ _ _ _
      refine DC.condF rfl ?_
      refine DC.seq ?_
      refine DC.region ?_
      refine DL.y rfl rfl (Y.move) ?_
      refine DL.y rfl rfl (Y.field F.fd235_1 rfl) ?_
      refine DL.y rfl rfl (Y.loadB F.sc3 rfl hb10 rfl) ?_
      refine DL.y rfl rfl (Y.shlN (k := .i64) (k' := .i64) (m := 11) (a := 1) (c := 2048) rfl rfl (by decide) (by decide)) ?_
      refine DL.y rfl rfl (Y.subI (c := ((2047 : Nat) : Int)) rfl rfl (by omega) (by omega) (by omega)) ?_
      refine DL.if rfl rfl (Y.eq rfl rfl) (fun c90 => ?_) (fun c90 => ?_)
      ·exfalso; omega
      ·refine DL.y rfl rfl (Y.assign) ?_
       refine DL.nil ?_
       show DC _ _ _ _ _ _
       refine DC.condF rfl ?_
       refine DC.seq ?_
       refine DC.region ?_
       refine DL.y rfl rfl (Y.move) ?_
       refine DL.if rfl rfl (Y.eq rfl rfl) (fun c93 => ?_) (fun c93 => ?_)
       ·exfalso; omega
       ·refine DL.y rfl rfl (Y.assign) ?_
        refine DL.nil ?_
        show DC _ _ _ _ _ _
        refine DC.condF rfl ?_
        refine DC.region ?_
        refine DL.y rfl rfl (Y.move) ?_
        refine DL.y rfl rfl (Y.field F.fd235_0 rfl) ?_
        refine DL.y rfl rfl (Y.loadB F.sc3 rfl hb10 rfl) ?_
        refine DL.y rfl rfl (Y.shlN (k := .u64) (k' := .i64) (m := 52) (a := 1) (c := ((4503599627370496 : Nat) : Int)) rfl rfl (by decide) (by decide)) ?_
        refine DL.y rfl rfl (Y.orN (k := .u64) (a := f) (b := 4503599627370496) (c := ((f + 4503599627370496 : Nat) : Int)) rfl rfl (by show _ < 18446744073709551616; omega) (by show _ < 18446744073709551616; omega) (by rw [or_top hf]; exact wrap_u64 (by omega))) ?_
        refine DL.y rfl rfl (Y.assign) ?_
        refine DL.nil ?_
        show DC _ _ _ _ _ _
        refine DC.forget [(1, .int .u8 102), (2, .int .i64 (-1)), (10, (.pointer (some ⟨b10, 0, none⟩))), (11, .string ⟨#[]⟩), (12, .int .i64 (((1074 - q : Nat) : Int))), (13, .int .u64 ((f + 4503599627370496 : Nat) : Int))] ⟨rfl, rfl, rfl, rfl, rfl, rfl⟩ (fun e0 => ?_)
        refine DC.seq ?_
        refine DC.region ?_
        refine DL.y rfl rfl (Y.move) ?_
        refine DL.y rfl rfl (Y.field F.fd235_2 rfl) ?_
        refine DL.y rfl rfl (Y.loadB F.sc3 rfl hb10 rfl) ?_
        refine DL.y rfl rfl (Y.addI (c := 52 - ((q + 1 : Nat) : Int)) rfl rfl (by omega) (by omega) (by omega)) ?_
        refine DL.y rfl rfl (Y.assign) ?_
        refine DL.nil ?_
        show DC _ _ _ _ _ _
        refine DC.forget [(1, .int .u8 102), (2, .int .i64 (-1)), (10, (.pointer (some ⟨b10, 0, none⟩))), (11, .string ⟨#[]⟩), (12, .int .i64 (52 - ((q + 1 : Nat) : Int))), (13, .int .u64 ((f + 4503599627370496 : Nat) : Int))] ⟨rfl, rfl, rfl, rfl, rfl, rfl⟩ (fun e0 => ?_)
        refine DC.seq ?_
        refine DC.seq ?_
        refine DC.region ?_
        refine DL.y rfl rfl (Y.move) ?_
        refine DL.if rfl rfl (Y.eq rfl rfl) (fun c101 => ?_) (fun c101 => ?_)
        ·exfalso; omega
        ·refine DL.nil ?_
         show DC _ _ _ _ _ _
         refine DC.condF rfl ?_
         refine DC.skip ?_
         show DC _ _ _ _ _ _
         refine DC.forget [(1, .int .u8 102), (2, .int .i64 (-1)), (10, (.pointer (some ⟨b10, 0, none⟩))), (11, .string ⟨#[]⟩), (12, .int .i64 (52 - ((q + 1 : Nat) : Int))), (13, .int .u64 ((f + 4503599627370496 : Nat) : Int))] ⟨rfl, rfl, rfl, rfl, rfl, rfl⟩ (fun e0 => ?_)
         refine DC.seq ?_
         refine DC.region ?_
         refine DL.y rfl rfl (Y.move) ?_
         have hpA := FR.size
         have h10A := hi10
         refine DL.call rfl rfl F.nm209 rfl (newDecimal_any (f + 4503599627370496) (by omega) (by omega) _) ?_
         rintro _ w22 f23 ⟨cA, XA, tA, rfl, pA, hDA, hVA⟩
         replace FR := FR.tr0 f23
         replace hi10 := Nat.lt_of_lt_of_le hi10 f23.size
         replace hb10 := f23.blk0 hb10
         have hcA : w.heap.size ≤ cA := by have := hDA.lo; omega
         have hc10 : b10 < cA := by have := hDA.lo; omega
         have hqA := hVA.bound (L := 18) (by omega)
         refine DL.y rfl rfl (Y.assign) ?_
         refine DL.nil ?_
         show DC _ _ _ _ _ _
         refine DC.seq ?_
         refine DC.region ?_
         refine DL.y rfl rfl (Y.move) ?_
         refine DL.y rfl rfl (Y.move) ?_
         refine DL.y rfl rfl (Y.field F.fd235_0 rfl) ?_
         refine DL.y rfl rfl (Y.loadB F.sc3 rfl hb10 rfl) ?_
         refine DL.y rfl rfl (Y.subI (c := -((q + 1 : Nat) : Int)) rfl rfl (by omega) (by omega) (by omega)) ?_
         refine DL.call rfl rfl F.nm210 rfl (shift_any (k := q + 1) hDA hVA.canon (by omega) (by omega) (by omega) (by omega) hDA.base.1) ?_
         rintro _ w24 f25 ⟨rfl, XB, tB, pB, hDB, hXsB, hWB⟩
         replace FR := FR.put f25 (by intro i hi; simp only [List.mem_cons, List.mem_singleton, List.not_mem_nil, or_false] at hi; rcases hi with rfl; all_goals (first | (left; simp; done) | (right; omega)))
         replace hi10 := Nat.lt_of_lt_of_le hi10 f25.size
         replace hb10 := f25.blk hb10 (by simp only [List.mem_cons, List.not_mem_nil, or_false, not_or]; omega)
         try (replace hDA := Dm.fr0 hDA f25)
         replace hWB := hWB _ _ hVA
         rw [Nat.zero_add] at hWB
         have hDh : Dv tB pB (5 * h) 1 := hWB.scale (a := 0) (b := q) (by rw [hm5 (), Nat.pow_zero, Nat.mul_one]) (by omega)
         have H := half_of hDh ho
         have hql := hWB.bound (L := 80) (big80 (by omega) (by omega))
         have hHd := H.dp
         refine DL.nil ?_
         show DC _ _ _ _ _ _
         refine DC.forget [(1, .int .u8 102), (2, .int .i64 (-1)), (10, (.pointer (some ⟨b10, 0, none⟩))), (11, .string ⟨#[]⟩), (12, .int .i64 (52 - ((q + 1 : Nat) : Int))), (13, .int .u64 ((f + 4503599627370496 : Nat) : Int)), (15, (.pointer (some ⟨cA, 0, none⟩)))] ⟨rfl, rfl, rfl, rfl, rfl, rfl, rfl⟩ (fun e0 => ?_)
         refine DC.seq ?_
         refine DC.region ?_
         refine DL.y rfl rfl (Y.move) ?_
         refine DL.if rfl rfl (Y.lt rfl rfl) (fun c128 => ?_) (fun c128 => ?_)
         ·refine DL.y rfl rfl (Y.assign) ?_
          refine DL.nil ?_
          show DC _ _ _ _ _ _
          refine DC.seq ?_
          refine DC.block ?_
          refine DC.seq ?_
          refine DC.region ?_
          refine DL.y rfl rfl (Y.move) ?_
          refine DL.y rfl rfl (Y.assign) ?_
          refine DL.nil ?_
          show DC _ _ _ _ _ _
          refine DC.condT rfl ?_
          refine DC.seq ?_
          refine DC.region ?_
          refine DL.y rfl rfl (Y.move) ?_
          refine DL.y rfl rfl (Y.move) ?_
          refine DL.y rfl rfl (Y.move) ?_
          refine DL.y rfl rfl (Y.loadW rfl hb10 F.ag235) ?_
          refine DL.call rfl rfl F.nm211 rfl (short_any (k := q + 1) (m := f + 4503599627370496) hDB H (hfm1 ()) (by omega) (by omega) (by omega) (by omega) (by omega) (by omega)) ?_
          rintro _ w26 f27 rfl
          replace FR := FR.tr0 f27
          replace hi10 := Nat.lt_of_lt_of_le hi10 f27.size
          replace hb10 := f27.blk0 hb10
          try (replace hDA := Dm.fr0 hDA f27)
          try (replace hDB := Dm.fr0 hDB f27)
          obtain ⟨vd, hbc, hvd, hXe⟩ := hDB.out
          obtain ⟨ad, capd, rfl, _, _⟩ := own_cells hvd
          refine DL.y rfl rfl (Y.assign) ?_
          refine DL.nil ?_
          show DC _ _ _ _ _ _
          refine DC.forget [(1, .int .u8 102), (2, .int .i64 (-1)), (10, (.pointer (some ⟨b10, 0, none⟩))), (11, .string ⟨#[]⟩), (15, (.pointer (some ⟨cA, 0, none⟩)))] ⟨rfl, rfl, rfl, rfl, rfl⟩ (fun e0 => ?_)
          refine DC.seq ?_
          refine DC.region ?_
          refine DL.y rfl rfl (Y.move) ?_
          refine DL.nil ?_
          show DC _ _ _ _ _ _
          refine DC.block ?_
          refine DC.seq ?_
          refine DC.seq ?_
          refine DC.region ?_
          refine DL.if rfl rfl (Y.eq rfl rfl) (fun c138 => ?_) (fun c138 => ?_)
          ·exfalso; omega
          ·refine DL.y rfl rfl (Y.assign) ?_
           refine DL.nil ?_
           show DC _ _ _ _ _ _
           refine DC.condF rfl ?_
           refine DC.region ?_
           refine DL.if rfl rfl (Y.eq rfl rfl) (fun c139 => ?_) (fun c139 => ?_)
           ·exfalso; omega
           ·refine DL.y rfl rfl (Y.assign) ?_
            refine DL.nil ?_
            show DC _ _ _ _ _ _
            refine DC.condF rfl ?_
            refine DC.seq ?_
            refine DC.region ?_
            refine DL.if rfl rfl (Y.eq rfl rfl) (fun c147 => ?_) (fun c147 => ?_)
            ·refine DL.y rfl rfl (Y.assign) ?_
             refine DL.nil ?_
             show DC _ _ _ _ _ _
             refine DC.condT rfl ?_
             refine DC.still F.mixed (by kernel_rfl) ?_
             intro w28 f29 hsw28
             replace FR := FR.tr0 f29
             replace hi10 := Nat.lt_of_lt_of_le hi10 f29.size
             replace hb10 := f29.blk0 hb10
             try (replace hDA := Dm.fr0 hDA f29)
             try (replace hDB := Dm.fr0 hDB f29)
             replace hbc := f29.blk0 hbc
             refine DS.y rfl rfl (Y.move) ?_
             refine DS.y rfl rfl (Y.nil rfl) ?_
             refine DS.y rfl rfl (Y.field F.fd242_0 rfl) ?_
             refine DS.y rfl rfl (Y.loadB F.sc107 rfl hbc rfl) ?_
             refine DS.y rfl rfl (Y.lenS Tryz.underlying107 rfl) ?_
             refine DS.y rfl rfl (Y.move) ?_
             refine DS.y rfl rfl (Y.nil rfl) ?_
             refine DS.y rfl rfl (Y.field F.fd242_1 rfl) ?_
             refine DS.y rfl rfl (Y.loadB F.sc3 rfl hbc rfl) ?_
             refine DS.y rfl rfl (Y.subI (c := 1) rfl rfl (by omega) (by omega) (by omega)) ?_
             refine DS.y rfl rfl (Y.bmax (a := .int .i64 1) (b := .int .i64 0) (v := .int .i64 1) rfl rfl (by rw [max_int]; rfl)) ?_
             refine DS.y rfl rfl (Y.assign) ?_
             refine DS.nil ?_
             show DC _ _ _ _ _ _
             refine DC.forget [(1, .int .u8 102), (2, .int .i64 1), (10, (.pointer (some ⟨b10, 0, none⟩))), (11, .string ⟨#[]⟩), (15, (.pointer (some ⟨cA, 0, none⟩)))] ⟨rfl, rfl, rfl, rfl, rfl⟩ (fun e0 => ?_)
             refine DC.seq ?_
             refine DC.seq ?_
             refine DC.region ?_
             refine DL.y rfl rfl (Y.move) ?_
             refine DL.nil ?_
             show DC _ _ _ _ _ _
             refine DC.block ?_
             refine DC.seq ?_
             refine DC.seq ?_
             refine DC.region ?_
             refine DL.if rfl rfl (Y.eq rfl rfl) (fun c203 => ?_) (fun c203 => ?_)
             ·exfalso; omega
             ·refine DL.y rfl rfl (Y.assign) ?_
              refine DL.nil ?_
              show DC _ _ _ _ _ _
              refine DC.condF rfl ?_
              refine DC.region ?_
              refine DL.if rfl rfl (Y.eq rfl rfl) (fun c204 => ?_) (fun c204 => ?_)
              ·exfalso; omega
              ·refine DL.y rfl rfl (Y.assign) ?_
               refine DL.nil ?_
               show DC _ _ _ _ _ _
               refine DC.condF rfl ?_
               refine DC.seq ?_
               refine DC.region ?_
               refine DL.if rfl rfl (Y.eq rfl rfl) (fun c212 => ?_) (fun c212 => ?_)
               ·refine DL.y rfl rfl (Y.assign) ?_
                refine DL.nil ?_
                show DC _ _ _ _ _ _
                refine DC.condT rfl ?_
                refine DC.seq ?_
                refine DC.region ?_
                refine DL.y rfl rfl (Y.move) ?_
                refine DL.y rfl rfl (Y.move) ?_
                refine DL.y rfl rfl (Y.move) ?_
                refine DL.y rfl rfl (Y.bmax (a := .int .i64 1) (b := .int .i64 0) (v := .int .i64 1) rfl rfl (by rw [max_int]; rfl)) ?_
                refine DL.call rfl rfl F.nm214 rfl (dtext_any hDB H.canon.lt H.dp (by have := H.canon.pos; omega) (by omega)) ?_
                rintro _ w30 f31 ⟨s217, rfl, hs217⟩
                replace FR := FR.tr0 f31
                replace hi10 := Nat.lt_of_lt_of_le hi10 f31.size
                replace hb10 := f31.blk0 hb10
                try (replace hDA := Dm.fr0 hDA f31)
                try (replace hDB := Dm.fr0 hDB f31)
                replace hbc := f31.blk0 hbc
                have hd2 : ∃ d2, d2 = tB := ⟨_, rfl⟩
                obtain ⟨d2, hd2⟩ := hd2
                rw [← hd2] at hs217
                have hdl2 : d2.length ≤ 80 := by rw [hd2]; omega
                refine DL.catE rfl rfl rfl rfl (by have e := size_list s217; rw [hs217, List.length_map] at e; have e2 : (textD d2).length ≤ 1000 := (by { unfold textD wholeD; split <;> simp <;> omega }); rw [show (⟨#[]⟩ : ByteArray).size = 0 from rfl]; omega) (fun c218 h218 => ?_)
                refine DL.y rfl rfl (Y.assign) ?_
                refine DL.nil ?_
                show DC _ _ _ _ _ _
                refine DC.ret ?_
                refine FinQ.ret1 rfl (Ret.mk FR ⟨c218, rfl, ?_⟩)
                rw [h218, hs217, ← numL_half H hz]
                rw [if_neg (by omega), hd2]
               ·exfalso; omega
            ·exfalso; omega
         ·exfalso; omega
  ·exfalso; omega

end Go.Proofs.YtmbleojlnaofjaaGreatDoor

/- The order of halves among the floats that the encoder asks for. -/
namespace Go.Proofs.YtmbleojlnaofjaaGreatDoor
open Go Ieee
set_option linter.unusedVariables false
theorem cmpZ_gt {a b : Int} (h : b < a) : compare a b = .gt := by
 show compareOfLessAndEq a b = .gt
 unfold compareOfLessAndEq
 rw [if_neg (by omega), if_neg (by omega)]
theorem cmpZ_lt {a b : Int} (h : a < b) : compare a b = .lt := by
 show compareOfLessAndEq a b = .lt
 unfold compareOfLessAndEq
 rw [if_pos h]
theorem cmpZ_eq (a : Int) : compare a a = .eq := by
 show compareOfLessAndEq a a = .eq
 unfold compareOfLessAndEq
 rw [if_neg (by omega), if_pos rfl]
theorem read_zero : double.read 0 = .number false 0 (-1074) := by decide +kernel
theorem read_max : double.read 9218868437227405311 = .number false 9007199254740991 971 := by decide +kernel
theorem read_min : double.read 18442240474082181119 = .number true 9007199254740991 971 := by decide +kernel
theorem read_micro : double.read 4517329193108106637 = .number false 4722366482869645 (-72) := by decide +kernel
theorem read_giant : double.read 4921056587992461136 = .number false 7629394531250000 17 := by decide +kernel
/-- The size of a half: the bits with no sign. -/
def absF (m d : Nat) : Nat := double.word false ((1073 - d) * 4503599627370496 + m)
theorem shl_ge {a k : Nat} : a * 2 ^ k ≤ a <<< k := by rw [Nat.shiftLeft_eq]; exact Nat.le_refl _
theorem shl_big {a k c : Nat} (h : c ≤ k) : a * 2 ^ c ≤ a <<< k := by
 rw [Nat.shiftLeft_eq]
 exact Nat.mul_le_mul_left _ (Nat.pow_le_pow_right (by decide) h)
section
variable {h : Int} {m d : Nat}
theorem Dig.readA (D : Dig h m d) : double.read (absF m d) = .number false m (-(d : Int) - 1) := by
 unfold absF
 rw [read_word _ D.lo D.hi (by omega)]
 have : ((1073 - d : Nat) : Int) - 1074 = -(d : Int) - 1 := by have := D.d52; omega
 rw [this]
theorem Dig.ordFF (D : Dig h m d) : double.order (wordF h m d) (wordF h m d) = some .eq := by
 show (double.read _).order (double.read _) = _
 rw [D.readF]
 simp only [Datum.order, cmpZ_eq]
theorem signed_le (b : Bool) (m : Nat) : -(m : Int) ≤ signed b m 0 ∧ signed b m 0 ≤ m := by
 unfold signed
 rw [show m <<< 0 = m from rfl]
 cases b <;> simp <;> omega
theorem Dig.ordMin (D : Dig h m d) : double.order (wordF h m d) 18442240474082181119 = some .gt := by
 show (double.read _).order (double.read _) = _
 rw [D.readF, read_min]
 simp only [Datum.order]
 have e1 : (-(d : Int) - 1 - min (-(d : Int) - 1) 971).toNat = 0 := by omega
 have e2 : ((971 : Int) - min (-(d : Int) - 1) 971).toNat = 972 + d := by omega
 rw [e1, e2]
 have h1 := signed_le (decide (h < 0)) m
 have h2 := D.hi
 have h3 := shl_big (a := 9007199254740991) (k := 972 + d) (c := 1) (by omega)
 refine congrArg some (cmpZ_gt ?_)
 rw [show signed true 9007199254740991 (972 + d) = -((9007199254740991 <<< (972 + d) : Nat) : Int) from rfl]
 generalize 9007199254740991 <<< (972 + d) = N at *
 omega
theorem Dig.ordMax (D : Dig h m d) : double.order (wordF h m d) 9218868437227405311 = some .lt := by
 show (double.read _).order (double.read _) = _
 rw [D.readF, read_max]
 simp only [Datum.order]
 have e1 : (-(d : Int) - 1 - min (-(d : Int) - 1) 971).toNat = 0 := by omega
 have e2 : ((971 : Int) - min (-(d : Int) - 1) 971).toNat = 972 + d := by omega
 rw [e1, e2]
 have h1 := signed_le (decide (h < 0)) m
 have h2 := D.hi
 have h3 := shl_big (a := 9007199254740991) (k := 972 + d) (c := 1) (by omega)
 refine congrArg some (cmpZ_lt ?_)
 rw [show signed false 9007199254740991 (972 + d) = ((9007199254740991 <<< (972 + d) : Nat) : Int) from rfl]
 generalize 9007199254740991 <<< (972 + d) = N at *
 omega
theorem signed_f (m k : Nat) : signed false m k = ((m <<< k : Nat) : Int) := rfl
theorem Dig.ordA0 (D : Dig h m d) : double.order (absF m d) 0 = some .gt := by
 show (double.read _).order (double.read _) = _
 rw [D.readA, read_zero]
 simp only [Datum.order, signed_f]
 have h3 := shl_big (a := m) (k := (-(d : Int) - 1 - min (-(d : Int) - 1) (-1074)).toNat) (c := 0) (by omega)
 have h2 := D.lo
 refine congrArg some (cmpZ_gt ?_)
 rw [Nat.zero_shiftLeft]
 omega
theorem Dig.ordAmicro (D : Dig h m d) : double.order (absF m d) 4517329193108106637 = some .gt := by
 show (double.read _).order (double.read _) = _
 rw [D.readA, read_micro]
 simp only [Datum.order, signed_f]
 have hd := D.d52
 have e1 : (-(d : Int) - 1 - min (-(d : Int) - 1) (-72)).toNat = 71 - d := by omega
 have e2 : ((-72 : Int) - min (-(d : Int) - 1) (-72)).toNat = 0 := by omega
 rw [e1, e2]
 have h3 := shl_big (a := m) (k := 71 - d) (c := 1) (by omega)
 have h2 := D.lo
 refine congrArg some (cmpZ_gt ?_)
 rw [Nat.shiftLeft_zero]
 omega
theorem Dig.ordAgiant (D : Dig h m d) : double.order (absF m d) 4921056587992461136 = some .lt := by
 show (double.read _).order (double.read _) = _
 rw [D.readA, read_giant]
 simp only [Datum.order, signed_f]
 have e1 : (-(d : Int) - 1 - min (-(d : Int) - 1) 17).toNat = 0 := by omega
 have e2 : ((17 : Int) - min (-(d : Int) - 1) 17).toNat = 18 + d := by omega
 rw [e1, e2]
 have h3 := shl_big (a := 7629394531250000) (k := 18 + d) (c := 2) (by omega)
 have h2 := D.hi
 refine congrArg some (cmpZ_lt ?_)
 rw [Nat.shiftLeft_zero]
 generalize 7629394531250000 <<< (18 + d) = N at *
 omega
theorem Dig.wordF_eq (D : Dig h m d) : wordF h m d = (if h < 0 then 1 else 0) * 9223372036854775808 + (1074 - d) * 4503599627370496 + (m - 4503599627370496) := by
 have h1 := D.lo
 have h2 := D.d52
 unfold wordF Format.word
 rw [dbl_sgn]
 by_cases hc : h < 0 <;> simp [hc] <;> omega
theorem Dig.absF_eq (D : Dig h m d) : absF m d = (1074 - d) * 4503599627370496 + (m - 4503599627370496) := by
 have h1 := D.lo
 have h2 := D.d52
 unfold absF Format.word
 simp; omega
end
end Go.Proofs.YtmbleojlnaofjaaGreatDoor

/- The walks of AppendInt, AppendFloat, encodeFloat64. -/
namespace Go.Proofs.YtmbleojlnaofjaaGreatDoor
open Go Go.RowKit D Go.Deep
set_option linter.unusedVariables false
set_option linter.unusedSimpArgs false


/-- What append leaves: the text t behind o in block bl. -/
def AppP (w' : World) (bl o cap T : Nat) (cur : Array Value) (t : List UInt8) (r : Value) : Prop :=
 ∃ cur', r = .slice (some ⟨bl, o, none⟩) t.length cap ∧ w'.heap[bl]? = some (.cells cur' T (0, 0)) ∧ cur'.size = cur.size ∧ (∀ i, i < o → cur'[i]? = cur[i]?) ∧ ∀ j (hj : j < t.length), cur'[o + j]? = some (.int .u8 (t[j].toNat : Int))
theorem FormatFloat_dig {z : Int} {m d : Nat} (D : Dig z m d) (ho : z.natAbs % 2 = 1) (w : World) : Calls Tryz.prog 198 #[.float .f64 (wordF z m d), .int .u8 102, .int .i64 (-1), .int .i64 64] w (Ret w [] fun r w' => ∃ b : ByteArray, r = .string b ∧ b.data.toList = numL z) := by
 rw [D.wordF_eq]
 have h1 := D.lo
 have h2 := D.hi
 refine FormatFloat_any (if z < 0 then 1 else 0) d (m - 4503599627370496) z.natAbs z (by split <;> omega) (by split <;> simp_all) D.d52 (by omega) rfl ho ?_ w
 rw [Nat.sub_add_cancel h1]; exact D.eq
theorem dig_len {z : Int} {m d : Nat} (D : Dig z m d) : (numL z).length ≤ 40 := by
 refine numL_len' ?_
 have h1 := D.hi
 have h2 : z.natAbs * 1 ≤ z.natAbs * 2 ^ d := Nat.mul_le_mul_left _ (Nat.two_pow_pos d)
 have h3 := D.eq
 omega

theorem AppendInt_any {bl o cap T : Nat} {cur : Array Value} (z : Int) (hz : -9223372036854775808 ≤ z ∧ z ≤ 9223372036854775807) (w : World) (hb : w.heap[bl]? = some (.cells cur T (0, 0))) (hroom : 21 ≤ cap) (hfit : o + 21 ≤ cur.size) : Calls Tryz.prog 166 #[(.slice (some ⟨bl, o, none⟩) 0 cap), .int .i64 z, .int .i64 10] w (Ret w [bl] fun r w' => AppP w' bl o cap T cur (intL z) r) := by
 have hil := intL_len hz
 refine calls_of Tryz.func166 rfl rfl rfl rfl ?_
 have FR := Fr.refl [bl] w
 refine DC.seq ?_
 refine DC.region ?_
 refine DL.y rfl rfl (Y.assign) ?_
 refine DL.nil ?_
 show DC _ _ _ _ _ _
 refine DC.seq ?_
 refine DC.region ?_
 refine DL.y rfl rfl (Y.move) ?_
 refine DL.y rfl rfl (Y.move) ?_
 refine DL.y rfl rfl (Y.move) ?_
 refine DL.call rfl rfl F.nm184 rfl (FormatInt_any z hz _) ?_
 rintro _ w1 f2 ⟨s10, rfl, hs10⟩
 replace FR := FR.tr0 f2
 replace hb := f2.blk0 hb
 have hlen := size_list s10; rw [hs10] at hlen
 refine DL.appBuf (T := T) (cur := cur) rfl rfl F.el107 Tryz.underlying9 rfl rfl hb (by omega) (by omega) ?_
 intro cur' w3 f4 hb' hcs hlo hhi
 replace FR := FR.put f4 (by intro i hi; simp only [List.mem_cons, List.mem_singleton, List.not_mem_nil, or_false] at hi; rcases hi with rfl; all_goals (first | (left; simp; done) | (right; omega)))
 replace hb := hb'
 rw [hlen]
 refine DL.y rfl rfl (Y.assign) ?_
 refine DL.nil ?_
 show DC _ _ _ _ _ _
 refine DC.ret ?_
 refine FinQ.ret1 rfl (Ret.mk FR ⟨cur', rfl, hb, hcs, hlo, ?_⟩)
 rw [← hs10]; exact hhi

theorem AppendFloat_any {bl o cap T : Nat} {cur : Array Value} {z : Int} {m d : Nat} (D : Dig z m d) (ho : z.natAbs % 2 = 1) (w : World) (hb : w.heap[bl]? = some (.cells cur T (0, 0))) (hroom : 40 ≤ cap) (hfit : o + 40 ≤ cur.size) : Calls Tryz.prog 186 #[(.slice (some ⟨bl, o, none⟩) 0 cap), .float .f64 (wordF z m d), .int .u8 102, .int .i64 (-1), .int .i64 64] w (Ret w [bl] fun r w' => AppP w' bl o cap T cur (numL z) r) := by
 have hil := dig_len D
 refine calls_of Tryz.func186 rfl rfl rfl rfl ?_
 have FR := Fr.refl [bl] w
 refine DC.seq ?_
 refine DC.region ?_
 refine DL.y rfl rfl (Y.assign) ?_
 refine DL.nil ?_
 show DC _ _ _ _ _ _
 refine DC.seq ?_
 refine DC.region ?_
 refine DL.y rfl rfl (Y.move) ?_
 refine DL.y rfl rfl (Y.move) ?_
 refine DL.y rfl rfl (Y.move) ?_
 refine DL.y rfl rfl (Y.move) ?_
 refine DL.y rfl rfl (Y.move) ?_
 refine DL.call rfl rfl F.nm198 rfl (FormatFloat_dig D ho _) ?_
 rintro _ w1 f2 ⟨s16, rfl, hs16⟩
 replace FR := FR.tr0 f2
 replace hb := f2.blk0 hb
 have hlen := size_list s16; rw [hs16] at hlen
 refine DL.appBuf (T := T) (cur := cur) rfl rfl F.el107 Tryz.underlying9 rfl rfl hb (by omega) (by omega) ?_
 intro cur' w3 f4 hb' hcs hlo hhi
 replace FR := FR.put f4 (by intro i hi; simp only [List.mem_cons, List.mem_singleton, List.not_mem_nil, or_false] at hi; rcases hi with rfl; all_goals (first | (left; simp; done) | (right; omega)))
 replace hb := hb'
 rw [hlen]
 refine DL.y rfl rfl (Y.assign) ?_
 refine DL.nil ?_
 show DC _ _ _ _ _ _
 refine DC.ret ?_
 refine FinQ.ret1 rfl (Ret.mk FR ⟨cur', rfl, hb, hcs, hlo, ?_⟩)
 rw [← hs16]; exact hhi

theorem IsNaN_any {z : Int} {m d : Nat} (D : Dig z m d) (w : World) : Calls Tryz.prog 185 #[.float .f64 (wordF z m d)] w (Ret w [] fun r w' => r = .bool false) := by
 refine calls_of Tryz.func185 rfl rfl rfl rfl ?_
 have FR := Fr.refl [] w
 refine DC.seq ?_
 refine DC.region ?_
 refine DL.y rfl rfl (Y.assign) ?_
 refine DL.nil ?_
 show DC _ _ _ _ _ _
 refine DC.seq ?_
 refine DC.region ?_
 refine DL.y rfl rfl (Y.move) ?_
 refine DL.y rfl rfl (Y.move) ?_
 refine DL.y rfl rfl (Y.fne rfl rfl (r := false) (by rw [show FloatKind.f64.format = Ieee.double from rfl, D.ordFF]; rfl)) ?_
 refine DL.y rfl rfl (Y.assign) ?_
 refine DL.nil ?_
 show DC _ _ _ _ _ _
 refine DC.ret ?_
 exact FinQ.ret1 rfl (Ret.mk FR rfl)

theorem Abs_any {z : Int} {m d : Nat} (D : Dig z m d) (w : World) : Calls Tryz.prog 159 #[.float .f64 (wordF z m d)] w (Ret w [] fun r w' => r = .float .f64 (absF m d)) := by
 have hW : wordF z m d < 18446744073709551616 := by rw [D.wordF_eq]; have := D.hi; have := D.lo; have := D.d52; split <;> omega
 have hA : (wordF z m d) % 9223372036854775808 = absF m d := by rw [D.wordF_eq, D.absF_eq]; have := D.hi; have := D.lo; have := D.d52; split <;> omega
 refine calls_of Tryz.func159 rfl rfl rfl rfl ?_
 have FR := Fr.refl [] w
 refine DC.seq ?_
 refine DC.region ?_
 refine DL.y rfl rfl (Y.assign) ?_
 refine DL.nil ?_
 show DC _ _ _ _ _ _
 refine DC.seq ?_
 refine DC.region ?_
 refine DL.y rfl rfl (Y.move) ?_
 refine DL.y rfl rfl (Y.ext1 (fn := Tryz.f161) (en := Extern.MathFloatBits.float64bits) (a := .float .f64 (wordF z m d)) (v := .int .u64 (((wordF z m d) : Nat) : Int)) Tryz.func161 (by kernel_rfl) (by kernel_rfl) (by kernel_rfl) (by kernel_rfl) rfl rfl) ?_
 refine DL.y rfl rfl (Y.andNotTop rfl rfl hW) ?_
 refine DL.y rfl rfl (Y.ext1 (fn := Tryz.f162) (en := Extern.MathFloatBits.float64frombits) (a := .int .u64 ((((wordF z m d) % 9223372036854775808) : Nat) : Int)) (v := .float .f64 ((wordF z m d) % 9223372036854775808)) Tryz.func162 (by kernel_rfl) (by kernel_rfl) (by kernel_rfl) (by kernel_rfl) rfl (by rfl)) ?_
 refine DL.y rfl rfl (Y.assign) ?_
 refine DL.nil ?_
 show DC _ _ _ _ _ _
 refine DC.ret ?_
 exact FinQ.ret1 rfl (Ret.mk FR (congrArg (Value.float .f64) hA))


theorem max_gt {k : FloatKind} {x y : Nat} {w : World} (h : k.format.order x y = some .gt) : (Builtin.max2 (.float k x) (.float k y)).run Tryz.prog w = .ok (.float k x) w := by
 simp only [Builtin.max2, h]; rfl
theorem min_lt {k : FloatKind} {x y : Nat} {w : World} (h : k.format.order x y = some .lt) : (Builtin.min2 (.float k x) (.float k y)).run Tryz.prog w = .ok (.float k x) w := by
 simp only [Builtin.min2, h]; rfl
theorem arr64e : arrayT Tryz.prog 162 5 64 1 = true := by kernel_rfl
/-- A text appended to the encoder's own array. -/
theorem ES.app {w w' : World} {B be b : Nat} {X : List Nat} {l t : List UInt8} {r : Value} {buf : Array Value} (h : ES w B be b X l) (hz : buf.size = 65) (hb : w.heap[be]? = some (.cells buf 164 (0, 0))) (f : Fr [be] w w') (ha : AppP w' be 1 64 164 buf t r) :
  r = .slice (some ⟨be, 1, none⟩) t.length 64 ∧ ES w' B be b X l ∧ ∀ i (hi : i < t.length), w'.cell? ⟨be, 1 + i, none⟩ = some (.int .u8 (t[i].toNat : Int)) := by
 obtain ⟨cur', hr, hb', hcs, hlo, hhi⟩ := ha
 have h0 : cur'[0]? = some (.iface 157 (.pointer (some ⟨b, 0, none⟩))) := by
  rw [hlo 0 (by omega)]
  have := h.cell
  rw [Lib.cell_of_heap hb] at this
  exact this
 exact ⟨hr, h.buf f hb' (by omega) h0, fun i hi => cell_of_blk hb' (hhi i hi)⟩
theorem AppendInt_es {B be b : Nat} {X : List Nat} {l : List UInt8} (z : Int) (hz : -9223372036854775808 ≤ z ∧ z ≤ 9223372036854775807) (w : World) (h : ES w B be b X l) : Calls Tryz.prog 166 #[(.slice (some ⟨be, 1, none⟩) 0 64), .int .i64 z, .int .i64 10] w (Ret w X fun r w' => r = .slice (some ⟨be, 1, none⟩) (intL z).length 64 ∧ ES w' B be b X l ∧ ∀ i (hi : i < (intL z).length), w'.cell? ⟨be, 1 + i, none⟩ = some (.int .u8 ((intL z)[i].toNat : Int))) := by
 obtain ⟨buf, hb, hbz⟩ := h.row
 have hmem := h.mem
 exact (AppendInt_any z hz w hb (by omega) (by omega)).mono (Ret.into (fun i hi => by rcases List.mem_singleton.1 hi with rfl; exact hmem) (fun v w' hf ha => h.app hbz hb hf ha))
theorem AppendFloat_es {B be b : Nat} {X : List Nat} {l : List UInt8} {z : Int} {m d : Nat} (D : Dig z m d) (ho : z.natAbs % 2 = 1) (w : World) (h : ES w B be b X l) : Calls Tryz.prog 186 #[(.slice (some ⟨be, 1, none⟩) 0 64), .float .f64 (wordF z m d), .int .u8 102, .int .i64 (-1), .int .i64 64] w (Ret w X fun r w' => r = .slice (some ⟨be, 1, none⟩) (numL z).length 64 ∧ ES w' B be b X l ∧ ∀ i (hi : i < (numL z).length), w'.cell? ⟨be, 1 + i, none⟩ = some (.int .u8 ((numL z)[i].toNat : Int))) := by
 obtain ⟨buf, hb, hbz⟩ := h.row
 have hmem := h.mem
 exact (AppendFloat_any D ho w hb (by omega) (by omega)).mono (Ret.into (fun i hi => by rcases List.mem_singleton.1 hi with rfl; exact hmem) (fun v w' hf ha => h.app hbz hb hf ha))

theorem encodeFloat_any {B be b : Nat} {X : List Nat} {l : List UInt8} {z : Int} {m d : Nat} (D : Dig z m d) (ho : z.natAbs % 2 = 1) (w : World) (hES : ES w B be b X l) (hlen : l.length + 100 ≤ 140737488355328) : Calls Tryz.prog 167 #[(.pointer (some ⟨be, 0, none⟩)), .float .f64 (wordF z m d)] w (Ret w X fun r w' => r = .tuple #[] ∧ ∃ X', ES w' B be b X' (l ++ numL z) ∧ Sub X' X w) := by
 have xFR := Sub.refl X w
 have hil := dig_len D
 refine calls_of Tryz.func167 rfl rfl rfl rfl ?_
 have FR := Fr.refl X w
 refine DC.seq ?_
 refine DC.seq ?_
 refine DC.region ?_
 refine DL.y rfl rfl (Y.move) ?_
 refine DL.call rfl rfl F.nm185 rfl (IsNaN_any D _) ?_
 rintro _ w1 f2 rfl
 replace FR := FR.tr0 f2
 replace hES := hES.fr0 f2
 refine DL.nil ?_
 show DC _ _ _ _ _ _
 refine DC.condF rfl ?_
 refine DC.skip ?_
 show DC _ _ _ _ _ _
 refine DC.seq ?_
 refine DC.region ?_
 refine DL.y rfl rfl (Y.move) ?_
 refine DL.y rfl rfl (Y.bmax rfl rfl (max_gt (by rw [show FloatKind.f64.format = Ieee.double from rfl]; exact D.ordMin))) ?_
 refine DL.y rfl rfl (Y.bmin rfl rfl (min_lt (by rw [show FloatKind.f64.format = Ieee.double from rfl]; exact D.ordMax))) ?_
 refine DL.y rfl rfl (Y.assign) ?_
 refine DL.nil ?_
 show DC _ _ _ _ _ _
 refine DC.seq ?_
 refine DC.region ?_
 refine DL.y rfl rfl (Y.assign) ?_
 refine DL.nil ?_
 show DC _ _ _ _ _ _
 refine DC.seq ?_
 refine DC.seq ?_
 refine DC.region ?_
 refine DL.y rfl rfl (Y.move) ?_
 refine DL.call rfl rfl F.nm159 rfl (Abs_any D _) ?_
 rintro _ w3 f4 rfl
 replace FR := FR.tr0 f4
 replace hES := hES.fr0 f4
 refine DL.y rfl rfl (Y.assign) ?_
 refine DL.nil ?_
 show DC _ _ _ _ _ _
 refine DC.seq ?_
 refine DC.region ?_
 refine DL.y rfl rfl (Y.move) ?_
 refine DL.y rfl rfl (Y.fne rfl rfl (r := true) (by rw [show FloatKind.f64.format = Ieee.double from rfl, D.ordA0]; rfl)) ?_
 refine DL.y rfl rfl (Y.move) ?_
 refine DL.y rfl rfl (Y.move) ?_
 refine DL.y rfl rfl (Y.flt rfl rfl (r := false) (by rw [show FloatKind.f64.format = Ieee.double from rfl, D.ordAmicro]; rfl)) ?_
 refine DL.y rfl rfl (Y.pickT rfl) ?_
 refine DL.y rfl rfl (Y.move) ?_
 refine DL.y rfl rfl (Y.move) ?_
 refine DL.y rfl rfl (Y.fge rfl rfl (r := false) (by rw [show FloatKind.f64.format = Ieee.double from rfl, D.ordAgiant]; rfl)) ?_
 refine DL.y rfl rfl (Y.pickF rfl) ?_
 refine DL.nil ?_
 show DC _ _ _ _ _ _
 refine DC.condF rfl ?_
 refine DC.skip ?_
 show DC _ _ _ _ _ _
 refine DC.seq ?_
 refine DC.region ?_
 refine DL.y rfl rfl (Y.move) ?_
 refine DL.y rfl rfl (Y.nil rfl) ?_
 refine DL.y rfl rfl (Y.field F.fd164_1 rfl) ?_
 refine DL.y rfl rfl (Y.sliceArrH (h := 0) arr64e rfl rfl (by omega)) ?_
 refine DL.y rfl rfl (Y.move) ?_
 refine DL.y rfl rfl (Y.move) ?_
 have hsR := Sub.refl X w3
 refine DL.call rfl rfl F.nm186 rfl (AppendFloat_es D ho _ hES) ?_
 rintro _ w5 f6 ⟨rfl, hE36, hmA⟩
 have xFR' := xFR.step FR.size hsR
 replace FR := FR.put f6 xFR
 replace xFR := xFR'
 replace hES := hE36
 refine DL.y rfl rfl (Y.assign) ?_
 refine DL.nil ?_
 show DC _ _ _ _ _ _
 refine DC.seq ?_
 refine DC.seq ?_
 refine DC.region ?_
 refine DL.y rfl rfl (Y.move) ?_
 refine DL.if rfl rfl (Y.eq rfl rfl) (fun c38 => ?_) (fun c38 => ?_)
 ·exfalso; omega
 ·refine DL.nil ?_
  show DC _ _ _ _ _ _
  refine DC.condF rfl ?_
  refine DC.skip ?_
  show DC _ _ _ _ _ _
  refine DC.region ?_
  refine DL.y rfl rfl (Y.move) ?_
  refine DL.y rfl rfl (Y.nil rfl) ?_
  refine DL.y rfl rfl (Y.field F.fd164_0 rfl) ?_
  refine DL.y rfl rfl (Y.load F.sc161 rfl hES.cell) ?_
  refine DL.y rfl rfl (Y.move) ?_
  refine DL.invoke rfl rfl rfl rfl (hmW _ _) (hES.wbuf hmA (by omega)) ?_
  rintro _ w10 f11 ⟨X7, hE9, hs8⟩
  have xFR' := xFR.step FR.size hs8
  replace FR := FR.put f11 xFR
  replace xFR := xFR'
  try (replace hmA := fun i hi => Fr.cell f11 (hmA i hi) (by simp))
  replace hES := hE9
  refine DL.nil ?_
  exact FinQ.end0 (Ret.mk FR ⟨rfl, _, hES, xFR⟩)

end Go.Proofs.YtmbleojlnaofjaaGreatDoor

/- The walk of the encoder at every tree. -/
namespace Go.Proofs.YtmbleojlnaofjaaGreatDoor
open Go Go.RowKit D Go.Deep
set_option linter.unusedVariables false
set_option linter.unusedSimpArgs false


theorem Dig.bits {h : Int} {m d : Nat} (D : Dig h m d) : halfBits h = wordF h m d := by
 unfold halfBits
 rw [D.near, D.half]; rfl
theorem enc_len {k m : Nat} (h : k + 80000000 * (m + 1) ≤ 140737488355328) : k + 80000000 * m ≤ 140737408355328 := by
 rw [Nat.mul_succ, ← Nat.add_assoc] at h
 exact Nat.le_sub_of_add_le h
theorem intL_half {h : Int} (h2 : h.tmod 2 = 0) : intL (h.tdiv 2) = numL h := by
 unfold intL numL
 rcases Int.le_total 0 h with h0 | h0
 ·rw [Int.tdiv_eq_ediv_of_nonneg h0]
  rw [Int.tmod_eq_emod_of_nonneg h0] at h2
  rw [if_neg (by omega), if_neg (by omega), if_neg (by omega), show (h / 2).natAbs = h.natAbs / 2 by omega]
  simp
 ·obtain ⟨k, rfl⟩ : ∃ k : Int, h = -k := ⟨-h, by omega⟩
  rw [Int.neg_tmod, Int.tmod_eq_emod_of_nonneg (by omega)] at h2
  rw [Int.neg_tdiv, Int.tdiv_eq_ediv_of_nonneg (by omega)]
  have h3 : k % 2 = 0 := by omega
  by_cases hk : k = 0
  ·subst hk; simp
  ·rw [if_pos (by omega), if_pos (by omega), if_neg (by omega), show (-(k / 2)).natAbs = (-k).natAbs / 2 by omega]
   simp
theorem odd_of {h : Int} (h2 : ¬ h.tmod 2 = 0) : h.natAbs % 2 = 1 := by
 rcases Int.le_total 0 h with h0 | h0
 ·rw [Int.tmod_eq_emod_of_nonneg h0] at h2; omega
 ·obtain ⟨k, rfl⟩ : ∃ k : Int, h = -k := ⟨-h, by omega⟩
  rw [Int.neg_tmod, Int.tmod_eq_emod_of_nonneg (by omega)] at h2; omega
theorem numL_ne (h : Int) : numL h ≠ [] := by
 have := decL_ne (h.natAbs / 2)
 unfold numL
 intro he
 have h1 := congrArg List.length he
 simp only [List.length_append, List.length_nil] at h1
 omega
theorem jL_ne : ∀ v : V, jL v ≠ []
 | .mk kind half text list keys vals => by
  simp only [jL]
  split
  ·simp
  split
  ·simp
  split
  ·simp
  split
  ·exact numL_ne half
  split
  ·simp [qL]
  split <;> simp

theorem encode_null {B be b : Nat} {X : List Nat} {l : List UInt8} (w : World) (hES : ES w B be b X l) (hT : Tabs w)  (hlen : l.length + 1000 ≤ 140737488355328) : Calls Tryz.prog 155 #[(.pointer (some ⟨be, 0, none⟩)), .nilIface] w (Ret w X fun r w' => r = .tuple #[] ∧ ∃ X', ES w' B be b X' (l ++ [110, 117, 108, 108]) ∧ Sub X' X w) := by
 have xFR := Sub.refl X w
 refine calls_of Tryz.func155 rfl rfl rfl rfl ?_
 have FR := Fr.refl X w
 refine DC.seq ?_
 refine DC.region ?_
 refine DL.y rfl rfl (Y.move) ?_
 refine DL.nil ?_
 show DC _ _ _ _ _ _
 refine DC.block ?_
 refine DC.seq ?_
 refine DC.region ?_
 refine DL.y rfl rfl (Y.eqNilN Tryz.underlying20 rfl) ?_
 refine DL.nil ?_
 show DC _ _ _ _ _ _
 refine DC.condT rfl ?_
 refine DC.seq ?_
 refine DC.region ?_
 refine DL.y rfl rfl (Y.assign) ?_
 refine DL.nil ?_
 show DC _ _ _ _ _ _
 refine DC.region ?_
 refine DL.y rfl rfl (Y.move) ?_
 refine DL.y rfl rfl (Y.nil rfl) ?_
 refine DL.y rfl rfl (Y.field F.fd164_0 rfl) ?_
 refine DL.y rfl rfl (Y.load F.sc161 rfl hES.cell) ?_
 refine DL.invoke rfl rfl rfl rfl (hmWS _ _) (hES.wstr (by first | omega | (simp only [List.length_append, List.length_cons, List.length_nil]; omega))) ?_
 rintro _ w4 f5 ⟨X1, hE3, hs2⟩
 have xFR' := xFR.step FR.size hs2
 replace FR := FR.put f5 xFR
 replace xFR := xFR'
 replace hT : Tabs w4 := by first | exact hT.es hES f5 | exact hT.fr f5 (by intro c hc hm; simp at hm)
 replace hES := hE3
 refine DL.nil ?_
 exact FinQ.end0 (Ret.mk FR ⟨rfl, _, hES.cast (by simp), xFR⟩)

theorem encode_true {B be b : Nat} {X : List Nat} {l : List UInt8} (w : World) (hES : ES w B be b X l) (hT : Tabs w)  (hlen : l.length + 1000 ≤ 140737488355328) : Calls Tryz.prog 155 #[(.pointer (some ⟨be, 0, none⟩)), .iface 4 (.bool true)] w (Ret w X fun r w' => r = .tuple #[] ∧ ∃ X', ES w' B be b X' (l ++ [116, 114, 117, 101]) ∧ Sub X' X w) := by
 have xFR := Sub.refl X w
 refine calls_of Tryz.func155 rfl rfl rfl rfl ?_
 have FR := Fr.refl X w
 refine DC.seq ?_
 refine DC.region ?_
 refine DL.y rfl rfl (Y.move) ?_
 refine DL.nil ?_
 show DC _ _ _ _ _ _
 refine DC.block ?_
 refine DC.seq ?_
 refine DC.region ?_
 refine DL.y rfl rfl (Y.eqNilI Tryz.underlying20 rfl) ?_
 refine DL.nil ?_
 show DC _ _ _ _ _ _
 refine DC.condF rfl ?_
 refine DC.seq ?_
 refine DC.region ?_
 refine DL.y rfl rfl (Y.asYes F.if4 rfl) ?_
 refine DL.y rfl rfl (Y.extract rfl rfl) ?_
 refine DL.y rfl rfl (Y.extract rfl rfl) ?_
 refine DL.nil ?_
 show DC _ _ _ _ _ _
 refine DC.condT rfl ?_
 refine DC.seq ?_
 refine DC.region ?_
 refine DL.y rfl rfl (Y.assign) ?_
 refine DL.nil ?_
 show DC _ _ _ _ _ _
 refine DC.seq ?_
 refine DC.region ?_
 refine DL.y rfl rfl (Y.move) ?_
 refine DL.nil ?_
 show DC _ _ _ _ _ _
 refine DC.condT rfl ?_
 refine DC.region ?_
 refine DL.y rfl rfl (Y.move) ?_
 refine DL.y rfl rfl (Y.nil rfl) ?_
 refine DL.y rfl rfl (Y.field F.fd164_0 rfl) ?_
 refine DL.y rfl rfl (Y.load F.sc161 rfl hES.cell) ?_
 refine DL.invoke rfl rfl rfl rfl (hmWS _ _) (hES.wstr (by first | omega | (simp only [List.length_append, List.length_cons, List.length_nil]; omega))) ?_
 rintro _ w4 f5 ⟨X1, hE3, hs2⟩
 have xFR' := xFR.step FR.size hs2
 replace FR := FR.put f5 xFR
 replace xFR := xFR'
 replace hT : Tabs w4 := by first | exact hT.es hES f5 | exact hT.fr f5 (by intro c hc hm; simp at hm)
 replace hES := hE3
 refine DL.nil ?_
 exact FinQ.end0 (Ret.mk FR ⟨rfl, _, hES.cast (by simp), xFR⟩)

theorem encode_false {B be b : Nat} {X : List Nat} {l : List UInt8} (w : World) (hES : ES w B be b X l) (hT : Tabs w)  (hlen : l.length + 1000 ≤ 140737488355328) : Calls Tryz.prog 155 #[(.pointer (some ⟨be, 0, none⟩)), .iface 4 (.bool false)] w (Ret w X fun r w' => r = .tuple #[] ∧ ∃ X', ES w' B be b X' (l ++ [102, 97, 108, 115, 101]) ∧ Sub X' X w) := by
 have xFR := Sub.refl X w
 refine calls_of Tryz.func155 rfl rfl rfl rfl ?_
 have FR := Fr.refl X w
 refine DC.seq ?_
 refine DC.region ?_
 refine DL.y rfl rfl (Y.move) ?_
 refine DL.nil ?_
 show DC _ _ _ _ _ _
 refine DC.block ?_
 refine DC.seq ?_
 refine DC.region ?_
 refine DL.y rfl rfl (Y.eqNilI Tryz.underlying20 rfl) ?_
 refine DL.nil ?_
 show DC _ _ _ _ _ _
 refine DC.condF rfl ?_
 refine DC.seq ?_
 refine DC.region ?_
 refine DL.y rfl rfl (Y.asYes F.if4 rfl) ?_
 refine DL.y rfl rfl (Y.extract rfl rfl) ?_
 refine DL.y rfl rfl (Y.extract rfl rfl) ?_
 refine DL.nil ?_
 show DC _ _ _ _ _ _
 refine DC.condT rfl ?_
 refine DC.seq ?_
 refine DC.region ?_
 refine DL.y rfl rfl (Y.assign) ?_
 refine DL.nil ?_
 show DC _ _ _ _ _ _
 refine DC.seq ?_
 refine DC.region ?_
 refine DL.y rfl rfl (Y.move) ?_
 refine DL.nil ?_
 show DC _ _ _ _ _ _
 refine DC.condF rfl ?_
 refine DC.region ?_
 refine DL.y rfl rfl (Y.move) ?_
 refine DL.y rfl rfl (Y.nil rfl) ?_
 refine DL.y rfl rfl (Y.field F.fd164_0 rfl) ?_
 refine DL.y rfl rfl (Y.load F.sc161 rfl hES.cell) ?_
 refine DL.invoke rfl rfl rfl rfl (hmWS _ _) (hES.wstr (by first | omega | (simp only [List.length_append, List.length_cons, List.length_nil]; omega))) ?_
 rintro _ w4 f5 ⟨X1, hE3, hs2⟩
 have xFR' := xFR.step FR.size hs2
 replace FR := FR.put f5 xFR
 replace xFR := xFR'
 replace hT : Tabs w4 := by first | exact hT.es hES f5 | exact hT.fr f5 (by intro c hc hm; simp at hm)
 replace hES := hE3
 refine DL.nil ?_
 exact FinQ.end0 (Ret.mk FR ⟨rfl, _, hES.cast (by simp), xFR⟩)

theorem encode_int {B be b : Nat} {X : List Nat} {l : List UInt8} (w : World) (hES : ES w B be b X l) (hT : Tabs w) (z : Int) (hz : -9223372036854775808 ≤ z ∧ z ≤ 9223372036854775807) (hlen : l.length + 1000 ≤ 140737488355328) : Calls Tryz.prog 155 #[(.pointer (some ⟨be, 0, none⟩)), .iface 3 (.int .i64 z)] w (Ret w X fun r w' => r = .tuple #[] ∧ ∃ X', ES w' B be b X' (l ++ intL z) ∧ Sub X' X w) := by
 have xFR := Sub.refl X w
 have hil := intL_len hz
 refine calls_of Tryz.func155 rfl rfl rfl rfl ?_
 have FR := Fr.refl X w
 refine DC.seq ?_
 refine DC.region ?_
 refine DL.y rfl rfl (Y.move) ?_
 refine DL.nil ?_
 show DC _ _ _ _ _ _
 refine DC.block ?_
 refine DC.seq ?_
 refine DC.region ?_
 refine DL.y rfl rfl (Y.eqNilI Tryz.underlying20 rfl) ?_
 refine DL.nil ?_
 show DC _ _ _ _ _ _
 refine DC.condF rfl ?_
 refine DC.seq ?_
 refine DC.region ?_
 refine DL.y rfl rfl (Y.asNo F.if4 F.z4 rfl rfl) ?_
 refine DL.y rfl rfl (Y.extract rfl rfl) ?_
 refine DL.y rfl rfl (Y.extract rfl rfl) ?_
 refine DL.nil ?_
 show DC _ _ _ _ _ _
 refine DC.condF rfl ?_
 refine DC.seq ?_
 refine DC.region ?_
 refine DL.y rfl rfl (Y.asYes F.if3 rfl) ?_
 refine DL.y rfl rfl (Y.extract rfl rfl) ?_
 refine DL.y rfl rfl (Y.extract rfl rfl) ?_
 refine DL.nil ?_
 show DC _ _ _ _ _ _
 refine DC.condT rfl ?_
 refine DC.seq ?_
 refine DC.region ?_
 refine DL.y rfl rfl (Y.assign) ?_
 refine DL.nil ?_
 show DC _ _ _ _ _ _
 refine DC.heldS (fun w => w.cell? ⟨be, 0, none⟩ = some (.iface 157 (.pointer (some ⟨b, 0, none⟩)))) F.mixed ?_
 intro w1 f2 hsw1
 replace FR := FR.tr0 f2
 replace hT : Tabs w1 := by first | exact hT.es hES f2 | exact hT.fr f2 (by intro c hc hm; simp at hm)
 replace hES := hES.fr0 f2
 refine ⟨hES.cell, ?_⟩
 refine DK.take 0 rfl (by kernel_rfl) (by kernel_rfl) (by kernel_rfl) rfl rfl (fun wq sq => Y.move) ?_
 refine DK.take 1 rfl (by kernel_rfl) (by kernel_rfl) (by kernel_rfl) rfl rfl (fun wq sq => Y.nil rfl) ?_
 refine DK.take 2 rfl (by kernel_rfl) (by kernel_rfl) (by kernel_rfl) rfl rfl (fun wq sq => Y.field F.fd164_0 rfl) ?_
 refine DK.take 3 rfl (by kernel_rfl) (by kernel_rfl) (by kernel_rfl) rfl rfl (fun wq sq => Y.load F.sc161 rfl sq) ?_
 refine DK.take 4 rfl (by kernel_rfl) (by kernel_rfl) (by kernel_rfl) rfl rfl (fun wq sq => Y.move) ?_
 refine DK.take 5 rfl (by kernel_rfl) (by kernel_rfl) (by kernel_rfl) rfl rfl (fun wq sq => Y.nil rfl) ?_
 refine DK.take 6 rfl (by kernel_rfl) (by kernel_rfl) (by kernel_rfl) rfl rfl (fun wq sq => Y.field F.fd164_1 rfl) ?_
 refine DK.take 7 rfl (by kernel_rfl) (by kernel_rfl) (by kernel_rfl) rfl rfl (fun wq sq => Y.sliceArrH (h := 0) arr64e rfl rfl (by omega)) ?_
 refine DK.take 8 rfl (by kernel_rfl) (by kernel_rfl) (by kernel_rfl) rfl rfl (fun wq sq => Y.move) ?_
 refine DK.take 10 rfl (by kernel_rfl) (by kernel_rfl) (by kernel_rfl) rfl rfl (fun wq sq => Y.nilI rfl) ?_
 refine DK.take 11 rfl (by kernel_rfl) (by kernel_rfl) (by kernel_rfl) rfl rfl (fun wq sq => Y.move) ?_
 refine DK.pick [9] (by kernel_rfl) (by simp) (fun ip hip => ?_)
 obtain rfl := List.mem_singleton.1 hip
 refine ⟨_, rfl, ?_⟩
 have hsR := Sub.refl X w1
 refine DL.call rfl rfl F.nm166 rfl (AppendInt_es z hz _ hES) ?_
 rintro _ w3 f4 ⟨rfl, hE48, hmA⟩
 have xFR' := xFR.step FR.size hsR
 replace FR := FR.put f4 xFR
 replace xFR := xFR'
 replace hT : Tabs w3 := by first | exact hT.es hES f4 | exact hT.fr f4 (by intro c hc hm; simp at hm)
 replace hES := hE48
 refine DL.nil ⟨hES.cell, ?_⟩
 refine DK.pick [12] (by kernel_rfl) (by simp) (fun ip hip => ?_)
 obtain rfl := List.mem_singleton.1 hip
 refine ⟨_, rfl, ?_⟩
 refine DL.invoke rfl rfl rfl rfl (hmW _ _) (hES.wbuf hmA (by omega)) ?_
 rintro _ w8 f9 ⟨X5, hE7, hs6⟩
 have xFR' := xFR.step FR.size hs6
 replace FR := FR.put f9 xFR
 replace xFR := xFR'
 replace hT : Tabs w8 := by first | exact hT.es hES f9 | exact hT.fr f9 (by intro c hc hm; simp at hm)
 try (replace hmA := fun i hi => Fr.cell f9 (hmA i hi) (by simp))
 replace hES := hE7
 refine DL.nil ⟨hES.cell, ?_⟩
 refine DK.done (by kernel_rfl) ?_
 exact FinQ.end0 (Ret.mk FR ⟨rfl, _, hES.cast (by simp), xFR⟩)

theorem encode_float {B be b : Nat} {X : List Nat} {l : List UInt8} (w : World) (hES : ES w B be b X l) (hT : Tabs w) {z : Int} {m d : Nat} (D : Dig z m d) (ho : z.natAbs % 2 = 1) (hlen : l.length + 1000 ≤ 140737488355328) : Calls Tryz.prog 155 #[(.pointer (some ⟨be, 0, none⟩)), .iface 79 (.float .f64 (wordF z m d))] w (Ret w X fun r w' => r = .tuple #[] ∧ ∃ X', ES w' B be b X' (l ++ numL z) ∧ Sub X' X w) := by
 have xFR := Sub.refl X w
 refine calls_of Tryz.func155 rfl rfl rfl rfl ?_
 have FR := Fr.refl X w
 refine DC.seq ?_
 refine DC.region ?_
 refine DL.y rfl rfl (Y.move) ?_
 refine DL.nil ?_
 show DC _ _ _ _ _ _
 refine DC.block ?_
 refine DC.seq ?_
 refine DC.region ?_
 refine DL.y rfl rfl (Y.eqNilI Tryz.underlying20 rfl) ?_
 refine DL.nil ?_
 show DC _ _ _ _ _ _
 refine DC.condF rfl ?_
 refine DC.seq ?_
 refine DC.region ?_
 refine DL.y rfl rfl (Y.asNo F.if4 F.z4 rfl rfl) ?_
 refine DL.y rfl rfl (Y.extract rfl rfl) ?_
 refine DL.y rfl rfl (Y.extract rfl rfl) ?_
 refine DL.nil ?_
 show DC _ _ _ _ _ _
 refine DC.condF rfl ?_
 refine DC.seq ?_
 refine DC.region ?_
 refine DL.y rfl rfl (Y.asNo F.if3 F.z3 rfl rfl) ?_
 refine DL.y rfl rfl (Y.extract rfl rfl) ?_
 refine DL.y rfl rfl (Y.extract rfl rfl) ?_
 refine DL.nil ?_
 show DC _ _ _ _ _ _
 refine DC.condF rfl ?_
 refine DC.seq ?_
 refine DC.region ?_
 refine DL.y rfl rfl (Y.asYes F.if79 rfl) ?_
 refine DL.y rfl rfl (Y.extract rfl rfl) ?_
 refine DL.y rfl rfl (Y.extract rfl rfl) ?_
 refine DL.nil ?_
 show DC _ _ _ _ _ _
 refine DC.condT rfl ?_
 refine DC.seq ?_
 refine DC.region ?_
 refine DL.y rfl rfl (Y.assign) ?_
 refine DL.nil ?_
 show DC _ _ _ _ _ _
 refine DC.region ?_
 refine DL.y rfl rfl (Y.move) ?_
 refine DL.y rfl rfl (Y.move) ?_
 refine DL.call rfl rfl F.nm167 rfl (encodeFloat_any D ho _ hES (by omega)) ?_
 rintro _ w4 f5 ⟨rfl, X1, hE3, hs2⟩
 have xFR' := xFR.step FR.size hs2
 replace FR := FR.put f5 xFR
 replace xFR := xFR'
 replace hT : Tabs w4 := by first | exact hT.es hES f5 | exact hT.fr f5 (by intro c hc hm; simp at hm)
 replace hES := hE3
 refine DL.nil ?_
 exact FinQ.end0 (Ret.mk FR ⟨rfl, _, hES.cast (by simp), xFR⟩)

theorem encode_text {B be b : Nat} {X : List Nat} {l : List UInt8} (w : World) (hES : ES w B be b X l) (hT : Tabs w) {s : ByteArray} (hv : Lib.validD s.data.toList = true) (hsz : s.size ≤ 1000000) (hlen : l.length + 80000000 ≤ 140737488355328) : Calls Tryz.prog 155 #[(.pointer (some ⟨be, 0, none⟩)), .iface 9 (.string s)] w (Ret w X fun r w' => r = .tuple #[] ∧ ∃ X', ES w' B be b X' (l ++ qL s.data.toList) ∧ Sub X' X w) := by
 have xFR := Sub.refl X w
 refine calls_of Tryz.func155 rfl rfl rfl rfl ?_
 have FR := Fr.refl X w
 refine DC.seq ?_
 refine DC.region ?_
 refine DL.y rfl rfl (Y.move) ?_
 refine DL.nil ?_
 show DC _ _ _ _ _ _
 refine DC.block ?_
 refine DC.seq ?_
 refine DC.region ?_
 refine DL.y rfl rfl (Y.eqNilI Tryz.underlying20 rfl) ?_
 refine DL.nil ?_
 show DC _ _ _ _ _ _
 refine DC.condF rfl ?_
 refine DC.seq ?_
 refine DC.region ?_
 refine DL.y rfl rfl (Y.asNo F.if4 F.z4 rfl rfl) ?_
 refine DL.y rfl rfl (Y.extract rfl rfl) ?_
 refine DL.y rfl rfl (Y.extract rfl rfl) ?_
 refine DL.nil ?_
 show DC _ _ _ _ _ _
 refine DC.condF rfl ?_
 refine DC.seq ?_
 refine DC.region ?_
 refine DL.y rfl rfl (Y.asNo F.if3 F.z3 rfl rfl) ?_
 refine DL.y rfl rfl (Y.extract rfl rfl) ?_
 refine DL.y rfl rfl (Y.extract rfl rfl) ?_
 refine DL.nil ?_
 show DC _ _ _ _ _ _
 refine DC.condF rfl ?_
 refine DC.seq ?_
 refine DC.region ?_
 refine DL.y rfl rfl (Y.asNo F.if79 F.z79 rfl rfl) ?_
 refine DL.y rfl rfl (Y.extract rfl rfl) ?_
 refine DL.y rfl rfl (Y.extract rfl rfl) ?_
 refine DL.nil ?_
 show DC _ _ _ _ _ _
 refine DC.condF rfl ?_
 refine DC.seq ?_
 refine DC.region ?_
 refine DL.y rfl rfl (Y.asNo F.if178 F.z178 rfl rfl) ?_
 refine DL.y rfl rfl (Y.extract rfl rfl) ?_
 refine DL.y rfl rfl (Y.extract rfl rfl) ?_
 refine DL.nil ?_
 show DC _ _ _ _ _ _
 refine DC.condF rfl ?_
 refine DC.seq ?_
 refine DC.region ?_
 refine DL.y rfl rfl (Y.asNo F.if180 F.z180 rfl rfl) ?_
 refine DL.y rfl rfl (Y.extract rfl rfl) ?_
 refine DL.y rfl rfl (Y.extract rfl rfl) ?_
 refine DL.nil ?_
 show DC _ _ _ _ _ _
 refine DC.condF rfl ?_
 refine DC.seq ?_
 refine DC.region ?_
 refine DL.y rfl rfl (Y.asYes F.if9 rfl) ?_
 refine DL.y rfl rfl (Y.extract rfl rfl) ?_
 refine DL.y rfl rfl (Y.extract rfl rfl) ?_
 refine DL.nil ?_
 show DC _ _ _ _ _ _
 refine DC.condT rfl ?_
 refine DC.seq ?_
 refine DC.region ?_
 refine DL.y rfl rfl (Y.assign) ?_
 refine DL.nil ?_
 show DC _ _ _ _ _ _
 refine DC.region ?_
 refine DL.y rfl rfl (Y.move) ?_
 refine DL.y rfl rfl (Y.move) ?_
 refine DL.call rfl rfl F.nm170 rfl (encodeString_any hES hT hv (by omega)) ?_
 rintro _ w4 f5 ⟨rfl, X1, hE3, hs2⟩
 have xFR' := xFR.step FR.size hs2
 replace FR := FR.put f5 xFR
 replace xFR := xFR'
 replace hT : Tabs w4 := by first | exact hT.es hES f5 | exact hT.fr f5 (by intro c hc hm; simp at hm)
 replace hES := hE3
 refine DL.nil ?_
 exact FinQ.end0 (Ret.mk FR ⟨rfl, _, hES.cast (by simp), xFR⟩)

theorem encode_list {B be b : Nat} {X : List Nat} {l : List UInt8} (w : World) (hES : ES w B be b X l) (hT : Tabs w) (m : Nat) (ih : EncC m) {c : Nat} {list : List V} {a : Option Addr} {xs : Nat → Value} (hm : V.nodesL list ≤ m) (hm2 : m ≤ 1000000) (hby : V.bytesL list ≤ 1000000) (hg : ∀ i (h : i < list.length), Good list[i]) (hL : InL w (· < B) a list xs) (hlen : l.length + 80000000 * (m + 1) ≤ 140737488355328) : Calls Tryz.prog 155 #[(.pointer (some ⟨be, 0, none⟩)), .iface 80 (.slice a list.length c)] w (Ret w X fun r w' => r = .tuple #[] ∧ ∃ X', ES w' B be b X' (l ++ (91 :: (joinT (jLs list) ++ [93]))) ∧ Sub X' X w) := by
 have xFR := Sub.refl X w
 refine calls_of Tryz.func155 rfl rfl rfl rfl ?_
 have FR := Fr.refl X w
 refine DC.seq ?_
 refine DC.region ?_
 refine DL.y rfl rfl (Y.move) ?_
 refine DL.nil ?_
 show DC _ _ _ _ _ _
 refine DC.block ?_
 refine DC.seq ?_
 refine DC.region ?_
 refine DL.y rfl rfl (Y.eqNilI Tryz.underlying20 rfl) ?_
 refine DL.nil ?_
 show DC _ _ _ _ _ _
 refine DC.condF rfl ?_
 refine DC.seq ?_
 refine DC.region ?_
 refine DL.y rfl rfl (Y.asNo F.if4 F.z4 rfl rfl) ?_
 refine DL.y rfl rfl (Y.extract rfl rfl) ?_
 refine DL.y rfl rfl (Y.extract rfl rfl) ?_
 refine DL.nil ?_
 show DC _ _ _ _ _ _
 refine DC.condF rfl ?_
 refine DC.seq ?_
 refine DC.region ?_
 refine DL.y rfl rfl (Y.asNo F.if3 F.z3 rfl rfl) ?_
 refine DL.y rfl rfl (Y.extract rfl rfl) ?_
 refine DL.y rfl rfl (Y.extract rfl rfl) ?_
 refine DL.nil ?_
 show DC _ _ _ _ _ _
 refine DC.condF rfl ?_
 refine DC.seq ?_
 refine DC.region ?_
 refine DL.y rfl rfl (Y.asNo F.if79 F.z79 rfl rfl) ?_
 refine DL.y rfl rfl (Y.extract rfl rfl) ?_
 refine DL.y rfl rfl (Y.extract rfl rfl) ?_
 refine DL.nil ?_
 show DC _ _ _ _ _ _
 refine DC.condF rfl ?_
 refine DC.seq ?_
 refine DC.region ?_
 refine DL.y rfl rfl (Y.asNo F.if178 F.z178 rfl rfl) ?_
 refine DL.y rfl rfl (Y.extract rfl rfl) ?_
 refine DL.y rfl rfl (Y.extract rfl rfl) ?_
 refine DL.nil ?_
 show DC _ _ _ _ _ _
 refine DC.condF rfl ?_
 refine DC.seq ?_
 refine DC.region ?_
 refine DL.y rfl rfl (Y.asNo F.if180 F.z180 rfl rfl) ?_
 refine DL.y rfl rfl (Y.extract rfl rfl) ?_
 refine DL.y rfl rfl (Y.extract rfl rfl) ?_
 refine DL.nil ?_
 show DC _ _ _ _ _ _
 refine DC.condF rfl ?_
 refine DC.seq ?_
 refine DC.region ?_
 refine DL.y rfl rfl (Y.asNo F.if9 F.z9 rfl rfl) ?_
 refine DL.y rfl rfl (Y.extract rfl rfl) ?_
 refine DL.y rfl rfl (Y.extract rfl rfl) ?_
 refine DL.nil ?_
 show DC _ _ _ _ _ _
 refine DC.condF rfl ?_
 refine DC.seq ?_
 refine DC.region ?_
 refine DL.y rfl rfl (Y.asYes F.if80 rfl) ?_
 refine DL.y rfl rfl (Y.extract rfl rfl) ?_
 refine DL.y rfl rfl (Y.extract rfl rfl) ?_
 refine DL.nil ?_
 show DC _ _ _ _ _ _
 refine DC.condT rfl ?_
 refine DC.seq ?_
 refine DC.region ?_
 refine DL.y rfl rfl (Y.assign) ?_
 refine DL.nil ?_
 show DC _ _ _ _ _ _
 refine DC.region ?_
 refine DL.y rfl rfl (Y.move) ?_
 refine DL.y rfl rfl (Y.move) ?_
 refine DL.call rfl rfl F.nm171 rfl (encodeArray_step m ih _ hm hm2 hby hg hL hES hT hlen) ?_
 rintro _ w4 f5 ⟨rfl, X1, hE3, hs2⟩
 have xFR' := xFR.step FR.size hs2
 replace FR := FR.put f5 xFR
 replace xFR := xFR'
 replace hT : Tabs w4 := by first | exact hT.es hES f5 | exact hT.fr f5 (by intro c hc hm; simp at hm)
 replace hES := hE3
 refine DL.nil ?_
 exact FinQ.end0 (Ret.mk FR ⟨rfl, _, hES.cast (by simp), xFR⟩)

theorem encode_map {B be b : Nat} {X : List Nat} {l : List UInt8} (w : World) (hES : ES w B be b X l) (hT : Tabs w) (m : Nat) (ih : EncC m) {r : Nat} {keys : List ByteArray} {vals : List V} {es : Array MapEntry} {xs : Nat → Value} (hm : V.nodesL vals ≤ m) (hm2 : m ≤ 1000000) (hby : V.bytesL vals + bytesK keys ≤ 1000000) (hg : ∀ i (h : i < vals.length), Good vals[i]) (hkl : keys.length = vals.length) (hkval : ∀ i (h : i < keys.length), Lib.validD keys[i].data.toList = true) (hrise : ∀ i (h : i + 1 < keys.length), Op.bytesLess keys[i].toList keys[i + 1].toList = true) (hrB : r < B) (hmap : w.heap[r]? = some (.map es keys.length)) (hes : es.size = keys.length) (hent : ∀ (i : Nat) (h : i < keys.length), es[i]? = some ⟨.string keys[i], xs i, i⟩) (hgv : GVs w B vals xs) (hlen : l.length + 80000000 * (m + 1) ≤ 140737488355328) : Calls Tryz.prog 155 #[(.pointer (some ⟨be, 0, none⟩)), .iface 83 (.map (some r))] w (Ret w X fun r w' => r = .tuple #[] ∧ ∃ X', ES w' B be b X' (l ++ (123 :: (joinT (jMs keys vals) ++ [125]))) ∧ Sub X' X w) := by
 have xFR := Sub.refl X w
 refine calls_of Tryz.func155 rfl rfl rfl rfl ?_
 have FR := Fr.refl X w
 refine DC.seq ?_
 refine DC.region ?_
 refine DL.y rfl rfl (Y.move) ?_
 refine DL.nil ?_
 show DC _ _ _ _ _ _
 refine DC.block ?_
 refine DC.seq ?_
 refine DC.region ?_
 refine DL.y rfl rfl (Y.eqNilI Tryz.underlying20 rfl) ?_
 refine DL.nil ?_
 show DC _ _ _ _ _ _
 refine DC.condF rfl ?_
 refine DC.seq ?_
 refine DC.region ?_
 refine DL.y rfl rfl (Y.asNo F.if4 F.z4 rfl rfl) ?_
 refine DL.y rfl rfl (Y.extract rfl rfl) ?_
 refine DL.y rfl rfl (Y.extract rfl rfl) ?_
 refine DL.nil ?_
 show DC _ _ _ _ _ _
 refine DC.condF rfl ?_
 refine DC.seq ?_
 refine DC.region ?_
 refine DL.y rfl rfl (Y.asNo F.if3 F.z3 rfl rfl) ?_
 refine DL.y rfl rfl (Y.extract rfl rfl) ?_
 refine DL.y rfl rfl (Y.extract rfl rfl) ?_
 refine DL.nil ?_
 show DC _ _ _ _ _ _
 refine DC.condF rfl ?_
 refine DC.seq ?_
 refine DC.region ?_
 refine DL.y rfl rfl (Y.asNo F.if79 F.z79 rfl rfl) ?_
 refine DL.y rfl rfl (Y.extract rfl rfl) ?_
 refine DL.y rfl rfl (Y.extract rfl rfl) ?_
 refine DL.nil ?_
 show DC _ _ _ _ _ _
 refine DC.condF rfl ?_
 refine DC.seq ?_
 refine DC.region ?_
 refine DL.y rfl rfl (Y.asNo F.if178 F.z178 rfl rfl) ?_
 refine DL.y rfl rfl (Y.extract rfl rfl) ?_
 refine DL.y rfl rfl (Y.extract rfl rfl) ?_
 refine DL.nil ?_
 show DC _ _ _ _ _ _
 refine DC.condF rfl ?_
 refine DC.seq ?_
 refine DC.region ?_
 refine DL.y rfl rfl (Y.asNo F.if180 F.z180 rfl rfl) ?_
 refine DL.y rfl rfl (Y.extract rfl rfl) ?_
 refine DL.y rfl rfl (Y.extract rfl rfl) ?_
 refine DL.nil ?_
 show DC _ _ _ _ _ _
 refine DC.condF rfl ?_
 refine DC.seq ?_
 refine DC.region ?_
 refine DL.y rfl rfl (Y.asNo F.if9 F.z9 rfl rfl) ?_
 refine DL.y rfl rfl (Y.extract rfl rfl) ?_
 refine DL.y rfl rfl (Y.extract rfl rfl) ?_
 refine DL.nil ?_
 show DC _ _ _ _ _ _
 refine DC.condF rfl ?_
 refine DC.seq ?_
 refine DC.region ?_
 refine DL.y rfl rfl (Y.asNo F.if80 F.z80 rfl rfl) ?_
 refine DL.y rfl rfl (Y.extract rfl rfl) ?_
 refine DL.y rfl rfl (Y.extract rfl rfl) ?_
 refine DL.nil ?_
 show DC _ _ _ _ _ _
 refine DC.condF rfl ?_
 refine DC.seq ?_
 refine DC.region ?_
 refine DL.y rfl rfl (Y.asYes F.if83 rfl) ?_
 refine DL.y rfl rfl (Y.extract rfl rfl) ?_
 refine DL.y rfl rfl (Y.extract rfl rfl) ?_
 refine DL.nil ?_
 show DC _ _ _ _ _ _
 refine DC.condT rfl ?_
 refine DC.seq ?_
 refine DC.region ?_
 refine DL.y rfl rfl (Y.assign) ?_
 refine DL.nil ?_
 show DC _ _ _ _ _ _
 refine DC.region ?_
 refine DL.y rfl rfl (Y.move) ?_
 refine DL.y rfl rfl (Y.move) ?_
 refine DL.call rfl rfl F.nm172 rfl (encodeObject_step m ih _ hm hm2 hby hg hkl hkval hrise hrB hmap hes hent hgv hES hT hlen) ?_
 rintro _ w4 f5 ⟨rfl, X1, hE3, hs2⟩
 have xFR' := xFR.step FR.size hs2
 replace FR := FR.put f5 xFR
 replace xFR := xFR'
 replace hT : Tabs w4 := by first | exact hT.es hES f5 | exact hT.fr f5 (by intro c hc hm; simp at hm)
 replace hES := hE3
 refine DL.nil ?_
 exact FinQ.end0 (Ret.mk FR ⟨rfl, _, hES.cast (by simp), xFR⟩)


theorem encode_step (m : Nat) (ih : EncC m) : EncC (m + 1) := by
 intro v x B be b X l w hm hm2 hby hG hgv hES hT hlen
 obtain ⟨gn, hgl, hgvs⟩ := hG
 rename_i kind half text list keys vals
 simp only [V.nodes] at hm
 simp only [V.bytes] at hby
 have hl1 := enc_len hlen
 have hlen' : ∀ _ : Unit, l.length + 80000000 * (m + 1) ≤ 140737488355328 := fun _ => hlen
 clear hlen
 cases hgv with
 | null =>
  have e : jL (.mk 0 half text list keys vals) = [110, 117, 108, 108] := by simp [jL]
  rw [e]; exact encode_null w hES hT (by omega)
 | fls =>
  have e : jL (.mk 1 half text list keys vals) = [102, 97, 108, 115, 101] := by simp [jL]
  rw [e]; exact encode_false w hES hT (by omega)
 | tru =>
  have e : jL (.mk 2 half text list keys vals) = [116, 114, 117, 101] := by simp [jL]
  rw [e]; exact encode_true w hES hT (by omega)
 | whole h =>
  have hb := gn.hbound
  have htd := tdiv2 hb.1 hb.2
  have e : jL (.mk 3 half text list keys vals) = intL (half.tdiv 2) := by rw [intL_half h]; simp [jL]
  rw [e]
  exact encode_int w hES hT (half.tdiv 2) (by omega) (by omega)
 | frac h =>
  have ho := odd_of h
  have hb : -9007199254740992 < half ∧ half < 9007199254740992 := gn.hodd.resolve_left h
  obtain ⟨mm, d, D⟩ := dig_of (h := half) (by omega) (by omega)
  rw [D.bits]
  have e : jL (.mk 3 half text list keys vals) = numL half := by simp [jL]
  rw [e]
  exact encode_float w hES hT D ho (by omega)
 | text =>
  have e : jL (.mk 4 half text list keys vals) = qL text.data.toList := by simp [jL]
  rw [e]
  exact encode_text w hES hT gn.tvalid (by omega) (by omega)
 | list xs hr hx =>
  have e : jL (.mk 5 half text list keys vals) = 91 :: (joinT (jLs list) ++ [93]) := by simp [jL]
  rw [e]
  exact encode_list w hES hT m ih (by omega) (by omega) (by omega) hgl ⟨hr, hx⟩ (hlen' ())
 | map es xs hd hr hs he hx =>
  have e : jL (.mk 6 half text list keys vals) = 123 :: (joinT (jMs keys vals) ++ [125]) := by simp [jL]
  rw [e]
  exact encode_map w hES hT m ih (by omega) (by omega) (by omega) hgvs gn.same gn.kvalid gn.rise hd hr hs he hx (hlen' ())
theorem encode_any : ∀ m, EncC m
 | 0 => fun v x B be b X l w hm => by have := nodes_pos v; omega
 | m + 1 => encode_step m (encode_any m)

end Go.Proofs.YtmbleojlnaofjaaGreatDoor

/- Texts and null: from a value to the program's own and back. -/
namespace Go.Proofs.YtmbleojlnaofjaaGreatDoor
open Go Go.RowKit D
set_option linter.unusedVariables false
set_option linter.unusedSimpArgs false


/-- A text, null, as the laws hand them about. -/
def strC (s : ByteArray) : Array Value := #[.int .i64 4, .int .i64 0, .string s, .slice none 0 0, .slice none 0 0, .slice none 0 0]
def nulC : Array Value := #[.int .i64 0, .int .i64 0, .string ⟨#[]⟩, .slice none 0 0, .slice none 0 0, .slice none 0 0]
def strR (s : ByteArray) : Array Value := #[.int .i64 4, .int .i64 0, .string s, .slice none 0 0, .slice none 0 0, .slice none 0 0, .int .i64 0]
def nulR : Array Value := #[.int .i64 0, .int .i64 0, .string ⟨#[]⟩, .slice none 0 0, .slice none 0 0, .slice none 0 0, .int .i64 0]
def strV (s : ByteArray) : V := .mk 4 0 s [] [] []
def nulV : V := .mk 0 0 ⟨#[]⟩ [] [] []
theorem strRV (w : World) (B : Nat) (s : ByteArray) (h : s.size ≤ 140737488351232) : RV w B (strV s) (strC s) :=
 .mk (fun _ => #[]) (fun _ => #[]) (by omega) (by omega) h (by simp) (by simp) (by simp) (by simp) (fun i hi => absurd hi (by simp)) (fun i hi => absurd hi (by simp)) (fun i hi => absurd hi (by simp)) (fun i hi => absurd hi (by simp)) (fun i hi => absurd hi (by simp))
theorem nulRV (w : World) (B : Nat) : RV w B nulV nulC :=
 .mk (fun _ => #[]) (fun _ => #[]) (by omega) (by omega) (by decide) (by simp) (by simp) (by simp) (by simp) (fun i hi => absurd hi (by simp)) (fun i hi => absurd hi (by simp)) (fun i hi => absurd hi (by simp)) (fun i hi => absurd hi (by simp)) (fun i hi => absurd hi (by simp))

theorem Str_any (s : ByteArray) (w : World) : Calls Tryz.prog 16 #[.string s] w (Ret w [] fun v _ => v = .agg (strC s)) := by
 refine calls_of Tryz.func16 rfl rfl rfl rfl ?_
 have FR := Fr.refl [] w
 refine DC.seq ?_
 refine DC.region ?_
 refine DL.alloc rfl rfl F.z26 rfl ?_
 intro b2 w1 f2 lo2 hi2 hb2
 replace lo2 := Nat.le_trans FR.size lo2
 replace FR := FR.tr0 f2
 refine DL.nil ?_
 show DC _ _ _ _ _ _
 refine DC.seq ?_
 refine DC.region ?_
 refine DL.y rfl rfl (Y.move) ?_
 refine DL.y rfl rfl (Y.build (cs := strC s) (by kernel_rfl)) ?_
 refine DL.storeA rfl F.ag26 rfl rfl rfl (by kernel_rfl) hb2 rfl ?_
 intro w3 f4 hs5 hb2'
 replace FR := FR.put f4 (by intro i hi; simp only [List.mem_cons, List.mem_singleton, List.not_mem_nil, or_false] at hi; rcases hi with rfl; all_goals (first | (left; simp; done) | (right; omega)))
 replace hi2 := Nat.lt_of_lt_of_le hi2 f4.size
 replace hb2 := hb2'
 refine DL.nil ?_
 show DC _ _ _ _ _ _
 refine DC.ret ?_
 exact FinQ.retC rfl (cs := strC s) F.ag26 (.ofBlk hb2) (Ret.mk FR rfl)

theorem toGo_txt (s : ByteArray) (w : World) : Calls Tryz.prog 36 #[.agg (strC s)] w (Ret w [] fun v _ => v = .tuple #[.iface 9 (.string s), .bool true]) := by
 refine calls_of Tryz.func36 rfl rfl rfl rfl ?_
 have FR := Fr.refl [] w
 refine DC.seq ?_
 refine DC.region ?_
 refine DL.boxA rfl rfl rfl ?_
 intro b1 w1 f2 lo1 hi1 hb1
 replace lo1 := Nat.le_trans FR.size lo1
 replace FR := FR.tr0 f2
 refine DL.y rfl rfl (Y.assign) ?_
 refine DL.y rfl rfl (Y.assign) ?_
 refine DL.nil ?_
 show DC _ _ _ _ _ _
 refine DC.seq ?_
 refine DC.seq ?_
 refine DC.region ?_
 refine DL.y rfl rfl (Y.field F.fd26_0 rfl) ?_
 refine DL.y rfl rfl (Y.loadB F.sc22 rfl hb1 rfl) ?_
 refine DL.nil ?_
 show DC _ _ _ _ _ _
 refine DC.block ?_
 refine DC.seq ?_
 refine DC.region ?_
 refine DL.if rfl rfl (Y.eq rfl rfl) (fun c7 => ?_) (fun c7 => ?_)
 ·exfalso; omega
 ·refine DL.y rfl rfl (Y.assign) ?_
  refine DL.nil ?_
  show DC _ _ _ _ _ _
  refine DC.condF rfl ?_
  refine DC.seq ?_
  refine DC.region ?_
  refine DL.if rfl rfl (Y.eq rfl rfl) (fun c9 => ?_) (fun c9 => ?_)
  ·exfalso; omega
  ·refine DL.y rfl rfl (Y.assign) ?_
   refine DL.nil ?_
   show DC _ _ _ _ _ _
   refine DC.condF rfl ?_
   refine DC.seq ?_
   refine DC.region ?_
   refine DL.if rfl rfl (Y.eq rfl rfl) (fun c12 => ?_) (fun c12 => ?_)
   ·exfalso; omega
   ·refine DL.y rfl rfl (Y.assign) ?_
    refine DL.nil ?_
    show DC _ _ _ _ _ _
    refine DC.condF rfl ?_
    refine DC.seq ?_
    refine DC.region ?_
    refine DL.if rfl rfl (Y.eq rfl rfl) (fun c15 => ?_) (fun c15 => ?_)
    ·exfalso; omega
    ·refine DL.y rfl rfl (Y.assign) ?_
     refine DL.nil ?_
     show DC _ _ _ _ _ _
     refine DC.condF rfl ?_
     refine DC.seq ?_
     refine DC.region ?_
     refine DL.if rfl rfl (Y.eq rfl rfl) (fun c30 => ?_) (fun c30 => ?_)
     ·refine DL.y rfl rfl (Y.assign) ?_
      refine DL.nil ?_
      show DC _ _ _ _ _ _
      refine DC.condT rfl ?_
      refine DC.seq ?_
      refine DC.region ?_
      refine DL.y rfl rfl (Y.field F.fd26_2 rfl) ?_
      refine DL.y rfl rfl (Y.loadB F.sc9 rfl hb1 rfl) ?_
      refine DL.y rfl rfl (Y.mkI F.if9) ?_
      refine DL.y rfl rfl (Y.assign) ?_
      refine DL.y rfl rfl (Y.assign) ?_
      refine DL.nil ?_
      show DC _ _ _ _ _ _
      refine DC.ret ?_
      exact FinQ.ret2 rfl rfl (Ret.mk FR rfl)
     ·exfalso; omega

theorem fromGo_txt (s : ByteArray) (w : World) : Calls Tryz.prog 72 #[.iface 9 (.string s)] w (Ret w [] fun v _ => v = .tuple #[.agg (strC s), .bool true]) := by
 refine calls_of Tryz.func72 rfl rfl rfl rfl ?_
 have FR := Fr.refl [] w
 refine DC.seq ?_
 refine DC.region ?_
 refine DL.alloc rfl rfl F.z26 rfl ?_
 intro b2 w1 f2 lo2 hi2 hb2
 replace lo2 := Nat.le_trans FR.size lo2
 replace FR := FR.tr0 f2
 refine DL.y rfl rfl (Y.assign) ?_
 refine DL.nil ?_
 show DC _ _ _ _ _ _
 refine DC.seq ?_
 refine DC.seq ?_
 refine DC.region ?_
 refine DL.y rfl rfl (Y.move) ?_
 refine DL.nil ?_
 show DC _ _ _ _ _ _
 refine DC.block ?_
 refine DC.seq ?_
 refine DC.region ?_
 refine DL.y rfl rfl (Y.eqNilI Tryz.underlying20 rfl) ?_
 refine DL.nil ?_
 show DC _ _ _ _ _ _
 refine DC.condF rfl ?_
 refine DC.seq ?_
 refine DC.region ?_
 refine DL.y rfl rfl (Y.asNo F.if4 F.z4 rfl rfl) ?_
 refine DL.y rfl rfl (Y.extract rfl rfl) ?_
 refine DL.y rfl rfl (Y.extract rfl rfl) ?_
 refine DL.nil ?_
 show DC _ _ _ _ _ _
 refine DC.condF rfl ?_
 refine DC.seq ?_
 refine DC.region ?_
 refine DL.y rfl rfl (Y.asNo F.if3 F.z3 rfl rfl) ?_
 refine DL.y rfl rfl (Y.extract rfl rfl) ?_
 refine DL.y rfl rfl (Y.extract rfl rfl) ?_
 refine DL.nil ?_
 show DC _ _ _ _ _ _
 refine DC.condF rfl ?_
 refine DC.seq ?_
 refine DC.region ?_
 refine DL.y rfl rfl (Y.asNo F.if79 F.z79 rfl rfl) ?_
 refine DL.y rfl rfl (Y.extract rfl rfl) ?_
 refine DL.y rfl rfl (Y.extract rfl rfl) ?_
 refine DL.nil ?_
 show DC _ _ _ _ _ _
 refine DC.condF rfl ?_
 refine DC.seq ?_
 refine DC.region ?_
 refine DL.y rfl rfl (Y.asYes F.if9 rfl) ?_
 refine DL.y rfl rfl (Y.extract rfl rfl) ?_
 refine DL.y rfl rfl (Y.extract rfl rfl) ?_
 refine DL.nil ?_
 show DC _ _ _ _ _ _
 refine DC.condT rfl ?_
 refine DC.seq ?_
 refine DC.region ?_
 refine DL.y rfl rfl (Y.assign) ?_
 refine DL.nil ?_
 show DC _ _ _ _ _ _
 refine DC.seq ?_
 refine DC.region ?_
 refine DL.y rfl rfl (Y.move) ?_
 refine DL.y rfl rfl (Y.build (cs := strC s) (by kernel_rfl)) ?_
 refine DL.storeA rfl F.ag26 rfl rfl rfl (by kernel_rfl) hb2 rfl ?_
 intro w3 f4 hs5 hb2'
 replace FR := FR.put f4 (by intro i hi; simp only [List.mem_cons, List.mem_singleton, List.not_mem_nil, or_false] at hi; rcases hi with rfl; all_goals (first | (left; simp; done) | (right; omega)))
 replace hi2 := Nat.lt_of_lt_of_le hi2 f4.size
 replace hb2 := hb2'
 refine DL.y rfl rfl (Y.assign) ?_
 refine DL.nil ?_
 show DC _ _ _ _ _ _
 refine DC.ret ?_
 exact FinQ.retCT rfl (cs := strC s) F.ag26 (.ofBlk hb2) rfl (Ret.mk FR rfl)

theorem fromGo_nil  (w : World) : Calls Tryz.prog 72 #[.nilIface] w (Ret w [] fun v _ => v = .tuple #[.agg (nulC), .bool true]) := by
 refine calls_of Tryz.func72 rfl rfl rfl rfl ?_
 have FR := Fr.refl [] w
 refine DC.seq ?_
 refine DC.region ?_
 refine DL.alloc rfl rfl F.z26 rfl ?_
 intro b2 w1 f2 lo2 hi2 hb2
 replace lo2 := Nat.le_trans FR.size lo2
 replace FR := FR.tr0 f2
 refine DL.y rfl rfl (Y.assign) ?_
 refine DL.nil ?_
 show DC _ _ _ _ _ _
 refine DC.seq ?_
 refine DC.seq ?_
 refine DC.region ?_
 refine DL.y rfl rfl (Y.move) ?_
 refine DL.nil ?_
 show DC _ _ _ _ _ _
 refine DC.block ?_
 refine DC.seq ?_
 refine DC.region ?_
 refine DL.y rfl rfl (Y.eqNilN Tryz.underlying20 rfl) ?_
 refine DL.nil ?_
 show DC _ _ _ _ _ _
 refine DC.condT rfl ?_
 refine DC.seq ?_
 refine DC.region ?_
 refine DL.y rfl rfl (Y.assign) ?_
 refine DL.nil ?_
 show DC _ _ _ _ _ _
 refine DC.seq ?_
 refine DC.region ?_
 refine DL.y rfl rfl (Y.build (cs := nulC) (by kernel_rfl)) ?_
 refine DL.storeA rfl F.ag26 rfl rfl rfl (by kernel_rfl) hb2 rfl ?_
 intro w3 f4 hs5 hb2'
 replace FR := FR.put f4 (by intro i hi; simp only [List.mem_cons, List.mem_singleton, List.not_mem_nil, or_false] at hi; rcases hi with rfl; all_goals (first | (left; simp; done) | (right; omega)))
 replace hi2 := Nat.lt_of_lt_of_le hi2 f4.size
 replace hb2 := hb2'
 refine DL.y rfl rfl (Y.assign) ?_
 refine DL.nil ?_
 show DC _ _ _ _ _ _
 refine DC.ret ?_
 exact FinQ.retCT rfl (cs := nulC) F.ag26 (.ofBlk hb2) rfl (Ret.mk FR rfl)

theorem result_txt (s : ByteArray) (w : World) : Calls Tryz.prog 37 #[.iface 9 (.string s)] w (Ret w [] fun v _ => v = .agg (strR s)) := by
 refine calls_of Tryz.func37 rfl rfl rfl rfl ?_
 have FR := Fr.refl [] w
 refine DC.seq ?_
 refine DC.region ?_
 refine DL.alloc rfl rfl F.z34 rfl ?_
 intro b2 w1 f2 lo2 hi2 hb2
 replace lo2 := Nat.le_trans FR.size lo2
 replace FR := FR.tr0 f2
 refine DL.nil ?_
 show DC _ _ _ _ _ _
 refine DC.seq ?_
 refine DC.seq ?_
 refine DC.region ?_
 refine DL.y rfl rfl (Y.move) ?_
 refine DL.y rfl rfl (Y.asIfNo (by kernel_rfl) F.z87 rfl) ?_
 refine DL.y rfl rfl (Y.move) ?_
 refine DL.y rfl rfl (Y.extract rfl rfl) ?_
 refine DL.y rfl rfl (Y.extract rfl rfl) ?_
 refine DL.y rfl rfl (Y.assign) ?_
 refine DL.y rfl rfl (Y.assign) ?_
 refine DL.nil ?_
 show DC _ _ _ _ _ _
 refine DC.seq ?_
 refine DC.region ?_
 refine DL.y rfl rfl (Y.move) ?_
 refine DL.nil ?_
 show DC _ _ _ _ _ _
 refine DC.condF rfl ?_
 refine DC.skip ?_
 show DC _ _ _ _ _ _
 refine DC.seq ?_
 refine DC.region ?_
 refine DL.y rfl rfl (Y.move) ?_
 refine DL.call rfl rfl F.nm72 rfl (fromGo_txt _ _) ?_
 rintro _ w3 f4 rfl
 replace FR := FR.tr0 f4
 replace hb2 := f4.blk0 hb2
 replace hi2 := Nat.lt_of_lt_of_le hi2 f4.size
 refine DL.y rfl rfl (Y.move) ?_
 refine DL.y rfl rfl (Y.extract rfl rfl) ?_
 refine DL.y rfl rfl (Y.extract rfl rfl) ?_
 refine DL.alloc rfl rfl F.z26 rfl ?_
 intro b5 w5 f6 lo5 hi5 hb5
 have lt_b2_b5 : b2 < b5 := Nat.lt_of_lt_of_le hi2 lo5
 replace lo5 := Nat.le_trans FR.size lo5
 replace FR := FR.tr0 f6
 replace hb2 := f6.blk0 hb2
 replace hi2 := Nat.lt_of_lt_of_le hi2 f6.size
 refine DL.storeA rfl F.ag26 rfl rfl rfl (by kernel_rfl) hb5 rfl ?_
 intro w7 f8 hs9 hb5'
 replace FR := FR.put f8 (by intro i hi; simp only [List.mem_cons, List.mem_singleton, List.not_mem_nil, or_false] at hi; rcases hi with rfl; all_goals (first | (left; simp; done) | (right; omega)))
 replace hb2 := f8.blk hb2 (by simp only [List.mem_cons, List.not_mem_nil, or_false, not_or]; omega)
 replace hi2 := Nat.lt_of_lt_of_le hi2 f8.size
 replace hi5 := Nat.lt_of_lt_of_le hi5 f8.size
 replace hb5 := hb5'
 refine DL.y rfl rfl (Y.assign) ?_
 refine DL.nil ?_
 show DC _ _ _ _ _ _
 refine DC.seq ?_
 refine DC.seq ?_
 refine DC.region ?_
 refine DL.y rfl rfl (Y.move) ?_
 refine DL.y rfl rfl (Y.not rfl) ?_
 refine DL.nil ?_
 show DC _ _ _ _ _ _
 refine DC.condF rfl ?_
 refine DC.skip ?_
 show DC _ _ _ _ _ _
 refine DC.seq ?_
 refine DC.region ?_
 refine DL.y rfl rfl (Y.loadW rfl hb5 F.ag26) ?_
 refine DL.y rfl rfl (Y.build (cs := strR s) (by kernel_rfl)) ?_
 refine DL.storeA rfl F.ag34 rfl rfl rfl (by kernel_rfl) hb2 rfl ?_
 intro w10 f11 hs12 hb2'
 replace FR := FR.put f11 (by intro i hi; simp only [List.mem_cons, List.mem_singleton, List.not_mem_nil, or_false] at hi; rcases hi with rfl; all_goals (first | (left; simp; done) | (right; omega)))
 replace hi2 := Nat.lt_of_lt_of_le hi2 f11.size
 replace hi5 := Nat.lt_of_lt_of_le hi5 f11.size
 replace hb5 := f11.blk hb5 (by simp only [List.mem_cons, List.not_mem_nil, or_false, not_or]; omega)
 replace hb2 := hb2'
 refine DL.nil ?_
 show DC _ _ _ _ _ _
 refine DC.ret ?_
 exact FinQ.retC rfl (cs := strR s) F.ag34 (.ofBlk hb2) (Ret.mk FR rfl)

theorem result_nil  (w : World) : Calls Tryz.prog 37 #[.nilIface] w (Ret w [] fun v _ => v = .agg (nulR)) := by
 refine calls_of Tryz.func37 rfl rfl rfl rfl ?_
 have FR := Fr.refl [] w
 refine DC.seq ?_
 refine DC.region ?_
 refine DL.alloc rfl rfl F.z34 rfl ?_
 intro b2 w1 f2 lo2 hi2 hb2
 replace lo2 := Nat.le_trans FR.size lo2
 replace FR := FR.tr0 f2
 refine DL.nil ?_
 show DC _ _ _ _ _ _
 refine DC.seq ?_
 refine DC.seq ?_
 refine DC.region ?_
 refine DL.y rfl rfl (Y.move) ?_
 refine DL.y rfl rfl (Y.asIfNil (by kernel_rfl) F.z87 rfl) ?_
 refine DL.y rfl rfl (Y.move) ?_
 refine DL.y rfl rfl (Y.extract rfl rfl) ?_
 refine DL.y rfl rfl (Y.extract rfl rfl) ?_
 refine DL.y rfl rfl (Y.assign) ?_
 refine DL.y rfl rfl (Y.assign) ?_
 refine DL.nil ?_
 show DC _ _ _ _ _ _
 refine DC.seq ?_
 refine DC.region ?_
 refine DL.y rfl rfl (Y.move) ?_
 refine DL.nil ?_
 show DC _ _ _ _ _ _
 refine DC.condF rfl ?_
 refine DC.skip ?_
 show DC _ _ _ _ _ _
 refine DC.seq ?_
 refine DC.region ?_
 refine DL.y rfl rfl (Y.move) ?_
 refine DL.call rfl rfl F.nm72 rfl (fromGo_nil  _) ?_
 rintro _ w3 f4 rfl
 replace FR := FR.tr0 f4
 replace hb2 := f4.blk0 hb2
 replace hi2 := Nat.lt_of_lt_of_le hi2 f4.size
 refine DL.y rfl rfl (Y.move) ?_
 refine DL.y rfl rfl (Y.extract rfl rfl) ?_
 refine DL.y rfl rfl (Y.extract rfl rfl) ?_
 refine DL.alloc rfl rfl F.z26 rfl ?_
 intro b5 w5 f6 lo5 hi5 hb5
 have lt_b2_b5 : b2 < b5 := Nat.lt_of_lt_of_le hi2 lo5
 replace lo5 := Nat.le_trans FR.size lo5
 replace FR := FR.tr0 f6
 replace hb2 := f6.blk0 hb2
 replace hi2 := Nat.lt_of_lt_of_le hi2 f6.size
 refine DL.storeA rfl F.ag26 rfl rfl rfl (by kernel_rfl) hb5 rfl ?_
 intro w7 f8 hs9 hb5'
 replace FR := FR.put f8 (by intro i hi; simp only [List.mem_cons, List.mem_singleton, List.not_mem_nil, or_false] at hi; rcases hi with rfl; all_goals (first | (left; simp; done) | (right; omega)))
 replace hb2 := f8.blk hb2 (by simp only [List.mem_cons, List.not_mem_nil, or_false, not_or]; omega)
 replace hi2 := Nat.lt_of_lt_of_le hi2 f8.size
 replace hi5 := Nat.lt_of_lt_of_le hi5 f8.size
 replace hb5 := hb5'
 refine DL.y rfl rfl (Y.assign) ?_
 refine DL.nil ?_
 show DC _ _ _ _ _ _
 refine DC.seq ?_
 refine DC.seq ?_
 refine DC.region ?_
 refine DL.y rfl rfl (Y.move) ?_
 refine DL.y rfl rfl (Y.not rfl) ?_
 refine DL.nil ?_
 show DC _ _ _ _ _ _
 refine DC.condF rfl ?_
 refine DC.skip ?_
 show DC _ _ _ _ _ _
 refine DC.seq ?_
 refine DC.region ?_
 refine DL.y rfl rfl (Y.loadW rfl hb5 F.ag26) ?_
 refine DL.y rfl rfl (Y.build (cs := nulR) (by kernel_rfl)) ?_
 refine DL.storeA rfl F.ag34 rfl rfl rfl (by kernel_rfl) hb2 rfl ?_
 intro w10 f11 hs12 hb2'
 replace FR := FR.put f11 (by intro i hi; simp only [List.mem_cons, List.mem_singleton, List.not_mem_nil, or_false] at hi; rcases hi with rfl; all_goals (first | (left; simp; done) | (right; omega)))
 replace hi2 := Nat.lt_of_lt_of_le hi2 f11.size
 replace hi5 := Nat.lt_of_lt_of_le hi5 f11.size
 replace hb5 := f11.blk hb5 (by simp only [List.mem_cons, List.not_mem_nil, or_false, not_or]; omega)
 replace hb2 := hb2'
 refine DL.nil ?_
 show DC _ _ _ _ _ _
 refine DC.ret ?_
 exact FinQ.retC rfl (cs := nulR) F.ag34 (.ofBlk hb2) (Ret.mk FR rfl)

theorem told_any (v : V) (c0 c1 c2 c3 c4 c5 : Value) (cb : Array Value) (B : Nat) (w : World) (hA : RV w B v #[c0, c1, c2, c3, c4, c5]) (hB : RV w B v cb) :
  Calls Tryz.prog 10 #[.agg #[c0, c1, c2, c3, c4, c5, .int .i64 0], .agg cb, .int .i64 0] w (Ret w [] fun r _ => r = .bool true) := by
 have sb := hB.size
 obtain ⟨kind, half, text, list, keys, vals⟩ := v
 obtain ⟨lb, ld, kb, kd, vb, vd, rfl⟩ := hB.shape
 refine calls_of Tryz.func10 rfl rfl rfl rfl ?_
 have FR := Fr.refl [] w
 refine DC.seq ?_
 refine DC.region ?_
 refine DL.boxA rfl rfl rfl ?_
 intro b3 w1 f2 lo3 hi3 hb3
 replace lo3 := Nat.le_trans FR.size lo3
 replace FR := FR.tr0 f2
 replace hA := hA.fr f2 (by intro x hx; simp <;> omega)
 replace hB := hB.fr f2 (by intro x hx; simp <;> omega)
 refine DL.boxA rfl rfl rfl ?_
 intro b4 w3 f4 lo4 hi4 hb4
 have lt_b3_b4 : b3 < b4 := Nat.lt_of_lt_of_le hi3 lo4
 replace lo4 := Nat.le_trans FR.size lo4
 replace FR := FR.tr0 f4
 replace hA := hA.fr f4 (by intro x hx; simp <;> omega)
 replace hB := hB.fr f4 (by intro x hx; simp <;> omega)
 replace hb3 := f4.blk0 hb3
 replace hi3 := Nat.lt_of_lt_of_le hi3 f4.size
 refine DL.y rfl rfl (Y.assign) ?_
 refine DL.nil ?_
 show DC _ _ _ _ _ _
 refine DC.seq ?_
 refine DC.seq ?_
 refine DC.region ?_
 refine DL.y rfl rfl (Y.move) ?_
 refine DL.nil ?_
 show DC _ _ _ _ _ _
 refine DC.block ?_
 refine DC.seq ?_
 refine DC.region ?_
 refine DL.if rfl rfl (Y.eq rfl rfl) (fun c9 => ?_) (fun c9 => ?_)
 ·exfalso; omega
 ·refine DL.y rfl rfl (Y.assign) ?_
  refine DL.nil ?_
  show DC _ _ _ _ _ _
  refine DC.condF rfl ?_
  refine DC.seq ?_
  refine DC.region ?_
  refine DL.if rfl rfl (Y.eq rfl rfl) (fun c14 => ?_) (fun c14 => ?_)
  ·refine DL.y rfl rfl (Y.assign) ?_
   refine DL.nil ?_
   show DC _ _ _ _ _ _
   refine DC.condT rfl ?_
   refine DC.seq ?_
   refine DC.region ?_
   refine DL.y rfl rfl (Y.field F.fd34_1 rfl) ?_
   refine DL.y rfl rfl (Y.loadB F.sc3 rfl hb3 rfl) ?_
   refine DL.if rfl rfl (Y.eq rfl rfl) (fun c17 => ?_) (fun c17 => ?_)
   ·refine DL.y rfl rfl (Y.move) ?_
    refine DL.y rfl rfl (Y.field F.fd34_0 rfl) ?_
    refine DL.y rfl rfl (Y.loadPart (sub := #[c0, c1, c2, c3, c4, c5]) rfl hb3 rfl F.ag26) ?_
    refine DL.y rfl rfl (Y.loadW rfl hb4 F.ag26) ?_
    refine DL.call rfl rfl F.nm35 rfl (same_any _ _ _ B _ hA hB) ?_
    rintro _ w5 f6 rfl
    replace FR := FR.tr0 f6
    replace hA := hA.fr f6 (by intro x hx; simp <;> omega)
    replace hB := hB.fr f6 (by intro x hx; simp <;> omega)
    replace hb3 := f6.blk0 hb3
    replace hi3 := Nat.lt_of_lt_of_le hi3 f6.size
    replace hb4 := f6.blk0 hb4
    replace hi4 := Nat.lt_of_lt_of_le hi4 f6.size
    refine DL.y rfl rfl (Y.pickT rfl) ?_
    refine DL.y rfl rfl (Y.assign) ?_
    refine DL.nil ?_
    show DC _ _ _ _ _ _
    refine DC.ret ?_
    exact FinQ.ret1 rfl (Ret.mk FR rfl)
   ·exfalso; omega
  ·exfalso; omega

end Go.Proofs.YtmbleojlnaofjaaGreatDoor

/-
  DERIVED: THE SHELF's CONTRACTS AT THIS DUMP, IN PLAIN WORDS (tools/lay-plain.mjs out of 'TryzShelfStr.lean', which tools/lay-shelf.mjs wrote): THE SAME DECLARATIONS UNDER THE SAME NAMES: 'import', 'namespace', 'open', 'def', 'theorem' AND NOTHING ELSE: no command of the shelf's: FOR A HAND-IN. Each laying: the table of numbers ('.._ren') and one theorem, a field a fact of the dump's own or the kernel's comparison; each contract: ONE APPLICATION.
-/
namespace Go.Proofs
open Go.Shelf
def Tryz.laysStr_ren : Go.Shelf.Ren := ⟨fun | 169 => 156 | n => n, fun | 70 => 157 | 9 => 9 | 0 => 0 | 72 => 159 | 37 => 107 | 127 => 183 | 3 => 3 | 5 => 5 | n => n, fun | n => n⟩
theorem Tryz.laysStr : Go.Proofs.Lays.n169 Tryz.prog Tryz.laysStr_ren := {
 mixed := by kernel_rfl
 f169 := Tryz.func156.trans (congrArg some (by kernel_rfl))
 t0 := Tryz.underlying0
 a0 := Tryz.isAgg0
 z0 := Tryz.sizeOf0
 v0 := Tryz.zeroValue0
 t3 := Tryz.underlying3
 a3 := Tryz.isAgg3
 z3 := Tryz.sizeOf3
 v3 := Tryz.zeroValue3
 t9 := Tryz.underlying9
 a9 := Tryz.isAgg9
 z9 := Tryz.sizeOf9
 v9 := Tryz.zeroValue9
 t37 := Tryz.underlying107
 a37 := Tryz.isAgg107
 z37 := Tryz.sizeOf107
 v37 := Tryz.zeroValue107
 t70 := Tryz.underlying157
 a70 := Tryz.isAgg157
 z70 := Tryz.sizeOf157
 v70 := Tryz.zeroValue157
 t72 := Tryz.underlying159
 a72 := Tryz.isAgg159
 z72 := Tryz.sizeOf159
 v72 := Tryz.zeroValue159
 t127 := Tryz.underlying183
 a127 := Tryz.isAgg183
 z127 := Tryz.sizeOf183
 v127 := Tryz.zeroValue183 }
end Go.Proofs

/- The walks from jsonMarshal to impl.ToString. -/
namespace Go.Proofs.YtmbleojlnaofjaaGreatDoor
open Go Go.RowKit D Go.Deep Go.Proofs
set_option linter.unusedVariables false
set_option linter.unusedSimpArgs false


theorem strX : Builder.Extra Tryz.prog Tryz.laysStr_ren where
 sizeBuilder := by kernel_rfl
 liesBuilder := by kernel_rfl
 t5 := Tryz.underlying5
 a5 := Tryz.isAgg5
 z5 := Tryz.sizeOf5
 v5 := Tryz.zeroValue5
 infoByte := by kernel_rfl
 cellsByte := by kernel_rfl
 sizeByte := by kernel_rfl
 neB5 := by decide
theorem String_any {B b : Nat} {X : List Nat} {l : List UInt8} {w : World} (h : Bld w B b X l) (h0 : l ≠ []) : Calls Tryz.prog 156 #[.pointer (some ⟨b, 0, none⟩)] w (Ret w (List.range' B (w.heap.size - B)) fun r w' => r = .string ⟨l.toArray⟩) := by
 obtain ⟨p, v, hb, hp, ho, _⟩ := h.out
 have hne : v.ownBlock ≠ some b := fun e => own_ne_b ho hb (mem_ownL.2 e)
 have hB : Lib.IsBuilder 159 5 B b (Lib.byteCells l) w := by
  have key : ∀ p, w.heap[b]? = some (.cells #[p, v] 159 (0, 0)) → Lib.BuilderAt 159 5 B b p (Lib.byteCells l) w := fun p hb => ⟨h.lo, v, hb, by rw [Lib.byteCells_length]; exact ho, hne⟩
  rcases hp with rfl | rfl
  ·exact Or.inl (key _ hb)
  ·exact Or.inr (key _ hb)
 refine Calls.mono (Any.Builder_String Tryz.laysStr strX B b l w hB h0) fun e w' hh => ?_
 obtain ⟨rfl, hbl⟩ := hh
 exact Ret.mk ⟨hbl.os, hbl.tape, hbl.output, hbl.size, fun i hi hs => hbl.block i (by
  rcases Nat.lt_or_ge i B with h1 | h1
  ·exact h1
  ·exact absurd (List.mem_range'_1.2 ⟨h1, by omega⟩) hs)⟩ rfl
def encC (b : Nat) : Array Value := #[.iface 157 (.pointer (some ⟨b, 0, none⟩)), .int .u8 0, .int .u8 0, .int .u8 0, .int .u8 0, .int .u8 0, .int .u8 0, .int .u8 0, .int .u8 0, .int .u8 0, .int .u8 0, .int .u8 0, .int .u8 0, .int .u8 0, .int .u8 0, .int .u8 0, .int .u8 0, .int .u8 0, .int .u8 0, .int .u8 0, .int .u8 0, .int .u8 0, .int .u8 0, .int .u8 0, .int .u8 0, .int .u8 0, .int .u8 0, .int .u8 0, .int .u8 0, .int .u8 0, .int .u8 0, .int .u8 0, .int .u8 0, .int .u8 0, .int .u8 0, .int .u8 0, .int .u8 0, .int .u8 0, .int .u8 0, .int .u8 0, .int .u8 0, .int .u8 0, .int .u8 0, .int .u8 0, .int .u8 0, .int .u8 0, .int .u8 0, .int .u8 0, .int .u8 0, .int .u8 0, .int .u8 0, .int .u8 0, .int .u8 0, .int .u8 0, .int .u8 0, .int .u8 0, .int .u8 0, .int .u8 0, .int .u8 0, .int .u8 0, .int .u8 0, .int .u8 0, .int .u8 0, .int .u8 0, .int .u8 0]

theorem jsonMarshal_any (v : V) (x : Value) (B : Nat) (w : World) (hn : v.nodes ≤ 1000000) (hby : v.bytes ≤ 1000000) (hG : Good v) (hgv : GV w (· < B) v x) (hB : B ≤ w.heap.size) (h2 : 2 ≤ B) (hT : Tabs w) : Calls Tryz.prog 145 #[x] w (Ret w [] fun r w' => r = .string ⟨(jL v).toArray⟩) := by
 refine calls_of Tryz.func145 rfl rfl rfl rfl ?_
 have FR := Fr.refl [] w
 refine DC.seq ?_
 refine DC.region ?_
 refine DL.y rfl rfl (Y.assign) ?_
 refine DL.nil ?_
 show DC _ _ _ _ _ _
 refine DC.seq ?_
 refine DC.region ?_
 refine DL.alloc rfl rfl F.z159 rfl ?_
 intro b3 w1 f2 lo3 hi3 hb3
 replace lo3 := Nat.le_trans FR.size lo3
 replace FR := FR.tr0 f2
 replace hgv := hgv.fr f2 (by intro c hc hm; first | (simp at hm; done) | (simp only [List.mem_cons, List.mem_singleton, List.not_mem_nil, or_false] at hm; have : c < B := hc; omega))
 replace hT : Tabs w1 := hT.fr f2 (by intro c hc hm; first | (simp at hm; done) | (simp only [List.mem_cons, List.mem_singleton, List.not_mem_nil, or_false] at hm; omega))
 refine DL.nil ?_
 show DC _ _ _ _ _ _
 refine DC.seq ?_
 refine DC.region ?_
 refine DL.y rfl rfl (Y.mkI F.if157) ?_
 refine DL.y rfl rfl (Y.build (cs := encC b3) (by kernel_rfl)) ?_
 refine DL.boxA rfl rfl rfl ?_
 intro b6 w3 f4 lo6 hi6 hb6
 have lt_b3_b6 : b3 < b6 := Nat.lt_of_lt_of_le hi3 lo6
 replace lo6 := Nat.le_trans FR.size lo6
 replace FR := FR.tr0 f4
 replace hgv := hgv.fr f4 (by intro c hc hm; first | (simp at hm; done) | (simp only [List.mem_cons, List.mem_singleton, List.not_mem_nil, or_false] at hm; have : c < B := hc; omega))
 replace hT : Tabs w3 := hT.fr f4 (by intro c hc hm; first | (simp at hm; done) | (simp only [List.mem_cons, List.mem_singleton, List.not_mem_nil, or_false] at hm; omega))
 replace hb3 := f4.blk0 hb3
 replace hi3 := Nat.lt_of_lt_of_le hi3 f4.size
 refine DL.y rfl rfl (Y.move) ?_
 have hTw := hT
 have hXb : Bld w3 w.heap.size b3 [b3] [] := ⟨⟨_, _, hb3, Or.inl rfl, World.ownsRow_nil _ _ _ _, rfl⟩, lo3⟩
 have hE6 : ES w3 w.heap.size b6 b3 [b6, b3] [] := ⟨cell_of_blk hb6 rfl, ⟨_, hb6, rfl⟩, ⟨[b3], hXb, rfl, by simp only [List.mem_singleton]; omega⟩, lo6, by omega⟩
 refine DL.call rfl rfl F.nm155 rfl (encode_any 1000000 v x w.heap.size b6 b3 [b6, b3] [] _ hn (Nat.le_refl _) hby hG (hgv.mono (fun j hj => by have : j < B := hj; show j < w.heap.size; omega)) hE6 hT (by decide)) ?_
 rintro _ w5 f6 ⟨rfl, X8, hE8, hs8⟩
 replace FR := FR.put f6 (by intro i hi; simp only [List.mem_cons, List.mem_singleton, List.not_mem_nil, or_false] at hi; rcases hi with rfl | rfl; all_goals (first | (left; simp; done) | (right; omega)))
 replace hgv := hgv.fr f6 (by intro c hc hm; first | (simp at hm; done) | (simp only [List.mem_cons, List.mem_singleton, List.not_mem_nil, or_false] at hm; have : c < B := hc; omega))
 replace hT : Tabs w5 := hT.fr f6 (by intro c hc hm; first | (simp at hm; done) | (simp only [List.mem_cons, List.mem_singleton, List.not_mem_nil, or_false] at hm; omega))
 replace hi3 := Nat.lt_of_lt_of_le hi3 f6.size
 replace hi6 := Nat.lt_of_lt_of_le hi6 f6.size
 obtain ⟨Xb8, hB8, _, _⟩ := hE8.bld
 refine DL.nil ?_
 show DC _ _ _ _ _ _
 refine DC.seq ?_
 refine DC.region ?_
 refine DL.call rfl rfl F.nm156 rfl (String_any hB8 (by simpa using jL_ne v)) ?_
 rintro _ w7 f8 rfl
 replace FR := FR.put f8 (fun i hi => Or.inr (by have := (List.mem_range'_1.1 hi).1; omega))
 refine DL.y rfl rfl (Y.assign) ?_
 refine DL.nil ?_
 show DC _ _ _ _ _ _
 refine DC.ret ?_
 exact FinQ.ret1 rfl (Ret.mk FR rfl)

theorem funcToJSON_any (v : V) (x : Value) (B : Nat) (w : World) (hn : v.nodes ≤ 1000000) (hby : v.bytes ≤ 1000000) (hG : Good v) (hgv : GV w (· < B) v x) (hB : B ≤ w.heap.size) (h2 : 2 ≤ B) (hT : Tabs w) : Calls Tryz.prog 124 #[x] w (Ret w [] fun r w' => r = .iface 9 (.string ⟨(jL v).toArray⟩)) := by
 refine calls_of Tryz.func124 rfl rfl rfl rfl ?_
 have FR := Fr.refl [] w
 refine DC.seq ?_
 refine DC.region ?_
 refine DL.y rfl rfl (Y.assign) ?_
 refine DL.nil ?_
 show DC _ _ _ _ _ _
 refine DC.seq ?_
 refine DC.region ?_
 refine DL.y rfl rfl (Y.move) ?_
 refine DL.call rfl rfl F.nm145 rfl (jsonMarshal_any v x B _ hn hby hG hgv (by have := FR.size; omega) h2 hT) ?_
 rintro _ w1 f2 rfl
 replace FR := FR.tr0 f2
 refine DL.y rfl rfl (Y.mkI F.if9) ?_
 refine DL.y rfl rfl (Y.assign) ?_
 refine DL.nil ?_
 show DC _ _ _ _ _ _
 refine DC.ret ?_
 exact FinQ.ret1 rfl (Ret.mk FR rfl)


theorem GVtext {w : World} {D : Nat → Prop} {half : Int} {text : ByteArray} {list : List V} {keys : List ByteArray} {vals : List V} : True := trivial

theorem toString_nil (v : V)  (B : Nat) (w : World) (hn : v.nodes ≤ 1000000) (hby : v.bytes ≤ 1000000) (hG : Good v) (hgv : GV w (· < B) v (.nilIface)) (hB : B ≤ w.heap.size) (h2 : 2 ≤ B) (hT : Tabs w) : Calls Tryz.prog 76 #[.nilIface] w (Ret w [] fun r w' => r = .iface 9 (.string ⟨(jL v).toArray⟩)) := by
 refine calls_of Tryz.func76 rfl rfl rfl rfl ?_
 have FR := Fr.refl [] w
 refine DC.seq ?_
 refine DC.region ?_
 refine DL.y rfl rfl (Y.assign) ?_
 refine DL.nil ?_
 show DC _ _ _ _ _ _
 refine DC.seq ?_
 refine DC.seq ?_
 refine DC.region ?_
 refine DL.y rfl rfl (Y.move) ?_
 refine DL.y rfl rfl (Y.asNil F.if9 F.z9 rfl) ?_
 refine DL.y rfl rfl (Y.move) ?_
 refine DL.y rfl rfl (Y.extract rfl rfl) ?_
 refine DL.y rfl rfl (Y.extract rfl rfl) ?_
 refine DL.y rfl rfl (Y.assign) ?_
 refine DL.y rfl rfl (Y.assign) ?_
 refine DL.nil ?_
 show DC _ _ _ _ _ _
 refine DC.seq ?_
 refine DC.region ?_
 refine DL.y rfl rfl (Y.move) ?_
 refine DL.nil ?_
 show DC _ _ _ _ _ _
 refine DC.condF rfl ?_
 refine DC.skip ?_
 show DC _ _ _ _ _ _
 refine DC.seq ?_
 refine DC.region ?_
 refine DL.y rfl rfl (Y.move) ?_
 refine DL.call rfl rfl F.nm124 rfl (funcToJSON_any v (.nilIface) B _ hn hby hG hgv (by have := FR.size; omega) h2 hT) ?_
 rintro _ w1 f2 rfl
 replace FR := FR.tr0 f2
 refine DL.y rfl rfl (Y.assign) ?_
 refine DL.nil ?_
 show DC _ _ _ _ _ _
 refine DC.ret ?_
 exact FinQ.ret1 rfl (Ret.mk FR rfl)

theorem toString_bool (v : V) (q : Bool) (B : Nat) (w : World) (hn : v.nodes ≤ 1000000) (hby : v.bytes ≤ 1000000) (hG : Good v) (hgv : GV w (· < B) v (.iface 4 (.bool q))) (hB : B ≤ w.heap.size) (h2 : 2 ≤ B) (hT : Tabs w) : Calls Tryz.prog 76 #[.iface 4 (.bool q)] w (Ret w [] fun r w' => r = .iface 9 (.string ⟨(jL v).toArray⟩)) := by
 refine calls_of Tryz.func76 rfl rfl rfl rfl ?_
 have FR := Fr.refl [] w
 refine DC.seq ?_
 refine DC.region ?_
 refine DL.y rfl rfl (Y.assign) ?_
 refine DL.nil ?_
 show DC _ _ _ _ _ _
 refine DC.seq ?_
 refine DC.seq ?_
 refine DC.region ?_
 refine DL.y rfl rfl (Y.move) ?_
 refine DL.y rfl rfl (Y.asNo F.if9 F.z9 rfl rfl) ?_
 refine DL.y rfl rfl (Y.move) ?_
 refine DL.y rfl rfl (Y.extract rfl rfl) ?_
 refine DL.y rfl rfl (Y.extract rfl rfl) ?_
 refine DL.y rfl rfl (Y.assign) ?_
 refine DL.y rfl rfl (Y.assign) ?_
 refine DL.nil ?_
 show DC _ _ _ _ _ _
 refine DC.seq ?_
 refine DC.region ?_
 refine DL.y rfl rfl (Y.move) ?_
 refine DL.nil ?_
 show DC _ _ _ _ _ _
 refine DC.condF rfl ?_
 refine DC.skip ?_
 show DC _ _ _ _ _ _
 refine DC.seq ?_
 refine DC.region ?_
 refine DL.y rfl rfl (Y.move) ?_
 refine DL.call rfl rfl F.nm124 rfl (funcToJSON_any v (.iface 4 (.bool q)) B _ hn hby hG hgv (by have := FR.size; omega) h2 hT) ?_
 rintro _ w1 f2 rfl
 replace FR := FR.tr0 f2
 refine DL.y rfl rfl (Y.assign) ?_
 refine DL.nil ?_
 show DC _ _ _ _ _ _
 refine DC.ret ?_
 exact FinQ.ret1 rfl (Ret.mk FR rfl)

theorem toString_int (v : V) (z : Int) (B : Nat) (w : World) (hn : v.nodes ≤ 1000000) (hby : v.bytes ≤ 1000000) (hG : Good v) (hgv : GV w (· < B) v (.iface 3 (.int .i64 z))) (hB : B ≤ w.heap.size) (h2 : 2 ≤ B) (hT : Tabs w) : Calls Tryz.prog 76 #[.iface 3 (.int .i64 z)] w (Ret w [] fun r w' => r = .iface 9 (.string ⟨(jL v).toArray⟩)) := by
 refine calls_of Tryz.func76 rfl rfl rfl rfl ?_
 have FR := Fr.refl [] w
 refine DC.seq ?_
 refine DC.region ?_
 refine DL.y rfl rfl (Y.assign) ?_
 refine DL.nil ?_
 show DC _ _ _ _ _ _
 refine DC.seq ?_
 refine DC.seq ?_
 refine DC.region ?_
 refine DL.y rfl rfl (Y.move) ?_
 refine DL.y rfl rfl (Y.asNo F.if9 F.z9 rfl rfl) ?_
 refine DL.y rfl rfl (Y.move) ?_
 refine DL.y rfl rfl (Y.extract rfl rfl) ?_
 refine DL.y rfl rfl (Y.extract rfl rfl) ?_
 refine DL.y rfl rfl (Y.assign) ?_
 refine DL.y rfl rfl (Y.assign) ?_
 refine DL.nil ?_
 show DC _ _ _ _ _ _
 refine DC.seq ?_
 refine DC.region ?_
 refine DL.y rfl rfl (Y.move) ?_
 refine DL.nil ?_
 show DC _ _ _ _ _ _
 refine DC.condF rfl ?_
 refine DC.skip ?_
 show DC _ _ _ _ _ _
 refine DC.seq ?_
 refine DC.region ?_
 refine DL.y rfl rfl (Y.move) ?_
 refine DL.call rfl rfl F.nm124 rfl (funcToJSON_any v (.iface 3 (.int .i64 z)) B _ hn hby hG hgv (by have := FR.size; omega) h2 hT) ?_
 rintro _ w1 f2 rfl
 replace FR := FR.tr0 f2
 refine DL.y rfl rfl (Y.assign) ?_
 refine DL.nil ?_
 show DC _ _ _ _ _ _
 refine DC.ret ?_
 exact FinQ.ret1 rfl (Ret.mk FR rfl)

theorem toString_float (v : V) (z : Nat) (B : Nat) (w : World) (hn : v.nodes ≤ 1000000) (hby : v.bytes ≤ 1000000) (hG : Good v) (hgv : GV w (· < B) v (.iface 79 (.float .f64 z))) (hB : B ≤ w.heap.size) (h2 : 2 ≤ B) (hT : Tabs w) : Calls Tryz.prog 76 #[.iface 79 (.float .f64 z)] w (Ret w [] fun r w' => r = .iface 9 (.string ⟨(jL v).toArray⟩)) := by
 refine calls_of Tryz.func76 rfl rfl rfl rfl ?_
 have FR := Fr.refl [] w
 refine DC.seq ?_
 refine DC.region ?_
 refine DL.y rfl rfl (Y.assign) ?_
 refine DL.nil ?_
 show DC _ _ _ _ _ _
 refine DC.seq ?_
 refine DC.seq ?_
 refine DC.region ?_
 refine DL.y rfl rfl (Y.move) ?_
 refine DL.y rfl rfl (Y.asNo F.if9 F.z9 rfl rfl) ?_
 refine DL.y rfl rfl (Y.move) ?_
 refine DL.y rfl rfl (Y.extract rfl rfl) ?_
 refine DL.y rfl rfl (Y.extract rfl rfl) ?_
 refine DL.y rfl rfl (Y.assign) ?_
 refine DL.y rfl rfl (Y.assign) ?_
 refine DL.nil ?_
 show DC _ _ _ _ _ _
 refine DC.seq ?_
 refine DC.region ?_
 refine DL.y rfl rfl (Y.move) ?_
 refine DL.nil ?_
 show DC _ _ _ _ _ _
 refine DC.condF rfl ?_
 refine DC.skip ?_
 show DC _ _ _ _ _ _
 refine DC.seq ?_
 refine DC.region ?_
 refine DL.y rfl rfl (Y.move) ?_
 refine DL.call rfl rfl F.nm124 rfl (funcToJSON_any v (.iface 79 (.float .f64 z)) B _ hn hby hG hgv (by have := FR.size; omega) h2 hT) ?_
 rintro _ w1 f2 rfl
 replace FR := FR.tr0 f2
 refine DL.y rfl rfl (Y.assign) ?_
 refine DL.nil ?_
 show DC _ _ _ _ _ _
 refine DC.ret ?_
 exact FinQ.ret1 rfl (Ret.mk FR rfl)

theorem toString_list (v : V) (a : Option Addr) (n c : Nat) (B : Nat) (w : World) (hn : v.nodes ≤ 1000000) (hby : v.bytes ≤ 1000000) (hG : Good v) (hgv : GV w (· < B) v (.iface 80 (.slice a n c))) (hB : B ≤ w.heap.size) (h2 : 2 ≤ B) (hT : Tabs w) : Calls Tryz.prog 76 #[.iface 80 (.slice a n c)] w (Ret w [] fun r w' => r = .iface 9 (.string ⟨(jL v).toArray⟩)) := by
 refine calls_of Tryz.func76 rfl rfl rfl rfl ?_
 have FR := Fr.refl [] w
 refine DC.seq ?_
 refine DC.region ?_
 refine DL.y rfl rfl (Y.assign) ?_
 refine DL.nil ?_
 show DC _ _ _ _ _ _
 refine DC.seq ?_
 refine DC.seq ?_
 refine DC.region ?_
 refine DL.y rfl rfl (Y.move) ?_
 refine DL.y rfl rfl (Y.asNo F.if9 F.z9 rfl rfl) ?_
 refine DL.y rfl rfl (Y.move) ?_
 refine DL.y rfl rfl (Y.extract rfl rfl) ?_
 refine DL.y rfl rfl (Y.extract rfl rfl) ?_
 refine DL.y rfl rfl (Y.assign) ?_
 refine DL.y rfl rfl (Y.assign) ?_
 refine DL.nil ?_
 show DC _ _ _ _ _ _
 refine DC.seq ?_
 refine DC.region ?_
 refine DL.y rfl rfl (Y.move) ?_
 refine DL.nil ?_
 show DC _ _ _ _ _ _
 refine DC.condF rfl ?_
 refine DC.skip ?_
 show DC _ _ _ _ _ _
 refine DC.seq ?_
 refine DC.region ?_
 refine DL.y rfl rfl (Y.move) ?_
 refine DL.call rfl rfl F.nm124 rfl (funcToJSON_any v (.iface 80 (.slice a n c)) B _ hn hby hG hgv (by have := FR.size; omega) h2 hT) ?_
 rintro _ w1 f2 rfl
 replace FR := FR.tr0 f2
 refine DL.y rfl rfl (Y.assign) ?_
 refine DL.nil ?_
 show DC _ _ _ _ _ _
 refine DC.ret ?_
 exact FinQ.ret1 rfl (Ret.mk FR rfl)

theorem toString_map (v : V) (r : Option Nat) (B : Nat) (w : World) (hn : v.nodes ≤ 1000000) (hby : v.bytes ≤ 1000000) (hG : Good v) (hgv : GV w (· < B) v (.iface 83 (.map r))) (hB : B ≤ w.heap.size) (h2 : 2 ≤ B) (hT : Tabs w) : Calls Tryz.prog 76 #[.iface 83 (.map r)] w (Ret w [] fun r w' => r = .iface 9 (.string ⟨(jL v).toArray⟩)) := by
 refine calls_of Tryz.func76 rfl rfl rfl rfl ?_
 have FR := Fr.refl [] w
 refine DC.seq ?_
 refine DC.region ?_
 refine DL.y rfl rfl (Y.assign) ?_
 refine DL.nil ?_
 show DC _ _ _ _ _ _
 refine DC.seq ?_
 refine DC.seq ?_
 refine DC.region ?_
 refine DL.y rfl rfl (Y.move) ?_
 refine DL.y rfl rfl (Y.asNo F.if9 F.z9 rfl rfl) ?_
 refine DL.y rfl rfl (Y.move) ?_
 refine DL.y rfl rfl (Y.extract rfl rfl) ?_
 refine DL.y rfl rfl (Y.extract rfl rfl) ?_
 refine DL.y rfl rfl (Y.assign) ?_
 refine DL.y rfl rfl (Y.assign) ?_
 refine DL.nil ?_
 show DC _ _ _ _ _ _
 refine DC.seq ?_
 refine DC.region ?_
 refine DL.y rfl rfl (Y.move) ?_
 refine DL.nil ?_
 show DC _ _ _ _ _ _
 refine DC.condF rfl ?_
 refine DC.skip ?_
 show DC _ _ _ _ _ _
 refine DC.seq ?_
 refine DC.region ?_
 refine DL.y rfl rfl (Y.move) ?_
 refine DL.call rfl rfl F.nm124 rfl (funcToJSON_any v (.iface 83 (.map r)) B _ hn hby hG hgv (by have := FR.size; omega) h2 hT) ?_
 rintro _ w1 f2 rfl
 replace FR := FR.tr0 f2
 refine DL.y rfl rfl (Y.assign) ?_
 refine DL.nil ?_
 show DC _ _ _ _ _ _
 refine DC.ret ?_
 exact FinQ.ret1 rfl (Ret.mk FR rfl)

theorem toString_text (s : ByteArray) (w : World) : Calls Tryz.prog 76 #[.iface 9 (.string s)] w (Ret w [] fun r w' => r = .iface 9 (.string s)) := by
 refine calls_of Tryz.func76 rfl rfl rfl rfl ?_
 have FR := Fr.refl [] w
 refine DC.seq ?_
 refine DC.region ?_
 refine DL.y rfl rfl (Y.assign) ?_
 refine DL.nil ?_
 show DC _ _ _ _ _ _
 refine DC.seq ?_
 refine DC.seq ?_
 refine DC.region ?_
 refine DL.y rfl rfl (Y.move) ?_
 refine DL.y rfl rfl (Y.asYes F.if9 rfl) ?_
 refine DL.y rfl rfl (Y.move) ?_
 refine DL.y rfl rfl (Y.extract rfl rfl) ?_
 refine DL.y rfl rfl (Y.extract rfl rfl) ?_
 refine DL.y rfl rfl (Y.assign) ?_
 refine DL.y rfl rfl (Y.assign) ?_
 refine DL.nil ?_
 show DC _ _ _ _ _ _
 refine DC.seq ?_
 refine DC.region ?_
 refine DL.y rfl rfl (Y.move) ?_
 refine DL.nil ?_
 show DC _ _ _ _ _ _
 refine DC.condT rfl ?_
 refine DC.seq ?_
 refine DC.region ?_
 refine DL.y rfl rfl (Y.move) ?_
 refine DL.y rfl rfl (Y.mkI F.if9) ?_
 refine DL.y rfl rfl (Y.assign) ?_
 refine DL.nil ?_
 show DC _ _ _ _ _ _
 refine DC.ret ?_
 exact FinQ.ret1 rfl (Ret.mk FR rfl)


theorem funcToString_any (v : V) (x : Value) (B : Nat) (w : World) (hn : v.nodes ≤ 1000000) (hby : v.bytes ≤ 1000000) (hG : Good v) (hgv : GV w (· < B) v x) (hB : B ≤ w.heap.size) (h2 : 2 ≤ B) (hT : Tabs w) : Calls Tryz.prog 76 #[x] w (Ret w [] fun r w' => r = .iface 9 (.string ⟨(sL v).toArray⟩)) := by
 have key : sL v = jL v → (Calls Tryz.prog 76 #[x] w (Ret w [] fun r w' => r = .iface 9 (.string ⟨(jL v).toArray⟩))) → Calls Tryz.prog 76 #[x] w (Ret w [] fun r w' => r = .iface 9 (.string ⟨(sL v).toArray⟩)) := fun e h => by rw [e]; exact h
 have hgv' := hgv
 cases hgv with
 | null => exact key (by simp [sL]) (toString_nil _ B w hn hby hG hgv' hB h2 hT)
 | fls => exact key (by simp [sL]) (toString_bool _ false B w hn hby hG hgv' hB h2 hT)
 | tru => exact key (by simp [sL]) (toString_bool _ true B w hn hby hG hgv' hB h2 hT)
 | whole h => exact key (by simp [sL]) (toString_int _ _ B w hn hby hG hgv' hB h2 hT)
 | frac h => exact key (by simp [sL]) (toString_float _ _ B w hn hby hG hgv' hB h2 hT)
 | text =>
  rename_i half text list keys vals
  have e : (⟨(sL (.mk 4 half text list keys vals)).toArray⟩ : ByteArray) = text := by simp [sL]
  rw [e]
  exact toString_text _ w
 | list xs hr hx => exact key (by simp [sL]) (toString_list _ _ _ _ B w hn hby hG hgv' hB h2 hT)
 | map es xs hd hr hs he hx => exact key (by simp [sL]) (toString_map _ _ B w hn hby hG hgv' hB h2 hT)

theorem zzToString_any (v : V) (x : Value) (B : Nat) (w : World) (hn : v.nodes ≤ 1000000) (hby : v.bytes ≤ 1000000) (hG : Good v) (hgv : GV w (· < B) v x) (hB : B ≤ w.heap.size) (h2 : 2 ≤ B) (hT : Tabs w) : Calls Tryz.prog 40 #[x] w (Ret w [] fun r w' => r = .iface 9 (.string ⟨(sL v).toArray⟩)) := by
 refine calls_of Tryz.func40 rfl rfl rfl rfl ?_
 have FR := Fr.refl [] w
 refine DC.seq ?_
 refine DC.region ?_
 refine DL.y rfl rfl (Y.assign) ?_
 refine DL.nil ?_
 show DC _ _ _ _ _ _
 refine DC.seq ?_
 refine DC.region ?_
 refine DL.y rfl rfl (Y.move) ?_
 refine DL.call rfl rfl F.nm76 rfl (funcToString_any v x B _ hn hby hG hgv (by have := FR.size; omega) h2 hT) ?_
 rintro _ w1 f2 rfl
 replace FR := FR.tr0 f2
 refine DL.y rfl rfl (Y.assign) ?_
 refine DL.nil ?_
 show DC _ _ _ _ _ _
 refine DC.ret ?_
 exact FinQ.ret1 rfl (Ret.mk FR rfl)

theorem ToString_any (v : V) (cs : Array Value) (B : Nat) (w : World) (hn : v.nodes ≤ 1000000) (hby : v.bytes ≤ 1000000) (hG : Good v) (hR : RV w B v cs) (hB : B ≤ w.heap.size) (h2 : 2 ≤ B) (hT : Tabs w) : Calls Tryz.prog 15 #[.agg cs] w (Ret w [] fun r w' => r = .agg (strR ⟨(sL v).toArray⟩)) := by
 obtain ⟨v', hv'⟩ : ∃ v', v' = v := ⟨_, rfl⟩
 obtain ⟨kind, half, text, list, keys, vals⟩ := v
 obtain ⟨la, lc, ka, kc, va, vc, rfl⟩ := hR.shape
 rw [← hv'] at hn hby hG hR ⊢
 refine calls_of Tryz.func15 rfl rfl rfl rfl ?_
 have FR := Fr.refl [] w
 refine DC.seq ?_
 refine DC.region ?_
 refine DL.boxA rfl rfl rfl ?_
 intro b1 w1 f2 lo1 hi1 hb1
 replace lo1 := Nat.le_trans FR.size lo1
 replace FR := FR.tr0 f2
 replace hR := hR.fr f2 (by intro x hx; simp <;> omega)
 replace hT := hT.fr f2 (by intro x hx; simp <;> omega)
 refine DL.alloc rfl rfl F.z34 rfl ?_
 intro b2 w3 f4 lo2 hi2 hb2
 have lt_b1_b2 : b1 < b2 := Nat.lt_of_lt_of_le hi1 lo2
 replace lo2 := Nat.le_trans FR.size lo2
 replace FR := FR.tr0 f4
 replace hR := hR.fr f4 (by intro x hx; simp <;> omega)
 replace hT := hT.fr f4 (by intro x hx; simp <;> omega)
 replace hb1 := f4.blk0 hb1
 replace hi1 := Nat.lt_of_lt_of_le hi1 f4.size
 refine DL.nil ?_
 show DC _ _ _ _ _ _
 refine DC.seq ?_
 refine DC.region ?_
 refine DL.y rfl rfl (Y.loadW rfl hb1 F.ag26) ?_
 refine DL.call rfl rfl F.nm36 rfl (toGo_any _ v' _ B _ (Nat.le_refl _) hn hG hR (by have := FR.size; omega)) ?_
 rintro _ w5 f6 ⟨x, rfl, hgx⟩
 replace FR := FR.tr0 f6
 replace hR := hR.fr f6 (by intro x hx; simp <;> omega)
 replace hT := hT.fr f6 (by intro x hx; simp <;> omega)
 replace hb1 := f6.blk0 hb1
 replace hi1 := Nat.lt_of_lt_of_le hi1 f6.size
 replace hb2 := f6.blk0 hb2
 replace hi2 := Nat.lt_of_lt_of_le hi2 f6.size
 replace hgx := hgx.mono (D' := (· < w5.heap.size)) (fun j hj => hj.2)
 refine DL.y rfl rfl (Y.move) ?_
 refine DL.y rfl rfl (Y.extract rfl rfl) ?_
 refine DL.y rfl rfl (Y.extract rfl rfl) ?_
 refine DL.y rfl rfl (Y.assign) ?_
 refine DL.y rfl rfl (Y.assign) ?_
 refine DL.nil ?_
 show DC _ _ _ _ _ _
 refine DC.seq ?_
 refine DC.seq ?_
 refine DC.region ?_
 refine DL.y rfl rfl (Y.move) ?_
 refine DL.y rfl rfl (Y.not rfl) ?_
 refine DL.nil ?_
 show DC _ _ _ _ _ _
 refine DC.condF rfl ?_
 refine DC.skip ?_
 show DC _ _ _ _ _ _
 refine DC.seq ?_
 refine DC.region ?_
 refine DL.y rfl rfl (Y.move) ?_
 refine DL.call rfl rfl F.nm40 rfl (zzToString_any v' x _ _ hn hby hG hgx (Nat.le_refl _) (by have := FR.size; omega) hT) ?_
 rintro _ w7 f8 rfl
 replace FR := FR.tr0 f8
 replace hR := hR.fr f8 (by intro x hx; simp <;> omega)
 replace hT := hT.fr f8 (by intro x hx; simp <;> omega)
 replace hb1 := f8.blk0 hb1
 replace hi1 := Nat.lt_of_lt_of_le hi1 f8.size
 replace hb2 := f8.blk0 hb2
 replace hi2 := Nat.lt_of_lt_of_le hi2 f8.size
 refine DL.call rfl rfl F.nm37 rfl (result_txt _ _) ?_
 rintro _ w9 f10 rfl
 replace FR := FR.tr0 f10
 replace hR := hR.fr f10 (by intro x hx; simp <;> omega)
 replace hT := hT.fr f10 (by intro x hx; simp <;> omega)
 replace hb1 := f10.blk0 hb1
 replace hi1 := Nat.lt_of_lt_of_le hi1 f10.size
 replace hb2 := f10.blk0 hb2
 replace hi2 := Nat.lt_of_lt_of_le hi2 f10.size
 refine DL.storeA rfl F.ag34 rfl rfl rfl (by kernel_rfl) hb2 rfl ?_
 intro w11 f12 hs13 hb2'
 replace FR := FR.put f12 (by intro i hi; simp only [List.mem_cons, List.mem_singleton, List.not_mem_nil, or_false] at hi; rcases hi with rfl; all_goals (first | (left; simp; done) | (right; omega)))
 replace hR := hR.fr f12 (by intro x hx; simp <;> omega)
 replace hT := hT.fr f12 (by intro x hx; simp <;> omega)
 replace hb1 := f12.blk hb1 (by simp only [List.mem_cons, List.not_mem_nil, or_false, not_or]; omega)
 replace hi1 := Nat.lt_of_lt_of_le hi1 f12.size
 replace hi2 := Nat.lt_of_lt_of_le hi2 f12.size
 replace hb2 := hb2'
 refine DL.nil ?_
 show DC _ _ _ _ _ _
 refine DC.ret ?_
 exact FinQ.retC rfl (cs := strR ⟨(sL v').toArray⟩) F.ag34 (.ofBlk hb2) (Ret.mk FR rfl)

end Go.Proofs.YtmbleojlnaofjaaGreatDoor

