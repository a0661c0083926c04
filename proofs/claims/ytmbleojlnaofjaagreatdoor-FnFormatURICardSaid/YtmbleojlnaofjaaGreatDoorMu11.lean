/- Own texts, merged: TsL, UrL, Open. -/
import Derived.Test.YtmbleojlnaofjaaGreatDoorMu10
import Derived.Test.YtmbleojlnaofjaaGreatDoorMu03
import Derived.Test.YtmbleojlnaofjaaGreatDoorMu07
import Derived.Test.YtmbleojlnaofjaaGreatDoorMu01
import Derived.Test.YtmbleojlnaofjaaGreatDoorMu02
import Derived.ChangeArms
import Derived.ChangeShapes
import Derived.SizedLaws
import Derived.DataReads
import Derived.Lib.LaidU8
/- The walk of laws.FnToString. -/
namespace Go.Proofs.YtmbleojlnaofjaaGreatDoor
open Go Go.RowKit D Go.Deep
set_option linter.unusedVariables false
set_option linter.unusedSimpArgs false

theorem fine_any (v : V) (cs : Array Value) (B bs : Nat) (w : World) (hR : RV w B v cs) (hB : B ≤ w.heap.size) (h2 : 2 ≤ B) (hT : Tabs w) (hbs : w.heap[bs]? = some (.cells cs 26 (0, 0))) :
  Calls Tryz.prog 12 #[.slice (some ⟨bs, 0, none⟩) 1 1] w (Ret w [] fun r _ => ∃ ok, r = .bool ok ∧ (ok = true → Good v ∧ v.nodes ≤ 400 ∧ v.bytes ≤ 2000)) := by
 have hbsl := lt_of_blk hbs
 have hcz := hR.size
 obtain ⟨kind, half, text, list, keys, vals⟩ := v
 obtain ⟨la, lc, ka, kc, va, vc, rfl⟩ := hR.shape
 refine calls_of Tryz.func12 rfl rfl rfl rfl ?_
 have FR := Fr.refl [] w
 refine DC.seq ?_
 refine DC.region ?_
 refine DL.y rfl rfl (Y.assign) ?_
 refine DL.nil ?_
 show DC _ _ _ _ _ _
 refine DC.seq ?_
 refine DC.seq ?_
 refine DC.region ?_
 refine DL.y rfl rfl (Y.assign) ?_
 refine DL.nil ?_
 show DC _ _ _ _ _ _
 refine DC.block ?_
 refine DC.loop (σ := Nat) [(2, 24)] (fun k => [(3, .int .i64 (k : Int))]) (fun sg wl => Fr [] w wl ∧ (fun k wl => k ≤ 1 ∧ (k = 1 → Good (.mk kind half text list keys vals) ∧ (V.mk kind half text list keys vals).nodes ≤ 400 ∧ (V.mk kind half text list keys vals).bytes ≤ 2000)) sg wl) (fun k => 1 - k) (0) rfl ?_ ?_ ?_
 ·exact rfl
 ·exact ⟨Fr.refl _ _, Nat.zero_le _, fun h => by omega⟩
 ·rintro k j w1 ⟨f2, hk0, hgd⟩
  replace FR := FR.tr0 f2
  replace hR := hR.fr f2 (by intro x hx; simp <;> omega)
  replace hT := hT.fr f2 (by intro x hx; simp <;> omega)
  replace hbs := f2.blk0 hbs
  have G3 := f2
  have HG3 := Fr.refl [] w1
  refine DC.seq ?_
  refine DC.seq ?_
  refine DC.region ?_
  refine DL.y rfl rfl (Y.move) ?_
  refine DL.y rfl rfl (Y.move) ?_
  refine DL.y rfl rfl (Y.lenS Tryz.underlying23 rfl) ?_
  refine DL.if rfl rfl (Y.lt rfl rfl) (fun c7 => ?_) (fun c7 => ?_)
  ·have hk : k < 1 := by omega
   obtain rfl : k = 0 := by omega
   refine DL.nil ?_
   show DC _ _ _ _ _ _
   refine DC.condT rfl ?_
   refine DC.skip ?_
   show DC _ _ _ _ _ _
   refine DC.seq ?_
   refine DC.block ?_
   refine DC.seq ?_
   refine DC.region ?_
   refine DL.y rfl rfl (Y.move) ?_
   refine DL.y rfl rfl (Y.move) ?_
   refine DL.y rfl rfl (Y.index F.sl23 rfl rfl (rfl) (hk)) ?_
   refine DL.y rfl rfl (Y.field F.fd26_2 rfl) ?_
   refine DL.y rfl rfl (Y.loadB F.sc9 rfl hbs rfl) ?_
   refine DL.y rfl rfl (Y.lenStr Tryz.underlying9 rfl) ?_
   refine DL.if rfl rfl (Y.gt rfl rfl) (fun c16 => ?_) (fun c16 => ?_)
   ·refine DL.y rfl rfl (Y.move) ?_
    refine DL.skip rfl rfl ?_
    refine DL.skip rfl rfl ?_
    refine DL.skip rfl rfl ?_
    refine DL.skip rfl rfl ?_
    refine DL.skip rfl rfl ?_
    refine DL.skip rfl rfl ?_
    refine DL.y rfl rfl (Y.pickT rfl) ?_
    refine DL.nil ?_
    show DC _ _ _ _ _ _
    refine DC.condT rfl ?_
    refine DC.seq ?_
    refine DC.region ?_
    refine DL.y rfl rfl (Y.assign) ?_
    refine DL.nil ?_
    show DC _ _ _ _ _ _
    refine DC.ret ?_
    exact FinQ.ret1 rfl (Ret.mk FR ⟨false, rfl, fun h => by cases h⟩)
   ·refine DL.y rfl rfl (Y.move) ?_
    refine DL.y rfl rfl (Y.move) ?_
    refine DL.y rfl rfl (Y.move) ?_
    refine DL.y rfl rfl (Y.index F.sl23 rfl rfl (rfl) (hk)) ?_
    refine DL.y rfl rfl (Y.loadAn hcz F.ag26 rfl (.ofBlk hbs)) ?_
    refine DL.call rfl rfl F.nm25 rfl (Fit_any _ _ B _ hR (by have := FR.size; omega) h2 hT) ?_
    rintro _ w4 f5 ⟨q, rfl, hqa⟩
    replace FR := FR.tr0 f5
    replace G3 := G3.tr0 f5
    replace HG3 := HG3.tr0 f5
    replace hR := hR.fr f5 (by intro x hx; simp <;> omega)
    replace hT := hT.fr f5 (by intro x hx; simp <;> omega)
    replace hbs := f5.blk0 hbs
    refine (Bool.eq_false_or_eq_true q).elim (fun hq => ?_) (fun hq => ?_)
    ·subst hq
     refine DL.y rfl rfl (Y.not rfl) ?_
     refine DL.y rfl rfl (Y.pickF rfl) ?_
     refine DL.nil ?_
     show DC _ _ _ _ _ _
     refine DC.condF rfl ?_
     refine DC.skip ?_
     show DC _ _ _ _ _ _
     refine DC.region ?_
     refine DL.y rfl rfl (Y.move) ?_
     refine DL.y rfl rfl (Y.addI (c := ((0 + 1 : Nat) : Int)) rfl rfl (by omega) (by omega) (by omega)) ?_
     refine DL.y rfl rfl (Y.assign) ?_
     refine DL.nil ?_
     exact ⟨0 + 1, ⟨G3, by omega, fun _ => hqa rfl⟩, by show 1 - (0 + 1) < 1 - 0; omega, rfl⟩
    ·subst hq
     refine DL.y rfl rfl (Y.not rfl) ?_
     refine DL.y rfl rfl (Y.pickF rfl) ?_
     refine DL.nil ?_
     show DC _ _ _ _ _ _
     refine DC.condT rfl ?_
     refine DC.seq ?_
     refine DC.region ?_
     refine DL.y rfl rfl (Y.assign) ?_
     refine DL.nil ?_
     show DC _ _ _ _ _ _
     refine DC.ret ?_
     exact FinQ.ret1 rfl (Ret.mk FR ⟨false, rfl, fun h => by cases h⟩)
  ·refine DL.nil ?_
   show DC _ _ _ _ _ _
   refine DC.condF rfl ?_
   refine DC.exit ?_
   show DC _ _ _ _ _ _
   refine DC.seq ?_
   refine DC.region ?_
   refine DL.y rfl rfl (Y.assign) ?_
   refine DL.nil ?_
   show DC _ _ _ _ _ _
   refine DC.ret ?_
   exact FinQ.ret1 rfl (Ret.mk FR ⟨true, rfl, fun h => hgd (by omega)⟩)

theorem told_silent (c0 c1 c2 c3 c4 c5 c6 d0 d1 d2 d3 d4 d5 : Value) (w : World) :
  Calls Tryz.prog 10 #[.agg #[c0, c1, c2, c3, c4, c5, c6], .agg #[d0, d1, d2, d3, d4, d5], .int .i64 2] w (Ret w [] fun r _ => r = .bool true) := by
 refine calls_of Tryz.func10 rfl rfl rfl rfl ?_
 have FR := Fr.refl [] w
 refine DC.seq ?_
 refine DC.region ?_
 refine DL.boxA rfl rfl rfl ?_
 intro b3 w1 f2 lo3 hi3 hb3
 replace lo3 := Nat.le_trans FR.size lo3
 replace FR := FR.tr0 f2
 refine DL.boxA rfl rfl rfl ?_
 intro b4 w3 f4 lo4 hi4 hb4
 have lt_b3_b4 : b3 < b4 := Nat.lt_of_lt_of_le hi3 lo4
 replace lo4 := Nat.le_trans FR.size lo4
 replace FR := FR.tr0 f4
 replace hb3 := f4.blk0 hb3
 replace hi3 := Nat.lt_of_lt_of_le hi3 f4.size
 refine DL.y rfl rfl (Y.assign) ?_
 refine DL.nil ?_
 show DC _ _ _ _ _ _
 refine DC.seq ?_
 refine DC.seq ?_
 refine DC.region ?_
 refine DL.y rfl rfl (Y.move) ?_
 refine DL.nil ?_
 show DC _ _ _ _ _ _
 refine DC.block ?_
 refine DC.seq ?_
 refine DC.region ?_
 refine DL.if rfl rfl (Y.eq rfl rfl) (fun c9 => ?_) (fun c9 => ?_)
 ·exfalso; omega
 ·refine DL.y rfl rfl (Y.assign) ?_
  refine DL.nil ?_
  show DC _ _ _ _ _ _
  refine DC.condF rfl ?_
  refine DC.seq ?_
  refine DC.region ?_
  refine DL.if rfl rfl (Y.eq rfl rfl) (fun c14 => ?_) (fun c14 => ?_)
  ·exfalso; omega
  ·refine DL.y rfl rfl (Y.assign) ?_
   refine DL.nil ?_
   show DC _ _ _ _ _ _
   refine DC.condF rfl ?_
   refine DC.skip ?_
   show DC _ _ _ _ _ _
   refine DC.seq ?_
   refine DC.region ?_
   refine DL.y rfl rfl (Y.assign) ?_
   refine DL.nil ?_
   show DC _ _ _ _ _ _
   refine DC.ret ?_
   exact FinQ.ret1 rfl (Ret.mk FR rfl)


theorem sL_len {v : V} (hG : Good v) (hn : v.nodes ≤ 400) (hby : v.bytes ≤ 2000) : (sL v).length ≤ 40000 := by
 obtain ⟨kind, half, text, list, keys, vals⟩ := v
 have h1 := jL_len _ _ (Nat.le_refl _) hG
 have h2 := size_list text
 simp only [V.bytes] at hby
 have hb : (V.mk kind half text list keys vals).bytes ≤ 2000 := by simp only [V.bytes]; exact hby
 simp only [sL]
 split <;> omega
theorem told_said {w : World} {v : V} {b : ByteArray} {how : Int} (hs : Said b how (sL v)) (hl : (sL v).length ≤ 40000) :
  Calls Tryz.prog 10 #[.agg (strR ⟨(sL v).toArray⟩), .agg (strC b), .int .i64 how] w (Ret w [] fun x _ => x = .bool true) := by
 rcases hs with ⟨rfl, h⟩ | rfl
 ·have e : b = ⟨(sL v).toArray⟩ := by rw [← h]
  subst e
  exact told_any _ _ _ _ _ _ _ _ 0 w (strRV w 0 _ (by rw [size_list]; simpa using by omega)) (strRV w 0 _ (by rw [size_list]; simpa using by omega))
 ·exact told_silent _ _ _ _ _ _ _ _ _ _ _ _ _ w

set_option maxHeartbeats 1000000 in
theorem law_any (v : V) (ca : Array Value) (B : Nat) (w : World) (hR : RV w B v ca) (hB : B ≤ w.heap.size) (h2 : 2 ≤ B) (hT : Tabs w) : Calls Tryz.prog 4 #[.agg ca] w (Ret w [] fun r _ => r = .bool true) := by
 obtain ⟨kind, half, text, list, keys, vals⟩ := v
 obtain ⟨la, lc, ka, kc, va, vc, rfl⟩ := hR.shape
 refine calls_of Tryz.func4 rfl rfl rfl rfl ?_
 have FR := Fr.refl [] w
 refine DC.seq ?_
 refine DC.region ?_
 refine DL.boxA rfl rfl rfl ?_
 intro b1 w1 f2 lo1 hi1 hb1
 replace lo1 := Nat.le_trans FR.size lo1
 replace FR := FR.tr0 f2
 replace hR := hR.fr f2 (by intro x hx; simp <;> omega)
 replace hT := hT.fr f2 (by intro x hx; simp <;> omega)
 refine DL.y rfl rfl (Y.assign) ?_
 refine DL.nil ?_
 show DC _ _ _ _ _ _
 refine DC.seq ?_
 refine DC.seq ?_
 refine DC.region ?_
 refine DL.y rfl rfl (Y.loadW rfl hb1 F.ag26) ?_
 refine DL.call rfl rfl F.nm7 rfl (zzFits1_any _ _ B _ hR (by have := FR.size; omega)) ?_
 rintro _ w3 f4 ⟨r1, rfl⟩
 replace FR := FR.tr0 f4
 replace hR := hR.fr f4 (by intro x hx; simp <;> omega)
 replace hT := hT.fr f4 (by intro x hx; simp <;> omega)
 replace hb1 := f4.blk0 hb1
 replace hi1 := Nat.lt_of_lt_of_le hi1 f4.size
 refine (Bool.eq_false_or_eq_true r1).elim (fun hr1 => ?_) (fun hr1 => ?_)
 ·subst hr1
  refine DL.y rfl rfl (Y.not rfl) ?_
  refine DL.nil ?_
  show DC _ _ _ _ _ _
  refine DC.condF rfl ?_
  refine DC.skip ?_
  show DC _ _ _ _ _ _
  refine DC.seq ?_
  refine DC.seq ?_
  refine DC.region ?_
  refine DL.y rfl rfl (Y.loadW rfl hb1 F.ag26) ?_
  refine DL.buildSl1 rfl rfl (F.el23) rfl rfl rfl ?_
  intro b9 w5 f6 lo9 hi9 hb9
  have lt_b1_b9 : b1 < b9 := Nat.lt_of_lt_of_le hi1 lo9
  replace lo9 := Nat.le_trans FR.size lo9
  replace FR := FR.tr0 f6
  replace hR := hR.fr f6 (by intro x hx; simp <;> omega)
  replace hT := hT.fr f6 (by intro x hx; simp <;> omega)
  replace hb1 := f6.blk0 hb1
  replace hi1 := Nat.lt_of_lt_of_le hi1 f6.size
  refine DL.call rfl rfl F.nm12 rfl (fine_any _ _ B b9 _ hR (by have := FR.size; omega) h2 hT hb9) ?_
  rintro _ w7 f8 ⟨q2, rfl, hq2a⟩
  replace FR := FR.tr0 f8
  replace hR := hR.fr f8 (by intro x hx; simp <;> omega)
  replace hT := hT.fr f8 (by intro x hx; simp <;> omega)
  replace hb1 := f8.blk0 hb1
  replace hi1 := Nat.lt_of_lt_of_le hi1 f8.size
  replace hb9 := f8.blk0 hb9
  replace hi9 := Nat.lt_of_lt_of_le hi9 f8.size
  refine (Bool.eq_false_or_eq_true q2).elim (fun hq2 => ?_) (fun hq2 => ?_)
  ·obtain ⟨hG, hn, hby⟩ := hq2a hq2
   subst hq2
   refine DL.y rfl rfl (Y.not rfl) ?_
   refine DL.nil ?_
   show DC _ _ _ _ _ _
   refine DC.condF rfl ?_
   refine DC.skip ?_
   show DC _ _ _ _ _ _
   refine DC.seq ?_
   refine DC.region ?_
   refine DL.y rfl rfl (Y.loadW rfl hb1 F.ag26) ?_
   refine DL.call rfl rfl F.nm13 rfl (string_any _ _ B _ (by omega) (by omega) hG hR (by have := FR.size; omega)) ?_
   rintro _ w9 f10 ⟨bs14, how, rfl, hsd⟩
   replace FR := FR.tr0 f10
   replace hR := hR.fr f10 (by intro x hx; simp <;> omega)
   replace hT := hT.fr f10 (by intro x hx; simp <;> omega)
   replace hb1 := f10.blk0 hb1
   replace hi1 := Nat.lt_of_lt_of_le hi1 f10.size
   replace hb9 := f10.blk0 hb9
   replace hi9 := Nat.lt_of_lt_of_le hi9 f10.size
   refine DL.y rfl rfl (Y.move) ?_
   refine DL.y rfl rfl (Y.extract rfl rfl) ?_
   refine DL.y rfl rfl (Y.extract rfl rfl) ?_
   refine DL.y rfl rfl (Y.assign) ?_
   refine DL.y rfl rfl (Y.assign) ?_
   refine DL.nil ?_
   show DC _ _ _ _ _ _
   refine DC.seq ?_
   refine DC.seq ?_
   refine DC.region ?_
   refine DL.y rfl rfl (Y.field F.fd26_0 rfl) ?_
   refine DL.y rfl rfl (Y.loadB F.sc22 rfl hb1 rfl) ?_
   refine DL.if rfl rfl (Y.ne rfl rfl) (fun c19 => ?_) (fun c19 => ?_)
   ·refine DL.y rfl rfl (Y.move) ?_
    refine DL.y rfl rfl (Y.loadW rfl hb1 F.ag26) ?_
    refine DL.call rfl rfl F.nm14 rfl (control_any _ _ _ B _ (Nat.le_refl _) (by omega) hG hR (by have := FR.size; omega)) ?_
    rintro _ w11 f12 ⟨q22, rfl⟩
    replace FR := FR.tr0 f12
    replace hR := hR.fr f12 (by intro x hx; simp <;> omega)
    replace hT := hT.fr f12 (by intro x hx; simp <;> omega)
    replace hb1 := f12.blk0 hb1
    replace hi1 := Nat.lt_of_lt_of_le hi1 f12.size
    replace hb9 := f12.blk0 hb9
    replace hi9 := Nat.lt_of_lt_of_le hi9 f12.size
    refine (Bool.eq_false_or_eq_true q22).elim (fun hq22 => ?_) (fun hq22 => ?_)
    ·subst hq22
     refine DL.y rfl rfl (Y.pickT rfl) ?_
     refine DL.nil ?_
     show DC _ _ _ _ _ _
     refine DC.condT rfl ?_
     refine DC.seq ?_
     refine DC.region ?_
     refine DL.y rfl rfl (Y.assign) ?_
     refine DL.nil ?_
     show DC _ _ _ _ _ _
     refine DC.ret ?_
     exact FinQ.ret1 rfl (Ret.mk FR rfl)
    ·subst hq22
     refine DL.y rfl rfl (Y.pickT rfl) ?_
     refine DL.nil ?_
     show DC _ _ _ _ _ _
     refine DC.condF rfl ?_
     refine DC.skip ?_
     show DC _ _ _ _ _ _
     refine DC.seq ?_
     refine DC.region ?_
     refine DL.y rfl rfl (Y.loadW rfl hb1 F.ag26) ?_
     refine DL.call rfl rfl F.nm15 rfl (ToString_any _ _ B _ (by omega) (by omega) hG hR (by have := FR.size; omega) h2 hT) ?_
     rintro _ w13 f14 rfl
     replace FR := FR.tr0 f14
     replace hR := hR.fr f14 (by intro x hx; simp <;> omega)
     replace hT := hT.fr f14 (by intro x hx; simp <;> omega)
     replace hb1 := f14.blk0 hb1
     replace hi1 := Nat.lt_of_lt_of_le hi1 f14.size
     replace hb9 := f14.blk0 hb9
     replace hi9 := Nat.lt_of_lt_of_le hi9 f14.size
     refine DL.y rfl rfl (Y.move) ?_
     refine DL.call rfl rfl F.nm16 rfl (Str_any _ _) ?_
     rintro _ w15 f16 rfl
     replace FR := FR.tr0 f16
     replace hR := hR.fr f16 (by intro x hx; simp <;> omega)
     replace hT := hT.fr f16 (by intro x hx; simp <;> omega)
     replace hb1 := f16.blk0 hb1
     replace hi1 := Nat.lt_of_lt_of_le hi1 f16.size
     replace hb9 := f16.blk0 hb9
     replace hi9 := Nat.lt_of_lt_of_le hi9 f16.size
     refine DL.y rfl rfl (Y.move) ?_
     refine DL.call rfl rfl F.nm10 rfl (told_said hsd (sL_len hG hn hby)) ?_
     rintro _ w17 f18 rfl
     replace FR := FR.tr0 f18
     replace hR := hR.fr f18 (by intro x hx; simp <;> omega)
     replace hT := hT.fr f18 (by intro x hx; simp <;> omega)
     replace hb1 := f18.blk0 hb1
     replace hi1 := Nat.lt_of_lt_of_le hi1 f18.size
     replace hb9 := f18.blk0 hb9
     replace hi9 := Nat.lt_of_lt_of_le hi9 f18.size
     refine DL.y rfl rfl (Y.assign) ?_
     refine DL.nil ?_
     show DC _ _ _ _ _ _
     refine DC.ret ?_
     exact FinQ.ret1 rfl (Ret.mk FR rfl)
   ·refine DL.y rfl rfl (Y.move) ?_
    refine DL.skip rfl rfl ?_
    refine DL.skip rfl rfl ?_
    refine DL.y rfl rfl (Y.pickF rfl) ?_
    refine DL.nil ?_
    show DC _ _ _ _ _ _
    refine DC.condF rfl ?_
    refine DC.skip ?_
    show DC _ _ _ _ _ _
    refine DC.seq ?_
    refine DC.region ?_
    refine DL.y rfl rfl (Y.loadW rfl hb1 F.ag26) ?_
    refine DL.call rfl rfl F.nm15 rfl (ToString_any _ _ B _ (by omega) (by omega) hG hR (by have := FR.size; omega) h2 hT) ?_
    rintro _ w19 f20 rfl
    replace FR := FR.tr0 f20
    replace hR := hR.fr f20 (by intro x hx; simp <;> omega)
    replace hT := hT.fr f20 (by intro x hx; simp <;> omega)
    replace hb1 := f20.blk0 hb1
    replace hi1 := Nat.lt_of_lt_of_le hi1 f20.size
    replace hb9 := f20.blk0 hb9
    replace hi9 := Nat.lt_of_lt_of_le hi9 f20.size
    refine DL.y rfl rfl (Y.move) ?_
    refine DL.call rfl rfl F.nm16 rfl (Str_any _ _) ?_
    rintro _ w21 f22 rfl
    replace FR := FR.tr0 f22
    replace hR := hR.fr f22 (by intro x hx; simp <;> omega)
    replace hT := hT.fr f22 (by intro x hx; simp <;> omega)
    replace hb1 := f22.blk0 hb1
    replace hi1 := Nat.lt_of_lt_of_le hi1 f22.size
    replace hb9 := f22.blk0 hb9
    replace hi9 := Nat.lt_of_lt_of_le hi9 f22.size
    refine DL.y rfl rfl (Y.move) ?_
    refine DL.call rfl rfl F.nm10 rfl (told_said hsd (sL_len hG hn hby)) ?_
    rintro _ w23 f24 rfl
    replace FR := FR.tr0 f24
    replace hR := hR.fr f24 (by intro x hx; simp <;> omega)
    replace hT := hT.fr f24 (by intro x hx; simp <;> omega)
    replace hb1 := f24.blk0 hb1
    replace hi1 := Nat.lt_of_lt_of_le hi1 f24.size
    replace hb9 := f24.blk0 hb9
    replace hi9 := Nat.lt_of_lt_of_le hi9 f24.size
    refine DL.y rfl rfl (Y.assign) ?_
    refine DL.nil ?_
    show DC _ _ _ _ _ _
    refine DC.ret ?_
    exact FinQ.ret1 rfl (Ret.mk FR rfl)
  ·subst hq2
   refine DL.y rfl rfl (Y.not rfl) ?_
   refine DL.nil ?_
   show DC _ _ _ _ _ _
   refine DC.condT rfl ?_
   refine DC.seq ?_
   refine DC.region ?_
   refine DL.y rfl rfl (Y.assign) ?_
   refine DL.nil ?_
   show DC _ _ _ _ _ _
   refine DC.ret ?_
   exact FinQ.ret1 rfl (Ret.mk FR rfl)
 ·subst hr1
  refine DL.y rfl rfl (Y.not rfl) ?_
  refine DL.nil ?_
  show DC _ _ _ _ _ _
  refine DC.condT rfl ?_
  refine DC.seq ?_
  refine DC.region ?_
  refine DL.y rfl rfl (Y.assign) ?_
  refine DL.nil ?_
  show DC _ _ _ _ _ _
  refine DC.ret ?_
  exact FinQ.ret1 rfl (Ret.mk FR rfl)

end Go.Proofs.YtmbleojlnaofjaaGreatDoor

/- The walks from net/url's QueryEscape to laws.FnFormatURI. -/
namespace Go.Proofs.YtmbleojlnaofjaaGreatDoor
open Go Go.RowKit D Go.Deep
set_option linter.unusedVariables false
set_option linter.unusedSimpArgs false


theorem Y.snec {P : Program} {e : Env} {w : World} {dst : Option Tmp} {ty : TypeId} {pos : String} {af : Array Edge} {g : Option (Nat × Bool)} {x y : Operand} {t u : TypeId} {a b : ByteArray} {c : Bool} (hx : ev e x = .string a) (hy : ev e y = .string b) (h : (!decide (a = b)) = c) : D.Y P e ⟨dst, .binOp .neq t x y u, ty, pos, af, g⟩ w (.bool c) := by
 rw [← h]; exact D.Y.sne hx hy
/-! ### A plus made three bytes -/
def repP (l : List UInt8) : List UInt8 := l.flatMap fun c => if c = 43 then [37, 50, 48] else [c]
theorem repP_app (a b : List UInt8) : repP (a ++ b) = repP a ++ repP b := by simp [repP]
theorem repP_len : ∀ l : List UInt8, (repP l).length ≤ 3 * l.length
 | [] => by simp [repP]
 | c :: l => by
  have h := repP_len l
  have h1 : (if c = 43 then [37, 50, 48] else [c] : List UInt8).length ≤ 3 := by split <;> simp
  simp only [repP, List.flatMap_cons, List.length_append, List.length_cons] at h ⊢
  omega
theorem repP_id : ∀ l : List UInt8, (∀ c ∈ l, ¬ c = 43) → repP l = l
 | [], _ => rfl
 | c :: l, h => by
  have h1 := repP_id l (fun x hx => h x (by simp [hx]))
  simp only [repP, List.flatMap_cons] at h1 ⊢
  rw [h1, if_neg (h c (by simp))]; rfl
theorem repP_cut (a b : List UInt8) (h : ∀ c ∈ a, ¬ c = 43) : repP (a ++ 43 :: b) = a ++ [37, 50, 48] ++ repP b := by
 rw [repP_app, repP_id a h, List.append_assoc]; rfl
theorem hexU_ne : ∀ d : Nat, d < 16 → ¬ hexU d = 43
 | 0, _ => by decide
 | 1, _ => by decide
 | 2, _ => by decide
 | 3, _ => by decide
 | 4, _ => by decide
 | 5, _ => by decide
 | 6, _ => by decide
 | 7, _ => by decide
 | 8, _ => by decide
 | 9, _ => by decide
 | 10, _ => by decide
 | 11, _ => by decide
 | 12, _ => by decide
 | 13, _ => by decide
 | 14, _ => by decide
 | 15, _ => by decide
 | d + 16, h => by omega
theorem rep_esc (c : UInt8) : repP (escQ c) = escU c := by
 unfold escQ escU
 have hc := c.toNat_lt
 by_cases hf : freeB c.toNat = true
 ·rw [if_pos hf, if_pos hf]
  refine repP_id _ (fun x hx => ?_)
  rw [List.mem_singleton.1 hx]
  intro h; rw [h] at hf; revert hf; decide
 ·rw [if_neg hf, if_neg hf]
  by_cases h32 : c = 32
  ·rw [if_pos h32]; subst h32; rfl
  ·rw [if_neg h32]
   refine repP_id _ (fun x hx => ?_)
   rcases List.mem_cons.1 hx with rfl | hx
   ·decide
   rcases List.mem_cons.1 hx with rfl | hx
   ·exact hexU_ne _ (by omega)
   rw [List.mem_singleton.1 hx]
   exact hexU_ne _ (by omega)
theorem rep_ql (l : List UInt8) : repP (qlL l) = uL l := by
 induction l with
 | nil => rfl
 | cons c l ih =>
  have : qlL (c :: l) = escQ c ++ qlL l := by simp [qlL]
  rw [this, repP_app, ih, rep_esc]; simp [uL]
theorem ql_len3 (l : List UInt8) : (qlL l).length ≤ 3 * l.length := by
 have h1 := qlL_len l
 have h2 := cH_le l
 omega
/-- Where the first plus stands. -/
def Plus (l : List UInt8) (z : Int) : Prop := (z = -1 ∧ ∀ c ∈ l, ¬ c = 43) ∨ ∃ a b, l = a ++ 43 :: b ∧ (∀ c ∈ a, ¬ c = 43) ∧ z = (a.length : Int)
theorem take_ne {l : List UInt8} {i : Nat} (h : ∀ j (hj : j < l.length), j < i → ¬ l[j] = 43) : ∀ c ∈ l.take i, ¬ c = 43 := by
 intro c hc
 obtain ⟨j, hj, rfl⟩ := List.getElem_of_mem hc
 rw [List.length_take] at hj
 rw [List.getElem_take]
 exact h j (by omega) (by omega)
theorem ext_plus {s : ByteArray} {i : Nat} (h : i < s.size) : s.extract ((i : Int).toNat) (((i + 1 : Nat) : Int).toNat) = (⟨#[43]⟩ : ByteArray) ↔ s[i] = 43 := by
 constructor
 ·intro he
  have h2 := congrArg (fun b : ByteArray => b.data.toList) he
  simp only [ext_one h] at h2
  exact List.singleton_inj.1 h2
 ·intro he
  exact ByteArray.ext (Array.toList_inj.1 (by rw [ext_one h, he]))
theorem ext_head {s : ByteArray} {a : List UInt8} {b : List UInt8} (h : s.data.toList = a ++ b) : (s.extract 0 ((a.length : Int).toNat)).data.toList = a := by
 rw [Int.toNat_natCast, ByteArray.data_extract, Array.toList_extract, List.extract_eq_take_drop, h]; simp
theorem ext_rest {s : ByteArray} {a : List UInt8} {b : List UInt8} (h : s.data.toList = a ++ 43 :: b) : (s.extract (((a.length + 1 : Nat) : Int).toNat) s.size).data.toList = b := by
 have e : s.data.toList.drop (a.length + 1) = b := by rw [h, show a ++ 43 :: b = (a ++ [43]) ++ b by simp, List.drop_left' (by simp)]
 rw [Int.toNat_natCast, ByteArray.data_extract, Array.toList_extract, List.extract_eq_take_drop, size_list, e, List.take_of_length_le]
 rw [← e, List.length_drop]; omega

theorem index_any (s : ByteArray) (hs : s.size ≤ 100000000) (w : World) : Calls Tryz.prog 146 #[.string s, .string (⟨#[43]⟩ : ByteArray)] w (Ret w [] fun r _ => ∃ z, r = .int .i64 z ∧ Plus s.data.toList z) := by
 have hp1 : (⟨#[43]⟩ : ByteArray).size = 1 := rfl
 have hsz := size_list s
 refine calls_of Tryz.func146 rfl rfl rfl rfl ?_
 have FR := Fr.refl [] w
 refine DC.seq ?_
 refine DC.region ?_
 refine DL.y rfl rfl (Y.assign) ?_
 refine DL.nil ?_
 show DC _ _ _ _ _ _
 refine DC.seq ?_
 refine DC.seq ?_
 refine DC.region ?_
 refine DL.y rfl rfl (Y.assign) ?_
 refine DL.nil ?_
 show DC _ _ _ _ _ _
 refine DC.block ?_
 refine DC.loopE (σ := Nat) [(4, 24)] [(0, .string s), (1, .string (⟨#[43]⟩ : ByteArray))] (fun i => [(5, .int .i64 (i : Int))]) (fun sg wl => Fr [] w wl ∧ (fun i wl => i ≤ s.size ∧ ∀ j (hj : j < s.data.toList.length), j < i → ¬ s.data.toList[j] = 43) sg wl) (fun i => s.size - i) (0) rfl ?_ ?_ ?_ ?_
 ·exact ⟨rfl, rfl⟩
 ·exact rfl
 ·exact ⟨Fr.refl _ _, Nat.zero_le _, fun j hj h => by omega⟩
 ·rintro e0 i j w1 ⟨f2, hi0, hno⟩
  replace FR := FR.tr0 f2
  have G3 := f2
  have HG3 := Fr.refl [] w1
  refine DC.seq ?_
  refine DC.seq ?_
  refine DC.region ?_
  refine DL.y rfl rfl (Y.move) ?_
  refine DL.y rfl rfl (Y.move) ?_
  refine DL.y rfl rfl (Y.lenStr Tryz.underlying9 rfl) ?_
  refine DL.y rfl rfl (Y.addI (c := ((i + 1 : Nat) : Int)) rfl rfl (by omega) (by omega) (by omega)) ?_
  refine DL.y rfl rfl (Y.move) ?_
  refine DL.y rfl rfl (Y.lenStr Tryz.underlying9 rfl) ?_
  refine DL.if rfl rfl (Y.le rfl rfl) (fun c12 => ?_) (fun c12 => ?_)
  ·have hi : i < s.size := by omega
   refine DL.nil ?_
   show DC _ _ _ _ _ _
   refine DC.condT rfl ?_
   refine DC.skip ?_
   show DC _ _ _ _ _ _
   refine DC.seq ?_
   refine DC.block ?_
   refine DC.seq ?_
   refine DC.region ?_
   refine DL.y rfl rfl (Y.move) ?_
   refine DL.y rfl rfl (Y.move) ?_
   refine DL.y rfl rfl (Y.move) ?_
   refine DL.y rfl rfl (Y.move) ?_
   refine DL.y rfl rfl (Y.lenStr Tryz.underlying9 rfl) ?_
   refine DL.y rfl rfl (Y.addI (c := ((i + 1 : Nat) : Int)) rfl rfl (by omega) (by omega) (by omega)) ?_
   refine DL.y rfl rfl (Y.strLH (l := (i : Int)) (h := ((i + 1 : Nat) : Int)) Tryz.underlying9 rfl rfl rfl (by omega) (by omega) (by omega)) ?_
   refine DL.y rfl rfl (Y.move) ?_
   refine DL.if rfl rfl (Y.seq rfl rfl) (fun c23 => ?_) (fun c23 => ?_)
   ·refine DL.nil ?_
    show DC _ _ _ _ _ _
    refine DC.condT rfl ?_
    refine DC.seq ?_
    refine DC.region ?_
    refine DL.y rfl rfl (Y.move) ?_
    refine DL.y rfl rfl (Y.assign) ?_
    refine DL.nil ?_
    show DC _ _ _ _ _ _
    refine DC.ret ?_
    have hl : i < s.data.toList.length := by omega
    have hc : s.data.toList[i] = 43 := (ext_plus hi).1 c23
    exact FinQ.ret1 rfl (Ret.mk FR ⟨_, rfl, Or.inr ⟨s.data.toList.take i, s.data.toList.drop (i + 1), by rw [← hc, ← List.drop_eq_getElem_cons hl, List.take_append_drop], take_ne hno, by rw [List.length_take, Nat.min_eq_left (by omega)]⟩⟩)
   ·refine DL.nil ?_
    show DC _ _ _ _ _ _
    refine DC.condF rfl ?_
    refine DC.skip ?_
    show DC _ _ _ _ _ _
    refine DC.region ?_
    refine DL.y rfl rfl (Y.move) ?_
    refine DL.y rfl rfl (Y.addI (c := ((i + 1 : Nat) : Int)) rfl rfl (by omega) (by omega) (by omega)) ?_
    refine DL.y rfl rfl (Y.assign) ?_
    refine DL.nil ?_
    refine ⟨i + 1, ⟨G3, hi, fun j hj h => ?_⟩, by show s.size - (i + 1) < s.size - i; omega, rfl⟩
    by_cases hji : j = i
    ·subst hji; exact fun he => c23 ((ext_plus hi).2 he)
    ·exact hno j hj (by omega)
  ·refine DL.nil ?_
   show DC _ _ _ _ _ _
   refine DC.condF rfl ?_
   refine DC.exit ?_
   show DC _ _ _ _ _ _
   refine DC.seq ?_
   refine DC.region ?_
   refine DL.y rfl rfl (Y.assign) ?_
   refine DL.nil ?_
   show DC _ _ _ _ _ _
   refine DC.ret ?_
   refine FinQ.ret1 rfl (Ret.mk FR ⟨_, rfl, Or.inl ⟨rfl, ?_⟩⟩)
   have h2 := take_ne hno
   rw [List.take_of_length_le (by omega)] at h2; exact h2


theorem repP_low : ∀ l : List UInt8, l.length ≤ (repP l).length
 | [] => Nat.le_refl _
 | c :: l => by
  have h := repP_low l
  have h1 : 1 ≤ (if c = 43 then [37, 50, 48] else [c] : List UInt8).length := by split <;> simp
  simp only [repP, List.flatMap_cons, List.length_append, List.length_cons] at h ⊢
  omega

set_option maxHeartbeats 1000000 in
theorem replaceAll_any (s : ByteArray) (hs : s.size ≤ 10000000) (w : World) : Calls Tryz.prog 129 #[.string s, .string (⟨#[43]⟩ : ByteArray), .string (⟨#[37, 50, 48]⟩ : ByteArray)] w (Ret w [] fun r _ => ∃ t : ByteArray, r = .string t ∧ t.data.toList = repP s.data.toList) := by
 have hp1 : (⟨#[43]⟩ : ByteArray).size = 1 := rfl
 have hp3 : (⟨#[37, 50, 48]⟩ : ByteArray).size = 3 := rfl
 refine calls_of Tryz.func129 rfl rfl rfl rfl ?_
 have FR := Fr.refl [] w
 refine DC.seq ?_
 refine DC.region ?_
 refine DL.y rfl rfl (Y.assign) ?_
 refine DL.nil ?_
 show DC _ _ _ _ _ _
 refine DC.seq ?_
 refine DC.region ?_
 refine DL.y rfl rfl (Y.assign) ?_
 refine DL.nil ?_
 show DC _ _ _ _ _ _
 refine DC.block ?_
 obtain ⟨B0, hB0⟩ : ∃ B0, B0 = w.heap.size := ⟨_, rfl⟩
 have hB0w := FR.size
 rw [← hB0] at hB0w
 refine DC.loopE (σ := ByteArray × Value × List UInt8) [(0, 0), (6, 30)] [(1, .string (⟨#[43]⟩ : ByteArray)), (2, .string (⟨#[37, 50, 48]⟩ : ByteArray))] (fun (sc, v, _) => [(0, .string sc), (7, v)]) (fun sg wl => Fr [] w wl ∧ (fun (sc, v, acc) wl => wl.ownsRow B0 5 1 v acc.length (bv acc) ∧ acc ++ repP sc.data.toList = repP s.data.toList) sg wl) (fun (sc, _, _) => sc.size) ((s, .slice none 0 0, [])) rfl ?_ ?_ ?_ ?_
 ·exact ⟨rfl, rfl⟩
 ·exact ⟨rfl, rfl⟩
 ·exact ⟨Fr.refl _ _, World.ownsRow_nil _ _ _ _, rfl⟩
 ·rintro e0 ⟨sc, v, acc⟩ j w1 ⟨f2, hown, heq⟩
  replace FR := FR.tr0 f2
  have G3 := f2
  have HG3 := Fr.refl [] w1
  have hsz := size_list sc
  have hel := congrArg List.length heq
  rw [List.length_append] at hel
  have hrl := repP_len s.data.toList
  have hss := size_list s
  have hrs := repP_low sc.data.toList
  refine DC.block ?_
  refine DC.seq ?_
  refine DC.region ?_
  refine DL.y rfl rfl (Y.move) ?_
  refine DL.y rfl rfl (Y.move) ?_
  refine DL.call rfl rfl F.nm146 rfl (index_any sc (by omega) _) ?_
  rintro _ w4 f5 ⟨z, rfl, hz⟩
  replace FR := FR.tr0 f5
  replace G3 := G3.tr0 f5
  replace HG3 := HG3.tr0 f5
  replace hown := ownsRow_fr hown f5 (by simp)
  refine DL.y rfl rfl (Y.assign) ?_
  refine DL.nil ?_
  show DC _ _ _ _ _ _
  refine DC.seq ?_
  refine DC.seq ?_
  refine DC.region ?_
  refine DL.y rfl rfl (Y.move) ?_
  refine DL.if rfl rfl (Y.lt rfl rfl) (fun c13 => ?_) (fun c13 => ?_)
  ·have hno : ∀ c ∈ sc.data.toList, ¬ c = 43 := by
    rcases hz with h | ⟨a, b, _, _, h⟩
    ·exact h.2
    ·omega
   refine DL.nil ?_
   show DC _ _ _ _ _ _
   refine DC.condT rfl ?_
   refine DC.seq ?_
   refine DC.region ?_
   refine DL.y rfl rfl (Y.move) ?_
   refine DL.y rfl rfl (Y.move) ?_
   refine DL.appendStr rfl rfl F.el107 Tryz.underlying9 F.z5 rfl rfl hown (by omega) (by have := G3.size; omega) ?_
   intro v16 w6 f7 hown'
   replace FR := FR.put f7 (fun i hi => Or.inr (by have := (own_ge hown i hi).1; omega))
   replace G3 := G3.put f7 (fun i hi => Or.inr (by have := (own_ge hown i hi).1; omega))
   replace hown := hown'
   refine DL.y rfl rfl (Y.bytesStr (l := acc ++ sc.data.toList) Tryz.underlying107 Tryz.underlying5 Tryz.underlying9 rfl (by rw [List.map_append]; exact hown)) ?_
   refine DL.y rfl rfl (Y.assign) ?_
   refine DL.nil ?_
   show DC _ _ _ _ _ _
   refine DC.ret ?_
   exact FinQ.ret1 rfl (Ret.mk FR ⟨_, rfl, by rw [← heq, repP_id _ hno]⟩)
  ·obtain ⟨a, b, he, hna, rfl⟩ : ∃ a b, sc.data.toList = a ++ 43 :: b ∧ (∀ c ∈ a, ¬ c = 43) ∧ z = (a.length : Int) := by
    rcases hz with h | h
    ·omega
    ·exact h
   have hla := congrArg List.length he
   simp only [List.length_append, List.length_cons] at hla
   refine DL.nil ?_
   show DC _ _ _ _ _ _
   refine DC.condF rfl ?_
   refine DC.skip ?_
   show DC _ _ _ _ _ _
   refine DC.seq ?_
   refine DC.region ?_
   refine DL.y rfl rfl (Y.move) ?_
   refine DL.y rfl rfl (Y.move) ?_
   refine DL.y rfl rfl (Y.move) ?_
   refine DL.y rfl rfl (Y.strH (h := (a.length : Int)) Tryz.underlying9 rfl rfl (by omega) (by omega)) ?_
   refine DL.appendStr rfl rfl F.el107 Tryz.underlying9 F.z5 rfl rfl hown (by rw [size_list (sc.extract _ _), ext_head he]; omega) (by have := G3.size; omega) ?_
   intro v22 w8 f9 hown'
   replace FR := FR.put f9 (fun i hi => Or.inr (by have := (own_ge hown i hi).1; omega))
   replace G3 := G3.put f9 (fun i hi => Or.inr (by have := (own_ge hown i hi).1; omega))
   replace hown := hown'
   refine DL.y rfl rfl (Y.move) ?_
   refine DL.appendStr rfl rfl F.el107 Tryz.underlying9 F.z5 rfl rfl hown (by rw [size_list (sc.extract _ _), ext_head he]; omega) (by have := G3.size; omega) ?_
   intro v24 w10 f11 hown'
   replace FR := FR.put f11 (fun i hi => Or.inr (by have := (own_ge hown i hi).1; omega))
   replace G3 := G3.put f11 (fun i hi => Or.inr (by have := (own_ge hown i hi).1; omega))
   replace hown := hown'
   refine DL.y rfl rfl (Y.assign) ?_
   refine DL.nil ?_
   show DC _ _ _ _ _ _
   refine DC.region ?_
   refine DL.y rfl rfl (Y.move) ?_
   refine DL.y rfl rfl (Y.move) ?_
   refine DL.y rfl rfl (Y.move) ?_
   refine DL.y rfl rfl (Y.lenStr Tryz.underlying9 rfl) ?_
   refine DL.y rfl rfl (Y.addI (c := ((a.length + 1 : Nat) : Int)) rfl rfl (by omega) (by omega) (by omega)) ?_
   refine DL.y rfl rfl (Y.strL (l := ((a.length + 1 : Nat) : Int)) Tryz.underlying9 rfl rfl (by omega) (by omega)) ?_
   refine DL.y rfl rfl (Y.assign) ?_
   refine DL.nil ?_
   have hr := ext_rest he
   refine ⟨(_, v24, acc ++ a ++ [37, 50, 48]), ⟨G3, ?_, ?_⟩, ?_, rfl, rfl⟩
   ·have e : (acc ++ a ++ [37, 50, 48]).length = acc.length + (sc.extract 0 ((a.length : Int).toNat)).size + (⟨#[37, 50, 48]⟩ : ByteArray).size := by rw [size_list (sc.extract _ _), ext_head he]; simp only [List.length_append]; rfl
    rw [e, bv_append, bv_append]
    have hown2 := hown
    rw [ext_head he] at hown2
    exact hown2
   ·show _ ++ repP (ByteArray.data (sc.extract (((a.length + 1 : Nat) : Int).toNat) sc.size)).toList = _
    rw [hr, ← heq, he, repP_cut a b hna]; simp only [List.append_assoc]
   ·show (sc.extract (((a.length + 1 : Nat) : Int).toNat) sc.size).size < sc.size
    rw [size_list (sc.extract _ _), hr, hsz, he]; simp only [List.length_append, List.length_cons]; omega

theorem query_any (s : ByteArray) (hs : s.size ≤ 1000000) (w : World) (hU : TabU w) (h3 : 3 < w.heap.size) : Calls Tryz.prog 130 #[.string s] w (Ret w [] fun r _ => ∃ t : ByteArray, r = .string t ∧ t.data.toList = qlL s.data.toList) := by
 refine calls_of Tryz.func130 rfl rfl rfl rfl ?_
 have FR := Fr.refl [] w
 refine DC.seq ?_
 refine DC.region ?_
 refine DL.y rfl rfl (Y.assign) ?_
 refine DL.nil ?_
 show DC _ _ _ _ _ _
 refine DC.seq ?_
 refine DC.region ?_
 refine DL.y rfl rfl (Y.move) ?_
 refine DL.call rfl rfl F.nm147 rfl (escape_any s hs _ hU h3) ?_
 rintro _ w1 f2 ⟨t, rfl, ht⟩
 replace FR := FR.tr0 f2
 refine DL.y rfl rfl (Y.assign) ?_
 refine DL.nil ?_
 show DC _ _ _ _ _ _
 refine DC.ret ?_
 exact FinQ.ret1 rfl (Ret.mk FR ⟨_, rfl, ht⟩)

theorem funcToURI_any (v : V) (x : Value) (B : Nat) (w : World) (hn : v.nodes ≤ 1000000) (hby : v.bytes ≤ 1000000) (hsl : (sL v).length ≤ 1000000) (hG : Good v) (hgv : GV w (· < B) v x) (hB : B ≤ w.heap.size) (h2 : 2 ≤ B) (hT : Tabs w) (hU : TabU w) (h3 : 3 < w.heap.size) : Calls Tryz.prog 85 #[x] w (Ret w [] fun r w' => ∃ t : ByteArray, r = .iface 9 (.string t) ∧ t.data.toList = uL (sL v)) := by
 have hz0 : (⟨(sL v).toArray⟩ : ByteArray).size ≤ 1000000 := by rw [size_list]; simpa using hsl
 refine calls_of Tryz.func85 rfl rfl rfl rfl ?_
 have FR := Fr.refl [] w
 refine DC.seq ?_
 refine DC.region ?_
 refine DL.y rfl rfl (Y.assign) ?_
 refine DL.nil ?_
 show DC _ _ _ _ _ _
 refine DC.seq ?_
 refine DC.region ?_
 refine DL.y rfl rfl (Y.move) ?_
 refine DL.call rfl rfl F.nm76 rfl (funcToString_any v x B _ hn hby hG hgv (by have := FR.size; omega) h2 hT) ?_
 rintro _ w1 f2 rfl
 replace FR := FR.tr0 f2
 replace hU : TabU w1 := hU.fr f2 (by first | (simp; done) | (simp only [List.mem_cons, List.mem_singleton, List.not_mem_nil, or_false]; omega))
 refine DL.nil ?_
 show DC _ _ _ _ _ _
 refine DC.block ?_
 refine DC.seq ?_
 refine DC.region ?_
 refine DL.y rfl rfl (Y.asYes F.if9 rfl) ?_
 refine DL.y rfl rfl (Y.extract rfl rfl) ?_
 refine DL.y rfl rfl (Y.extract rfl rfl) ?_
 refine DL.nil ?_
 show DC _ _ _ _ _ _
 refine DC.condT rfl ?_
 refine DC.seq ?_
 refine DC.region ?_
 refine DL.y rfl rfl (Y.assign) ?_
 refine DL.nil ?_
 show DC _ _ _ _ _ _
 refine DC.seq ?_
 refine DC.region ?_
 refine DL.y rfl rfl (Y.move) ?_
 refine DL.call rfl rfl F.nm130 rfl (query_any ⟨(sL v).toArray⟩ hz0 _ hU (by have := FR.size; omega)) ?_
 rintro _ w3 f4 ⟨t12, rfl, ht12⟩
 replace FR := FR.tr0 f4
 replace hU : TabU w3 := hU.fr f4 (by first | (simp; done) | (simp only [List.mem_cons, List.mem_singleton, List.not_mem_nil, or_false]; omega))
 refine DL.call rfl rfl F.nm129 rfl (replaceAll_any t12 (by have h5 := ql_len3 (sL v); rw [size_list, ht12]; show (qlL (sL v)).length ≤ _; omega) _) ?_
 rintro _ w5 f6 ⟨t13, rfl, ht13⟩
 replace FR := FR.tr0 f6
 replace hU : TabU w5 := hU.fr f6 (by first | (simp; done) | (simp only [List.mem_cons, List.mem_singleton, List.not_mem_nil, or_false]; omega))
 refine DL.y rfl rfl (Y.mkI F.if9) ?_
 refine DL.y rfl rfl (Y.assign) ?_
 refine DL.nil ?_
 show DC _ _ _ _ _ _
 refine DC.ret ?_
 refine FinQ.ret1 rfl (Ret.mk FR ⟨t13, rfl, ?_⟩)
 rw [ht13, ht12, rep_ql]

theorem zzURI_any (v : V) (x : Value) (B : Nat) (w : World) (hn : v.nodes ≤ 1000000) (hby : v.bytes ≤ 1000000) (hsl : (sL v).length ≤ 1000000) (hG : Good v) (hgv : GV w (· < B) v x) (hB : B ≤ w.heap.size) (h2 : 2 ≤ B) (hT : Tabs w) (hU : TabU w) (h3 : 3 < w.heap.size) : Calls Tryz.prog 44 #[x] w (Ret w [] fun r w' => ∃ t : ByteArray, r = .iface 9 (.string t) ∧ t.data.toList = uL (sL v)) := by
 refine calls_of Tryz.func44 rfl rfl rfl rfl ?_
 have FR := Fr.refl [] w
 refine DC.seq ?_
 refine DC.region ?_
 refine DL.y rfl rfl (Y.assign) ?_
 refine DL.nil ?_
 show DC _ _ _ _ _ _
 refine DC.seq ?_
 refine DC.region ?_
 refine DL.y rfl rfl (Y.move) ?_
 refine DL.call rfl rfl F.nm85 rfl (funcToURI_any v x B _ hn hby hsl hG hgv (by have := FR.size; omega) h2 hT hU (by have := FR.size; omega)) ?_
 rintro _ w1 f2 ⟨t4, rfl, ht4⟩
 replace FR := FR.tr0 f2
 replace hU : TabU w1 := hU.fr f2 (by first | (simp; done) | (simp only [List.mem_cons, List.mem_singleton, List.not_mem_nil, or_false]; omega))
 refine DL.y rfl rfl (Y.assign) ?_
 refine DL.nil ?_
 show DC _ _ _ _ _ _
 refine DC.ret ?_
 exact FinQ.ret1 rfl (Ret.mk FR ⟨_, rfl, ht4⟩)

theorem FormatURI_any (v : V) (cs : Array Value) (B : Nat) (w : World) (hn : v.nodes ≤ 1000000) (hby : v.bytes ≤ 1000000) (hsl : (sL v).length ≤ 1000000) (hG : Good v) (hR : RV w B v cs) (hB : B ≤ w.heap.size) (h2 : 2 ≤ B) (hT : Tabs w) (hU : TabU w) (h3 : 3 < w.heap.size) : Calls Tryz.prog 23 #[.agg cs] w (Ret w [] fun r w' => ∃ t : ByteArray, r = .agg (strR t) ∧ t.data.toList = uL (sL v)) := by
 obtain ⟨v', hv'⟩ : ∃ v', v' = v := ⟨_, rfl⟩
 obtain ⟨kind, half, text, list, keys, vals⟩ := v
 obtain ⟨la, lc, ka, kc, va, vc, rfl⟩ := hR.shape
 rw [← hv'] at hn hby hsl hG hR ⊢
 refine calls_of Tryz.func23 rfl rfl rfl rfl ?_
 have FR := Fr.refl [] w
 refine DC.seq ?_
 refine DC.region ?_
 refine DL.boxA rfl rfl rfl ?_
 intro b1 w1 f2 lo1 hi1 hb1
 replace lo1 := Nat.le_trans FR.size lo1
 replace FR := FR.tr0 f2
 replace hR := hR.fr f2 (by intro x hx; simp <;> omega)
 replace hT := hT.fr f2 (by intro x hx; simp <;> omega)
 replace hU : TabU w1 := hU.fr f2 (by first | (simp; done) | (simp only [List.mem_cons, List.mem_singleton, List.not_mem_nil, or_false]; omega))
 refine DL.alloc rfl rfl F.z34 rfl ?_
 intro b2 w3 f4 lo2 hi2 hb2
 have lt_b1_b2 : b1 < b2 := Nat.lt_of_lt_of_le hi1 lo2
 replace lo2 := Nat.le_trans FR.size lo2
 replace FR := FR.tr0 f4
 replace hR := hR.fr f4 (by intro x hx; simp <;> omega)
 replace hT := hT.fr f4 (by intro x hx; simp <;> omega)
 replace hU : TabU w3 := hU.fr f4 (by first | (simp; done) | (simp only [List.mem_cons, List.mem_singleton, List.not_mem_nil, or_false]; omega))
 replace hb1 := f4.blk0 hb1
 replace hi1 := Nat.lt_of_lt_of_le hi1 f4.size
 refine DL.nil ?_
 show DC _ _ _ _ _ _
 refine DC.seq ?_
 refine DC.region ?_
 refine DL.y rfl rfl (Y.loadW rfl hb1 F.ag26) ?_
 refine DL.call rfl rfl F.nm36 rfl (toGo_any _ v' _ B _ (Nat.le_refl _) hn hG hR (by have := FR.size; omega)) ?_
 rintro _ w5 f6 ⟨x, rfl, hgx⟩
 replace FR := FR.tr0 f6
 replace hR := hR.fr f6 (by intro x hx; simp <;> omega)
 replace hT := hT.fr f6 (by intro x hx; simp <;> omega)
 replace hU : TabU w5 := hU.fr f6 (by first | (simp; done) | (simp only [List.mem_cons, List.mem_singleton, List.not_mem_nil, or_false]; omega))
 replace hb1 := f6.blk0 hb1
 replace hi1 := Nat.lt_of_lt_of_le hi1 f6.size
 replace hb2 := f6.blk0 hb2
 replace hi2 := Nat.lt_of_lt_of_le hi2 f6.size
 replace hgx := hgx.mono (D' := (· < w5.heap.size)) (fun j hj => hj.2)
 refine DL.y rfl rfl (Y.move) ?_
 refine DL.y rfl rfl (Y.extract rfl rfl) ?_
 refine DL.y rfl rfl (Y.extract rfl rfl) ?_
 refine DL.y rfl rfl (Y.assign) ?_
 refine DL.y rfl rfl (Y.assign) ?_
 refine DL.nil ?_
 show DC _ _ _ _ _ _
 refine DC.seq ?_
 refine DC.seq ?_
 refine DC.region ?_
 refine DL.y rfl rfl (Y.move) ?_
 refine DL.y rfl rfl (Y.not rfl) ?_
 refine DL.nil ?_
 show DC _ _ _ _ _ _
 refine DC.condF rfl ?_
 refine DC.skip ?_
 show DC _ _ _ _ _ _
 refine DC.seq ?_
 refine DC.region ?_
 refine DL.y rfl rfl (Y.move) ?_
 refine DL.call rfl rfl F.nm44 rfl (zzURI_any v' x _ _ hn hby hsl hG hgx (Nat.le_refl _) (by have := FR.size; omega) hT hU (by have := FR.size; omega)) ?_
 rintro _ w7 f8 ⟨t14, rfl, ht14⟩
 replace FR := FR.tr0 f8
 replace hR := hR.fr f8 (by intro x hx; simp <;> omega)
 replace hT := hT.fr f8 (by intro x hx; simp <;> omega)
 replace hU : TabU w7 := hU.fr f8 (by first | (simp; done) | (simp only [List.mem_cons, List.mem_singleton, List.not_mem_nil, or_false]; omega))
 replace hb1 := f8.blk0 hb1
 replace hi1 := Nat.lt_of_lt_of_le hi1 f8.size
 replace hb2 := f8.blk0 hb2
 replace hi2 := Nat.lt_of_lt_of_le hi2 f8.size
 refine DL.call rfl rfl F.nm37 rfl (result_txt _ _) ?_
 rintro _ w9 f10 rfl
 replace FR := FR.tr0 f10
 replace hR := hR.fr f10 (by intro x hx; simp <;> omega)
 replace hT := hT.fr f10 (by intro x hx; simp <;> omega)
 replace hU : TabU w9 := hU.fr f10 (by first | (simp; done) | (simp only [List.mem_cons, List.mem_singleton, List.not_mem_nil, or_false]; omega))
 replace hb1 := f10.blk0 hb1
 replace hi1 := Nat.lt_of_lt_of_le hi1 f10.size
 replace hb2 := f10.blk0 hb2
 replace hi2 := Nat.lt_of_lt_of_le hi2 f10.size
 refine DL.storeA rfl F.ag34 rfl rfl rfl (by kernel_rfl) hb2 rfl ?_
 intro w11 f12 hs13 hb2'
 replace FR := FR.put f12 (by intro i hi; simp only [List.mem_cons, List.mem_singleton, List.not_mem_nil, or_false] at hi; rcases hi with rfl; all_goals (first | (left; simp; done) | (right; omega)))
 replace hR := hR.fr f12 (by intro x hx; simp <;> omega)
 replace hT := hT.fr f12 (by intro x hx; simp <;> omega)
 replace hU : TabU w11 := hU.fr f12 (by first | (simp; done) | (simp only [List.mem_cons, List.mem_singleton, List.not_mem_nil, or_false]; omega))
 replace hb1 := f12.blk hb1 (by simp only [List.mem_cons, List.not_mem_nil, or_false, not_or]; omega)
 replace hi1 := Nat.lt_of_lt_of_le hi1 f12.size
 replace hi2 := Nat.lt_of_lt_of_le hi2 f12.size
 replace hb2 := hb2'
 refine DL.nil ?_
 show DC _ _ _ _ _ _
 refine DC.ret ?_
 exact FinQ.retC rfl (cs := strR t14) F.ag34 (.ofBlk hb2) (Ret.mk FR ⟨_, rfl, ht14⟩)


theorem told_txt {w : World} {t b : ByteArray} {how : Int} {L : List UInt8} (ht : t.data.toList = L) (hs : Said b how L) (hl : L.length ≤ 140737488351232) :
  Calls Tryz.prog 10 #[.agg (strR t), .agg (strC b), .int .i64 how] w (Ret w [] fun x _ => x = .bool true) := by
 rcases hs with ⟨rfl, h⟩ | rfl
 ·have e : b = t := by
   have : b.data = t.data := Array.toList_inj.1 (by rw [h, ht])
   exact ByteArray.ext this
  subst e
  exact told_any _ _ _ _ _ _ _ _ 0 w (strRV w 0 _ (by rw [size_list, h]; exact hl)) (strRV w 0 _ (by rw [size_list, h]; exact hl))
 ·exact told_silent _ _ _ _ _ _ _ _ _ _ _ _ _ w

set_option maxHeartbeats 1000000 in
theorem formatted_any (v : V) (cs : Array Value) (B : Nat) (t : ByteArray) (w : World) (hn : v.nodes ≤ 1000000) (hby : v.bytes ≤ 1000000) (hsl : (sL v).length ≤ 1000000) (hG : Good v) (hR : RV w B v cs) (hB : B ≤ w.heap.size) (ht : t.data.toList = uL (sL v)) : Calls Tryz.prog 22 #[.agg (strR t), .string (⟨#[117, 114, 105]⟩ : ByteArray), .agg cs] w (Ret w [] fun r w' => r = .bool true) := by
 obtain ⟨v', hv'⟩ : ∃ v', v' = v := ⟨_, rfl⟩
 obtain ⟨kind, half, text, list, keys, vals⟩ := v
 obtain ⟨la, lc, ka, kc, va, vc, rfl⟩ := hR.shape
 rw [← hv'] at hn hby hsl hG hR ht
 have hul := uL_len (sL v')
 refine calls_of Tryz.func22 rfl rfl rfl rfl ?_
 have FR := Fr.refl [] w
 refine DC.seq ?_
 refine DC.region ?_
 refine DL.boxA rfl rfl rfl ?_
 intro b3 w1 f2 lo3 hi3 hb3
 replace lo3 := Nat.le_trans FR.size lo3
 replace FR := FR.tr0 f2
 replace hR := hR.fr f2 (by intro x hx; simp <;> omega)
 refine DL.boxA rfl rfl rfl ?_
 intro b5 w3 f4 lo5 hi5 hb5
 have lt_b3_b5 : b3 < b5 := Nat.lt_of_lt_of_le hi3 lo5
 replace lo5 := Nat.le_trans FR.size lo5
 replace FR := FR.tr0 f4
 replace hR := hR.fr f4 (by intro x hx; simp <;> omega)
 replace hb3 := f4.blk0 hb3
 replace hi3 := Nat.lt_of_lt_of_le hi3 f4.size
 refine DL.y rfl rfl (Y.assign) ?_
 refine DL.nil ?_
 show DC _ _ _ _ _ _
 refine DC.seq ?_
 refine DC.region ?_
 refine DL.y rfl rfl (Y.move) ?_
 refine DL.y rfl rfl (Y.loadW rfl hb5 F.ag26) ?_
 refine DL.call rfl rfl F.nm43 rfl (Format_uri v' _ B _ hn hby hsl hG hR (by have := FR.size; omega)) ?_
 rintro _ w5 f6 ⟨b12, how, rfl, hsd⟩
 replace FR := FR.tr0 f6
 replace hR := hR.fr f6 (by intro x hx; simp <;> omega)
 replace hb3 := f6.blk0 hb3
 replace hi3 := Nat.lt_of_lt_of_le hi3 f6.size
 replace hb5 := f6.blk0 hb5
 replace hi5 := Nat.lt_of_lt_of_le hi5 f6.size
 refine DL.y rfl rfl (Y.move) ?_
 refine DL.y rfl rfl (Y.extract rfl rfl) ?_
 refine DL.y rfl rfl (Y.extract rfl rfl) ?_
 refine DL.y rfl rfl (Y.assign) ?_
 refine DL.y rfl rfl (Y.assign) ?_
 refine DL.nil ?_
 show DC _ _ _ _ _ _
 refine DC.seq ?_
 refine DC.seq ?_
 refine DC.region ?_
 refine DL.y rfl rfl (Y.field F.fd26_0 rfl) ?_
 refine DL.y rfl rfl (Y.loadB F.sc22 rfl hb5 rfl) ?_
 refine DL.if rfl rfl (Y.ne rfl rfl) (fun c17 => ?_) (fun c17 => ?_)
 ·refine DL.y rfl rfl (Y.move) ?_
  refine DL.y rfl rfl (Y.loadW rfl hb5 F.ag26) ?_
  refine DL.call rfl rfl F.nm14 rfl (control_any _ v' _ B _ (Nat.le_refl _) hn hG hR (by have := FR.size; omega)) ?_
  rintro _ w7 f8 ⟨q20, rfl⟩
  replace FR := FR.tr0 f8
  replace hR := hR.fr f8 (by intro x hx; simp <;> omega)
  replace hb3 := f8.blk0 hb3
  replace hi3 := Nat.lt_of_lt_of_le hi3 f8.size
  replace hb5 := f8.blk0 hb5
  replace hi5 := Nat.lt_of_lt_of_le hi5 f8.size
  refine (Bool.eq_false_or_eq_true q20).elim (fun hq20 => ?_) (fun hq20 => ?_)
  ·subst hq20
   refine DL.y rfl rfl (Y.pickT rfl) ?_
   refine DL.y rfl rfl (Y.move) ?_
   refine DL.y rfl rfl (Y.move) ?_
   refine DL.y rfl rfl (Y.snec (c := true) rfl rfl (by decide)) ?_
   refine DL.y rfl rfl (Y.pickT rfl) ?_
   refine DL.y rfl rfl (Y.move) ?_
   refine DL.y rfl rfl (Y.move) ?_
   refine DL.y rfl rfl (Y.snec (c := true) rfl rfl (by decide)) ?_
   refine DL.y rfl rfl (Y.pickT rfl) ?_
   refine DL.y rfl rfl (Y.move) ?_
   refine DL.y rfl rfl (Y.move) ?_
   refine DL.y rfl rfl (Y.snec (c := true) rfl rfl (by decide)) ?_
   refine DL.y rfl rfl (Y.pickT rfl) ?_
   refine DL.nil ?_
   show DC _ _ _ _ _ _
   refine DC.condT rfl ?_
   refine DC.seq ?_
   refine DC.region ?_
   refine DL.y rfl rfl (Y.assign) ?_
   refine DL.nil ?_
   show DC _ _ _ _ _ _
   refine DC.ret ?_
   exact FinQ.ret1 rfl (Ret.mk FR rfl)
  ·subst hq20
   refine DL.y rfl rfl (Y.pickT rfl) ?_
   refine DL.y rfl rfl (Y.move) ?_
   refine DL.skip rfl rfl ?_
   refine DL.skip rfl rfl ?_
   refine DL.y rfl rfl (Y.pickF rfl) ?_
   refine DL.y rfl rfl (Y.move) ?_
   refine DL.skip rfl rfl ?_
   refine DL.skip rfl rfl ?_
   refine DL.y rfl rfl (Y.pickF rfl) ?_
   refine DL.y rfl rfl (Y.move) ?_
   refine DL.skip rfl rfl ?_
   refine DL.skip rfl rfl ?_
   refine DL.y rfl rfl (Y.pickF rfl) ?_
   refine DL.nil ?_
   show DC _ _ _ _ _ _
   refine DC.condF rfl ?_
   refine DC.skip ?_
   show DC _ _ _ _ _ _
   refine DC.seq ?_
   refine DC.drawnF F.mixed ?_
   intro w9 f10 hsw9
   replace FR := FR.tr0 f10
   replace hR := hR.fr f10 (by intro x hx; simp <;> omega)
   replace hb3 := f10.blk0 hb3
   replace hi3 := Nat.lt_of_lt_of_le hi3 f10.size
   replace hb5 := f10.blk0 hb5
   replace hi5 := Nat.lt_of_lt_of_le hi5 f10.size
   have FS := Fr.refl [] w9
   refine DK.take 0 rfl (by kernel_rfl) (by kernel_rfl) (by kernel_rfl) rfl rfl (fun wq sq => Y.loadW rfl (sq.blk0 hb3) F.ag34) ?_
   refine DK.take 1 rfl (by kernel_rfl) (by kernel_rfl) (by kernel_rfl) rfl rfl (fun wq sq => Y.move) ?_
   refine DK.take 3 rfl (by kernel_rfl) (by kernel_rfl) (by kernel_rfl) rfl rfl (fun wq sq => Y.move) ?_
   refine DK.pick [2] (by kernel_rfl) (by simp) (fun ip hip => ?_)
   obtain rfl := List.mem_singleton.1 hip
   refine ⟨_, rfl, ?_⟩
   refine DL.call rfl rfl F.nm16 rfl (Str_any _ _) ?_
   rintro _ w11 f12 rfl
   replace FR := FR.tr0 f12
   replace FS := FS.tr0 f12
   replace hR := hR.fr f12 (by intro x hx; simp <;> omega)
   replace hb3 := f12.blk0 hb3
   replace hi3 := Nat.lt_of_lt_of_le hi3 f12.size
   replace hb5 := f12.blk0 hb5
   replace hi5 := Nat.lt_of_lt_of_le hi5 f12.size
   refine DL.nil ⟨FS, ?_⟩
   refine DK.pick [4] (by kernel_rfl) (by simp) (fun ip hip => ?_)
   obtain rfl := List.mem_singleton.1 hip
   refine ⟨_, rfl, ?_⟩
   refine DL.call rfl rfl F.nm10 rfl (told_txt ht hsd (by omega)) ?_
   rintro _ w13 f14 rfl
   replace FR := FR.tr0 f14
   replace FS := FS.tr0 f14
   replace hR := hR.fr f14 (by intro x hx; simp <;> omega)
   replace hb3 := f14.blk0 hb3
   replace hi3 := Nat.lt_of_lt_of_le hi3 f14.size
   replace hb5 := f14.blk0 hb5
   replace hi5 := Nat.lt_of_lt_of_le hi5 f14.size
   refine DL.nil ⟨FS, ?_⟩
   refine DK.take 5 rfl (by kernel_rfl) (by kernel_rfl) (by kernel_rfl) rfl rfl (fun wq sq => Y.assign) ?_
   refine DK.done (by kernel_rfl) ?_
   show DC _ _ _ _ _ _
   refine DC.ret ?_
   exact FinQ.ret1 rfl (Ret.mk FR rfl)
 ·refine DL.y rfl rfl (Y.move) ?_
  refine DL.skip rfl rfl ?_
  refine DL.skip rfl rfl ?_
  refine DL.y rfl rfl (Y.pickF rfl) ?_
  refine DL.y rfl rfl (Y.move) ?_
  refine DL.skip rfl rfl ?_
  refine DL.skip rfl rfl ?_
  refine DL.y rfl rfl (Y.pickF rfl) ?_
  refine DL.y rfl rfl (Y.move) ?_
  refine DL.skip rfl rfl ?_
  refine DL.skip rfl rfl ?_
  refine DL.y rfl rfl (Y.pickF rfl) ?_
  refine DL.y rfl rfl (Y.move) ?_
  refine DL.skip rfl rfl ?_
  refine DL.skip rfl rfl ?_
  refine DL.y rfl rfl (Y.pickF rfl) ?_
  refine DL.nil ?_
  show DC _ _ _ _ _ _
  refine DC.condF rfl ?_
  refine DC.skip ?_
  show DC _ _ _ _ _ _
  refine DC.seq ?_
  refine DC.drawnF F.mixed ?_
  intro w15 f16 hsw15
  replace FR := FR.tr0 f16
  replace hR := hR.fr f16 (by intro x hx; simp <;> omega)
  replace hb3 := f16.blk0 hb3
  replace hi3 := Nat.lt_of_lt_of_le hi3 f16.size
  replace hb5 := f16.blk0 hb5
  replace hi5 := Nat.lt_of_lt_of_le hi5 f16.size
  have FS := Fr.refl [] w15
  refine DK.take 0 rfl (by kernel_rfl) (by kernel_rfl) (by kernel_rfl) rfl rfl (fun wq sq => Y.loadW rfl (sq.blk0 hb3) F.ag34) ?_
  refine DK.take 1 rfl (by kernel_rfl) (by kernel_rfl) (by kernel_rfl) rfl rfl (fun wq sq => Y.move) ?_
  refine DK.take 3 rfl (by kernel_rfl) (by kernel_rfl) (by kernel_rfl) rfl rfl (fun wq sq => Y.move) ?_
  refine DK.pick [2] (by kernel_rfl) (by simp) (fun ip hip => ?_)
  obtain rfl := List.mem_singleton.1 hip
  refine ⟨_, rfl, ?_⟩
  refine DL.call rfl rfl F.nm16 rfl (Str_any _ _) ?_
  rintro _ w17 f18 rfl
  replace FR := FR.tr0 f18
  replace FS := FS.tr0 f18
  replace hR := hR.fr f18 (by intro x hx; simp <;> omega)
  replace hb3 := f18.blk0 hb3
  replace hi3 := Nat.lt_of_lt_of_le hi3 f18.size
  replace hb5 := f18.blk0 hb5
  replace hi5 := Nat.lt_of_lt_of_le hi5 f18.size
  refine DL.nil ⟨FS, ?_⟩
  refine DK.pick [4] (by kernel_rfl) (by simp) (fun ip hip => ?_)
  obtain rfl := List.mem_singleton.1 hip
  refine ⟨_, rfl, ?_⟩
  refine DL.call rfl rfl F.nm10 rfl (told_txt ht hsd (by omega)) ?_
  rintro _ w19 f20 rfl
  replace FR := FR.tr0 f20
  replace FS := FS.tr0 f20
  replace hR := hR.fr f20 (by intro x hx; simp <;> omega)
  replace hb3 := f20.blk0 hb3
  replace hi3 := Nat.lt_of_lt_of_le hi3 f20.size
  replace hb5 := f20.blk0 hb5
  replace hi5 := Nat.lt_of_lt_of_le hi5 f20.size
  refine DL.nil ⟨FS, ?_⟩
  refine DK.take 5 rfl (by kernel_rfl) (by kernel_rfl) (by kernel_rfl) rfl rfl (fun wq sq => Y.assign) ?_
  refine DK.done (by kernel_rfl) ?_
  show DC _ _ _ _ _ _
  refine DC.ret ?_
  exact FinQ.ret1 rfl (Ret.mk FR rfl)

set_option maxHeartbeats 1000000 in
theorem lawURI_any (v : V) (ca : Array Value) (B : Nat) (w : World) (hR : RV w B v ca) (hB : B ≤ w.heap.size) (h2 : 2 ≤ B) (hT : Tabs w) (hU : TabU w) (h3 : 3 < w.heap.size) : Calls Tryz.prog 6 #[.agg ca] w (Ret w [] fun r _ => r = .bool true) := by
 obtain ⟨v', hv'⟩ : ∃ v', v' = v := ⟨_, rfl⟩
 obtain ⟨kind, half, text, list, keys, vals⟩ := v
 obtain ⟨la, lc, ka, kc, va, vc, rfl⟩ := hR.shape
 rw [← hv'] at hR
 refine calls_of Tryz.func6 rfl rfl rfl rfl ?_
 have FR := Fr.refl [] w
 refine DC.seq ?_
 refine DC.region ?_
 refine DL.boxA rfl rfl rfl ?_
 intro b1 w1 f2 lo1 hi1 hb1
 replace lo1 := Nat.le_trans FR.size lo1
 replace FR := FR.tr0 f2
 replace hR := hR.fr f2 (by intro x hx; simp <;> omega)
 replace hT := hT.fr f2 (by intro x hx; simp <;> omega)
 replace hU : TabU w1 := hU.fr f2 (by first | (simp; done) | (simp only [List.mem_cons, List.mem_singleton, List.not_mem_nil, or_false]; omega))
 refine DL.y rfl rfl (Y.assign) ?_
 refine DL.nil ?_
 show DC _ _ _ _ _ _
 refine DC.seq ?_
 refine DC.seq ?_
 refine DC.region ?_
 refine DL.y rfl rfl (Y.loadW rfl hb1 F.ag26) ?_
 refine DL.call rfl rfl F.nm7 rfl (zzFits1_any _ _ B _ hR (by have := FR.size; omega)) ?_
 rintro _ w3 f4 ⟨r1, rfl⟩
 replace FR := FR.tr0 f4
 replace hR := hR.fr f4 (by intro x hx; simp <;> omega)
 replace hT := hT.fr f4 (by intro x hx; simp <;> omega)
 replace hU : TabU w3 := hU.fr f4 (by first | (simp; done) | (simp only [List.mem_cons, List.mem_singleton, List.not_mem_nil, or_false]; omega))
 replace hb1 := f4.blk0 hb1
 replace hi1 := Nat.lt_of_lt_of_le hi1 f4.size
 refine (Bool.eq_false_or_eq_true r1).elim (fun hr1 => ?_) (fun hr1 => ?_)
 ·subst hr1
  refine DL.y rfl rfl (Y.not rfl) ?_
  refine DL.nil ?_
  show DC _ _ _ _ _ _
  refine DC.condF rfl ?_
  refine DC.skip ?_
  show DC _ _ _ _ _ _
  refine DC.seq ?_
  refine DC.drawnF F.mixed ?_
  intro w5 f6 hsw5
  replace FR := FR.tr0 f6
  replace hR := hR.fr f6 (by intro x hx; simp <;> omega)
  replace hT := hT.fr f6 (by intro x hx; simp <;> omega)
  replace hU : TabU w5 := hU.fr f6 (by first | (simp; done) | (simp only [List.mem_cons, List.mem_singleton, List.not_mem_nil, or_false]; omega))
  replace hb1 := f6.blk0 hb1
  replace hi1 := Nat.lt_of_lt_of_le hi1 f6.size
  have FS := Fr.refl [] w5
  have hb1S := hb1
  refine DK.take 0 rfl (by kernel_rfl) (by kernel_rfl) (by kernel_rfl) rfl rfl (fun wq sq => Y.loadW rfl (sq.blk0 hb1) F.ag26) ?_
  refine DK.pick [1] (by kernel_rfl) (by simp) (fun ip hip => ?_)
  obtain rfl := List.mem_singleton.1 hip
  refine ⟨_, rfl, ?_⟩
  refine DL.buildSl1 rfl rfl (F.el23) rfl rfl rfl ?_
  intro b7 w7 f8 lo7 hi7 hb7
  have lt_b1_b7 : b1 < b7 := Nat.lt_of_lt_of_le hi1 lo7
  have lo7FS := Nat.le_trans FS.size lo7
  replace lo7 := Nat.le_trans FR.size lo7
  replace FR := FR.tr0 f8
  replace FS := FS.tr0 f8
  replace hR := hR.fr f8 (by intro x hx; simp <;> omega)
  replace hT := hT.fr f8 (by intro x hx; simp <;> omega)
  replace hU : TabU w7 := hU.fr f8 (by first | (simp; done) | (simp only [List.mem_cons, List.mem_singleton, List.not_mem_nil, or_false]; omega))
  replace hb1 := f8.blk0 hb1
  replace hi1 := Nat.lt_of_lt_of_le hi1 f8.size
  refine DL.nil ⟨FS, ?_⟩
  refine DK.pick [2] (by kernel_rfl) (by simp) (fun ip hip => ?_)
  obtain rfl := List.mem_singleton.1 hip
  refine ⟨_, rfl, ?_⟩
  refine DL.call rfl rfl F.nm12 rfl (fine_any v' _ B b7 _ hR (by have := FR.size; omega) h2 hT hb7) ?_
  rintro _ w9 f10 ⟨q8, rfl, hq8a⟩
  replace FR := FR.tr0 f10
  replace FS := FS.tr0 f10
  replace hR := hR.fr f10 (by intro x hx; simp <;> omega)
  replace hT := hT.fr f10 (by intro x hx; simp <;> omega)
  replace hU : TabU w9 := hU.fr f10 (by first | (simp; done) | (simp only [List.mem_cons, List.mem_singleton, List.not_mem_nil, or_false]; omega))
  replace hb1 := f10.blk0 hb1
  replace hi1 := Nat.lt_of_lt_of_le hi1 f10.size
  replace hb7 := f10.blk0 hb7
  replace hi7 := Nat.lt_of_lt_of_le hi7 f10.size
  refine (Bool.eq_false_or_eq_true q8).elim (fun hq8 => ?_) (fun hq8 => ?_)
  ·obtain ⟨hG, hn, hby⟩ := hq8a hq8
   subst hq8
   refine DL.nil ⟨FS, ?_⟩
   refine DK.take 3 rfl (by kernel_rfl) (by kernel_rfl) (by kernel_rfl) rfl rfl (fun wq sq => Y.not rfl) ?_
   refine DK.take 4 rfl (by kernel_rfl) (by kernel_rfl) (by kernel_rfl) rfl rfl (fun wq sq => Y.move) ?_
   refine DK.take 5 rfl (by kernel_rfl) (by kernel_rfl) (by kernel_rfl) rfl rfl (fun wq sq => Y.loadW rfl (sq.blk0 hb1S) F.ag26) ?_
   refine DK.take 7 rfl (by kernel_rfl) (by kernel_rfl) (by kernel_rfl) rfl rfl (fun wq sq => Y.loadW rfl (sq.blk0 hb1S) F.ag26) ?_
   refine DK.pick [6] (by kernel_rfl) (by simp) (fun ip hip => ?_)
   obtain rfl := List.mem_singleton.1 hip
   refine ⟨_, rfl, ?_⟩
   refine DL.call rfl rfl F.nm23 rfl (FormatURI_any v' _ B _ (by omega) (by omega) (by have := sL_len hG hn hby; omega) hG hR (by have := FR.size; omega) h2 hT hU (by have := FR.size; omega)) ?_
   rintro _ w11 f12 ⟨t12, rfl, ht12⟩
   replace FR := FR.tr0 f12
   replace FS := FS.tr0 f12
   replace hR := hR.fr f12 (by intro x hx; simp <;> omega)
   replace hT := hT.fr f12 (by intro x hx; simp <;> omega)
   replace hU : TabU w11 := hU.fr f12 (by first | (simp; done) | (simp only [List.mem_cons, List.mem_singleton, List.not_mem_nil, or_false]; omega))
   replace hb1 := f12.blk0 hb1
   replace hi1 := Nat.lt_of_lt_of_le hi1 f12.size
   replace hb7 := f12.blk0 hb7
   replace hi7 := Nat.lt_of_lt_of_le hi7 f12.size
   refine DL.nil ⟨FS, ?_⟩
   refine DK.pick [8] (by kernel_rfl) (by simp) (fun ip hip => ?_)
   obtain rfl := List.mem_singleton.1 hip
   refine ⟨_, rfl, ?_⟩
   refine DL.call rfl rfl F.nm22 rfl (formatted_any v' _ B t12 _ (by omega) (by omega) (by have := sL_len hG hn hby; omega) hG hR (by have := FR.size; omega) ht12) ?_
   rintro _ w13 f14 rfl
   replace FR := FR.tr0 f14
   replace FS := FS.tr0 f14
   replace hR := hR.fr f14 (by intro x hx; simp <;> omega)
   replace hT := hT.fr f14 (by intro x hx; simp <;> omega)
   replace hU : TabU w13 := hU.fr f14 (by first | (simp; done) | (simp only [List.mem_cons, List.mem_singleton, List.not_mem_nil, or_false]; omega))
   replace hb1 := f14.blk0 hb1
   replace hi1 := Nat.lt_of_lt_of_le hi1 f14.size
   replace hb7 := f14.blk0 hb7
   replace hi7 := Nat.lt_of_lt_of_le hi7 f14.size
   refine DL.nil ⟨FS, ?_⟩
   refine DK.take 9 rfl (by kernel_rfl) (by kernel_rfl) (by kernel_rfl) rfl rfl (fun wq sq => Y.pickF rfl) ?_
   refine DK.take 10 rfl (by kernel_rfl) (by kernel_rfl) (by kernel_rfl) rfl rfl (fun wq sq => Y.assign) ?_
   refine DK.done (by kernel_rfl) ?_
   show DC _ _ _ _ _ _
   refine DC.ret ?_
   exact FinQ.ret1 rfl (Ret.mk FR rfl)
  ·subst hq8
   refine DL.nil ⟨FS, ?_⟩
   refine DK.take 3 rfl (by kernel_rfl) (by kernel_rfl) (by kernel_rfl) rfl rfl (fun wq sq => Y.not rfl) ?_
   refine DK.take 4 rfl (by kernel_rfl) (by kernel_rfl) (by kernel_rfl) rfl rfl (fun wq sq => Y.move) ?_
   refine DK.skip 5 rfl (by kernel_rfl) (by kernel_rfl) (by kernel_rfl) rfl rfl ?_
   refine DK.skip 7 rfl (by kernel_rfl) (by kernel_rfl) (by kernel_rfl) rfl rfl ?_
   refine DK.pick [6] (by kernel_rfl) (by simp) (fun ip hip => ?_)
   obtain rfl := List.mem_singleton.1 hip
   refine ⟨_, rfl, ?_⟩
   refine DL.skip rfl rfl ?_
   refine DL.nil ⟨FS, ?_⟩
   refine DK.pick [8] (by kernel_rfl) (by simp) (fun ip hip => ?_)
   obtain rfl := List.mem_singleton.1 hip
   refine ⟨_, rfl, ?_⟩
   refine DL.skip rfl rfl ?_
   refine DL.nil ⟨FS, ?_⟩
   refine DK.take 9 rfl (by kernel_rfl) (by kernel_rfl) (by kernel_rfl) rfl rfl (fun wq sq => Y.pickT rfl) ?_
   refine DK.take 10 rfl (by kernel_rfl) (by kernel_rfl) (by kernel_rfl) rfl rfl (fun wq sq => Y.assign) ?_
   refine DK.done (by kernel_rfl) ?_
   show DC _ _ _ _ _ _
   refine DC.ret ?_
   exact FinQ.ret1 rfl (Ret.mk FR rfl)
 ·subst hr1
  refine DL.y rfl rfl (Y.not rfl) ?_
  refine DL.nil ?_
  show DC _ _ _ _ _ _
  refine DC.condT rfl ?_
  refine DC.seq ?_
  refine DC.region ?_
  refine DL.y rfl rfl (Y.assign) ?_
  refine DL.nil ?_
  show DC _ _ _ _ _ _
  refine DC.ret ?_
  exact FinQ.ret1 rfl (Ret.mk FR rfl)

end Go.Proofs.YtmbleojlnaofjaaGreatDoor

/- An argument that reads is a tree of values. -/
namespace Go.Proofs.YtmbleojlnaofjaaGreatDoor
open Go Go.RowKit D Go.ChangeShapes Go.WideShapes
set_option linter.unusedVariables false
set_option linter.unusedSimpArgs false


theorem exists_list {α : Type} (Q : Nat → α → Prop) : ∀ n : Nat, (∀ i, i < n → ∃ x, Q i x) → ∃ l : List α, l.length = n ∧ ∀ i (h : i < l.length), Q i l[i]
 | 0, _ => ⟨[], rfl, fun i h => by cases h⟩
 | n + 1, h => by
  obtain ⟨l, hl, hq⟩ := exists_list Q n (fun i hi => h i (by omega))
  obtain ⟨x, hx⟩ := h n (by omega)
  refine ⟨l ++ [x], by simp [hl], fun i hi => ?_⟩
  by_cases hn : i < l.length
  ·rw [List.getElem_append_left hn]; exact hq i hn
  ·have hi' : i = n := by simp only [List.length_append, List.length_singleton] at hi; omega
   subst hi'
   rw [List.getElem_append_right (by omega)]
   simpa [hl] using hx

theorem list_six {α : Type} {l : List α} (h : l.length = 6) : ∃ a b c d e f, l = [a, b, c, d, e, f] := by
 match l, h with
 | [a, b, c, d, e, f], _ => exact ⟨a, b, c, d, e, f, rfl⟩
theorem weights_all {H : Type} {Q : Program} {e : TypeId} : ∀ {ds : List (DataW H)} {d : DataW H}, d ∈ ds → ∀ n ∈ d.weights Q e, n ∈ DataW.weightsAll Q e ds
 | d0 :: r, d, hd, n, hn => by
  simp only [DataW.weightsAll, List.mem_append]
  rcases List.mem_cons.1 hd with rfl | hd
  ·exact Or.inl hn
  ·exact Or.inr (weights_all hd n hn)

theorem spot_plain {w : World} {b o : Nat} {sp : Option Nat} {v : Value} (h : w.cell? ⟨b, o, sp⟩ = some v) : sp = none := World.cell?_spot h
theorem cell_lt {w : World} {a : Addr} {v : Value} (h : w.cell? a = some v) : a.block < w.heap.size := by
 rcases Nat.lt_or_ge a.block w.heap.size with h' | h'
 ·exact h'
 ·have : w.heap[a.block]? = none := by simp [h']
  simp [World.cell?, this] at h

section
variable {Hd : Type} {enc : TypeId × Value → Hd} {w : World} {sp : Nat → Bool} {held : Bool}
/-- A slice that reads is a row of cells, each part of it reads. -/
theorem open_part {t e sz : Nat} {fuel : Nat} {cs : List Value} {x : DataW Hd × List MemPlace} (ht : Tryz.prog.underlying t = some (.slice e)) (hc : Tryz.prog.cellsOf e = sz) (hz : 0 < sz) (hb : 1 ≤ Tryz.prog.bytesOf e)
  (h : DataW.trod enc Tryz.prog w 0 sp held (fuel + 1) t cs = some x) (hw : ∀ n ∈ x.1.weights Tryz.prog t, n ≤ reachBytes) :
  ∃ a len cap, cs = [.slice a len cap] ∧ len ≤ 140737488351232 ∧
   ∀ i, i < len → ∃ b o cl d, a = some ⟨b, o, none⟩ ∧ b < w.heap.size ∧ CellsAt w b (o + i * sz) cl ∧ cl.size = sz ∧ DataW.trod enc Tryz.prog w 0 sp held fuel e cl.toList = some d ∧ ∀ n ∈ d.1.weights Tryz.prog e, n ≤ reachBytes := by
 rcases DataW.trod_slice ht h with ⟨rfl, rfl⟩ | ⟨a, len, cap, elems, rest, n, hn, rfl, rfl, _, hl, _, hel, hat, _, _⟩
 ·exact ⟨none, 0, 0, rfl, by omega, fun i hi => absurd hi (by omega)⟩
 ·obtain rfl : n = fuel := by omega
  subst hel
  have hlen : elems.length ≤ 140737488351232 := by
   have := hw ((elems.length + rest.length) * Tryz.prog.bytesOf e) (by simp [DataW.weights, ht])
   have h2 : (elems.length + rest.length) * 1 ≤ (elems.length + rest.length) * Tryz.prog.bytesOf e := Nat.mul_le_mul_left _ hb
   simp only [reachBytes] at this
   omega
  refine ⟨some a, _, cap, rfl, hlen, fun i hi => ?_⟩
  have h1 := hat i hi
  rw [List.getElem?_eq_getElem hi, Option.bind_eq_some_iff] at h1
  obtain ⟨cl, hcl, hd⟩ := h1
  obtain ⟨_, hsz, hcell⟩ := World.cells?_some hcl
  obtain ⟨b, o, spot⟩ := a
  rw [hc] at hsz hcell
  have hsp : spot = none := by
   have h1 := hat 0 (by omega)
   rw [List.getElem?_eq_getElem (by omega), Option.bind_eq_some_iff] at h1
   obtain ⟨c', hcl', _⟩ := h1
   obtain ⟨_, hsz', hcell'⟩ := World.cells?_some hcl'
   rw [hc] at hsz' hcell'
   have h2 := hcell' 0 hz
   rw [List.getElem?_eq_getElem (by omega)] at h2
   have h3 := World.cell?_spot h2
   simpa [Addr.add] using h3
  subst hsp
  have hbl : b < w.heap.size := by
   have h2 := hcell 0 hz
   rw [List.getElem?_eq_getElem (by omega)] at h2
   have h3 := cell_lt h2
   rw [add_plain, add_plain] at h3
   exact h3
  refine ⟨b, o, cl.toArray, elems[i], rfl, hbl, fun j hj => ?_, by simpa using hsz, hd, fun n hn => ?_⟩
  ·have := hcell j (by simpa [hsz] using hj)
   rw [add_plain, add_plain] at this
   simpa [Nat.add_assoc] using this
  ·refine hw n ?_
   simp only [DataW.weights, ht, List.mem_cons, List.mem_append]
   exact Or.inr (Or.inl (weights_all (List.mem_map_of_mem (f := (·.1)) (List.getElem_mem hi)) n hn))

theorem open_text {t : Nat} {fuel : Nat} {cs : List Value} {x : DataW Hd × List MemPlace} (ht : Tryz.prog.underlying t = some .string) (h : DataW.trod enc Tryz.prog w 0 sp held fuel t cs = some x) (hw : ∀ n ∈ x.1.weights Tryz.prog t, n ≤ reachBytes) :
  ∃ s : ByteArray, cs = [.string s] ∧ s.size ≤ 140737488351232 := by
 obtain ⟨s, rfl, rfl, _⟩ := DataW.trod_string ht h
 refine ⟨s, rfl, ?_⟩
 have := hw s.data.toList.length (by simp [DataW.weights])
 simpa [reachBytes] using this
theorem open_num {t : Nat} {fuel : Nat} {cs : List Value} {x : DataW Hd × List MemPlace} (ht : Tryz.prog.underlying t = some (.int .i64)) (h : DataW.trod enc Tryz.prog w 0 sp held fuel t cs = some x) :
  ∃ n : Int, cs = [.int .i64 n] ∧ -9223372036854775808 ≤ n ∧ n ≤ 9223372036854775807 := by
 obtain ⟨n, rfl, rfl, hwf⟩ := DataW.trod_int ht h
 refine ⟨n, rfl, ?_⟩
 simp only [Lit.wf, Bool.and_eq_true, decide_eq_true_eq] at hwf
 exact hwf

theorem open_rows {n : Nat} {a : Option Addr} {fuel : Nat}
  (ih : ∀ (cs : List Value) (x : DataW Hd × List MemPlace), DataW.trod enc Tryz.prog w 0 sp held fuel 26 cs = some x → (∀ n ∈ x.1.weights Tryz.prog 26, n ≤ reachBytes) → ∃ v, RV w w.heap.size v cs.toArray)
  (h : ∀ i, i < n → ∃ b o cl d, a = some ⟨b, o, none⟩ ∧ b < w.heap.size ∧ CellsAt w b (o + i * 6) cl ∧ cl.size = 6 ∧ DataW.trod enc Tryz.prog w 0 sp held fuel 26 cl.toList = some d ∧ ∀ n ∈ d.1.weights Tryz.prog 26, n ≤ reachBytes) :
  ∃ (list : List V) (cl : Nat → Array Value), list.length = n ∧ Row w w.heap.size a list.length 6 cl ∧ ∀ (i : Nat) (h : i < list.length), RV w w.heap.size list[i] (cl i) := by
 obtain ⟨l, hl, hq⟩ := exists_list (fun i (p : V × Array Value) => RV w w.heap.size p.1 p.2 ∧ ∃ b o, a = some ⟨b, o, none⟩ ∧ b < w.heap.size ∧ CellsAt w b (o + i * 6) p.2 ∧ p.2.size = 6) n (fun i hi => by
  obtain ⟨b, o, cl, d, h1, h2, h3, h4, h5, h6⟩ := h i hi
  obtain ⟨v, hv⟩ := ih _ _ h5 h6
  exact ⟨(v, cl), by simpa using hv, b, o, h1, h2, h3, h4⟩)
 refine ⟨l.map (·.1), fun i => (l.getD i (⟨0, 0, default, [], [], []⟩, #[])).2, by simpa using hl, fun i hi => ?_, fun i hi => ?_⟩
 ·have hi : i < l.length := by simpa using hi
  have := (hq i hi).2
  simpa [List.getD_eq_getElem?_getD, hi] using this
 ·have hi : i < l.length := by simpa using hi
  have := (hq i hi).1
  simpa [List.getD_eq_getElem?_getD, hi] using this

/-- A value of the type of the laws' arguments that reads IS a tree. -/
theorem rv_of_trod (fuel : Nat) : ∀ (cs : List Value) (x : DataW Hd × List MemPlace), DataW.trod enc Tryz.prog w 0 sp held fuel 26 cs = some x → (∀ n ∈ x.1.weights Tryz.prog 26, n ≤ reachBytes) → ∃ v, RV w w.heap.size v cs.toArray := by
 induction fuel using Nat.strongRecOn with
 | _ fuel IH =>
 intro cs x h hw
 rcases Nat.lt_or_ge fuel 1 with hf | hf
 ·obtain rfl : fuel = 0 := by omega
  simp [DataW.trod] at h
 rcases Nat.lt_or_ge fuel 2 with hf2 | hf2
 ·obtain rfl : fuel = 1 := by omega
  obtain ⟨xs, n, hn, rfl, hl, hxl, hall⟩ := DataW.trod_struct Tryz.underlying26 h
  obtain rfl : n = 0 := by omega
  have := hall 0 _ rfl
  have hxl : xs.length = 6 := hxl
  rw [List.getElem?_eq_getElem (by omega)] at this
  simp [DataW.trod] at this
 ·obtain ⟨fuel, rfl⟩ : ∃ k, fuel = k + 2 := ⟨fuel - 2, by omega⟩
  obtain ⟨xs, n, hn, rfl, hl, hxl, hall⟩ := DataW.trod_struct Tryz.underlying26 h
  obtain rfl : n = fuel + 1 := by omega
  have hcz : Tryz.prog.cellsOf 26 = 6 := by kernel_rfl
  rw [hcz] at hl
  have hxl : xs.length = 6 := hxl
  obtain ⟨c0, c1, c2, c3, c4, c5, rfl⟩ := list_six hl
  obtain ⟨x0, x1, x2, x3, x4, x5, rfl⟩ := list_six hxl
  have h0 : DataW.trod enc Tryz.prog w 0 sp held (fuel + 1) 22 (([c0, c1, c2, c3, c4, c5].drop 0).take (Tryz.prog.cellsOf 22)) = some x0 := hall 0 { name := "Kind", type := 22, offset := 0, embedded := false, tag := "", pkgPath := "", byteOffset := 0 } rfl
  have h1 : DataW.trod enc Tryz.prog w 0 sp held (fuel + 1) 3 (([c0, c1, c2, c3, c4, c5].drop 1).take (Tryz.prog.cellsOf 3)) = some x1 := hall 1 { name := "Half", type := 3, offset := 1, embedded := false, tag := "", pkgPath := "", byteOffset := 8 } rfl
  have h2 : DataW.trod enc Tryz.prog w 0 sp held (fuel + 1) 9 (([c0, c1, c2, c3, c4, c5].drop 2).take (Tryz.prog.cellsOf 9)) = some x2 := hall 2 { name := "Text", type := 9, offset := 2, embedded := false, tag := "", pkgPath := "", byteOffset := 16 } rfl
  have h3 : DataW.trod enc Tryz.prog w 0 sp held (fuel + 1) 23 (([c0, c1, c2, c3, c4, c5].drop 3).take (Tryz.prog.cellsOf 23)) = some x3 := hall 3 { name := "List", type := 23, offset := 3, embedded := false, tag := "", pkgPath := "", byteOffset := 32 } rfl
  have h4 : DataW.trod enc Tryz.prog w 0 sp held (fuel + 1) 24 (([c0, c1, c2, c3, c4, c5].drop 4).take (Tryz.prog.cellsOf 24)) = some x4 := hall 4 { name := "Keys", type := 24, offset := 4, embedded := false, tag := "", pkgPath := "", byteOffset := 56 } rfl
  have h5 : DataW.trod enc Tryz.prog w 0 sp held (fuel + 1) 23 (([c0, c1, c2, c3, c4, c5].drop 5).take (Tryz.prog.cellsOf 23)) = some x5 := hall 5 { name := "Vals", type := 23, offset := 5, embedded := false, tag := "", pkgPath := "", byteOffset := 80 } rfl
  rw [F.co22] at h0
  rw [F.co3] at h1
  rw [F.co9] at h2
  rw [F.co23] at h3
  rw [F.co24] at h4
  rw [F.co23] at h5
  simp only [List.drop_zero, List.drop_succ_cons, List.take_succ_cons, List.take_zero] at h0 h1 h2 h3 h4 h5
  have hww : ∀ (j t : Nat) (d : DataW Hd), ([22, 3, 9, 23, 24, 23] : List TypeId)[j]? = some t → ([x0.1, x1.1, x2.1, x3.1, x4.1, x5.1] : List (DataW Hd))[j]? = some d → ∀ n ∈ d.weights Tryz.prog t, n ≤ reachBytes := by
   intro j t d hj hd n hn
   refine hw n ?_
   have := DataW.weights_mem_each (P := Tryz.prog) hj hd n hn
   simpa [DataW.weights, Tryz.underlying26] using this
  obtain ⟨k, e0, hk⟩ := open_num Tryz.underlying22 h0
  obtain ⟨hf, e1, hhf⟩ := open_num Tryz.underlying3 h1
  obtain ⟨s, e2, hs⟩ := open_text Tryz.underlying9 h2 (hww 2 _ _ rfl rfl)
  obtain ⟨a3, l3, p3, e3, b3, q3⟩ := open_part Tryz.underlying23 hcz (by omega) (by decide +kernel) h3 (hww 3 _ _ rfl rfl)
  obtain ⟨a4, l4, p4, e4, b4, q4⟩ := open_part Tryz.underlying24 F.co9 (by omega) (by decide +kernel) h4 (hww 4 _ _ rfl rfl)
  obtain ⟨a5, l5, p5, e5, b5, q5⟩ := open_part Tryz.underlying23 hcz (by omega) (by decide +kernel) h5 (hww 5 _ _ rfl rfl)
  simp only [List.cons.injEq, and_true] at e0 e1 e2 e3 e4 e5
  subst e0 e1 e2 e3 e4 e5
  have ih : ∀ (cs : List Value) (x : DataW Hd × List MemPlace), DataW.trod enc Tryz.prog w 0 sp held fuel 26 cs = some x → (∀ n ∈ x.1.weights Tryz.prog 26, n ≤ reachBytes) → ∃ v, RV w w.heap.size v cs.toArray := IH fuel (by omega)
  obtain ⟨list, cl, rfl, hrl, hll⟩ := open_rows ih q3
  obtain ⟨vals, cv, rfl, hrv, hvv⟩ := open_rows ih q5
  obtain ⟨keys, hkl, hkk⟩ := exists_list (fun i (s : ByteArray) => s.size ≤ 140737488351232 ∧ ∃ b o, a4 = some ⟨b, o, none⟩ ∧ b < w.heap.size ∧ CellsAt w b (o + i * 1) #[.string s]) l4 (fun i hi => by
   obtain ⟨b, o, c, d, z1, z2, z3, z4, z5, z6⟩ := q4 i hi
   obtain ⟨s, es, hs⟩ := open_text Tryz.underlying9 z5 z6
   obtain rfl : c = #[.string s] := by cases c; simpa using es
   exact ⟨s, hs, b, o, z1, z2, z3⟩)
  subst hkl
  refine ⟨.mk k hf s list keys vals, .mk cl cv hk hhf hs b3 b4 b5 (fun t ht => ?_) hrl hll (fun i hi => ?_) hrv hvv⟩
  ·obtain ⟨i, hi, rfl⟩ := List.getElem_of_mem ht
   exact (hkk i hi).1
  ·obtain ⟨_, b, o, z1, z2, z3⟩ := hkk i hi
   exact ⟨b, o, z1, z2, by simpa [strCells, List.getD_eq_getElem?_getD, hi] using z3, rfl⟩
end


theorem nfirst : Tryz.prog.globalNamed "unicode/utf8.first" = some 0 := by kernel_rfl
theorem naccept : Tryz.prog.globalNamed "unicode/utf8.acceptRanges" = some 1 := by kernel_rfl
theorem tfirst : (Tryz.prog.globals[0]?).map (·.type) = some 59 := by kernel_rfl
theorem taccept : (Tryz.prog.globals[1]?).map (·.type) = some 62 := by kernel_rfl
theorem cfirst : Tryz.prog.cellsOf 59 = 256 := by kernel_rfl
theorem caccept : Tryz.prog.cellsOf 61 = 2 := by kernel_rfl
theorem ufirst : Tryz.prog.underlying 59 = some (.array 256 5) := by kernel_rfl
theorem uu8 : Tryz.prog.underlying 5 = some (.int .u8) := by kernel_rfl
theorem cu8 : Tryz.prog.cellsOf 5 = 1 := by kernel_rfl
theorem ua16 : Tryz.prog.underlying 62 = some (.array 16 61) := by kernel_rfl
/-- The two tables of package utf8, as a row lists them. -/
theorem tabs_of_laid {W : World} {l : List (String × DataW Unit)} (h : laidMet Tryz.prog l W) (h1 : ("unicode/utf8.first", Lib.firstData) ∈ l) (h2 : ("unicode/utf8.acceptRanges", Lib.acceptData) ∈ l) : Tabs W := by
 have h3 := Lib.laidMet.reads h h1
 have h4 := Lib.laidMet.reads h h2
 refine ⟨fun c hc => ?_, fun i hi => ?_⟩
 ·obtain ⟨g, t, cs, fuel, p, hg, hty, hvar, hd⟩ := h3
  obtain rfl := Option.some.inj (nfirst.symm.trans hg)
  obtain rfl := Option.some.inj (tfirst.symm.trans hty)
  have hcs := Lib.cells_of_tab ufirst uu8 cu8 cfirst hd
  have := World.var?_cell hg hvar c
  rw [this, ← Array.getElem?_toList, hcs]
  simp [Lib.firstTab, hc]
 ·obtain ⟨g, t, cs, fuel, p, hg, hty, hvar, hd⟩ := h4
  obtain rfl := Option.some.inj (naccept.symm.trans hg)
  obtain rfl := Option.some.inj (taccept.symm.trans hty)
  obtain ⟨fuel', d, q, hdi, he⟩ := Lib.array_elem ua16 hd i hi
  simp only [List.getElem?_map, List.getElem?_range hi, Option.map_some, Option.some.injEq] at hdi
  subst hdi
  rw [caccept] at he
  have hcs := Lib.ints_of_struct Tryz.underlying61 (fun j f hj => by
   match j, hj with
   | 0, hj => simp at hj; subst hj; exact ⟨uu8, rfl, cu8⟩
   | 1, hj => simp at hj; subst hj; exact ⟨uu8, rfl, cu8⟩
   | j + 2, hj => simp at hj) (by rw [caccept]; rfl) he
  have e0 := congrArg (·[0]?) hcs
  have e1 := congrArg (·[1]?) hcs
  simp only [List.getElem?_take, List.getElem?_drop] at e0 e1
  constructor
  ·rw [World.var?_cell hg hvar (2 * i), ← Array.getElem?_toList]
   simpa [Nat.mul_comm] using e0
  ·rw [World.var?_cell hg hvar (2 * i + 1), ← Array.getElem?_toList]
   simpa [Nat.mul_comm] using e1
theorem Tabs.size {w : World} (h : Tabs w) : 2 ≤ w.heap.size := by
 have := cell_lt (h.2 0 (by decide)).1
 exact this

end Go.Proofs.YtmbleojlnaofjaaGreatDoor

