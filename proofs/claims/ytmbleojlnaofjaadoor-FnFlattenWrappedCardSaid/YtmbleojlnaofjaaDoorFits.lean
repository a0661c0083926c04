/- Which values fit. -/
import Derived.Test.YtmbleojlnaofjaaDoorRK
import Derived.Test.YtmbleojlnaofjaaDoorO2
import Derived.Test.YtmbleojlnaofjaaDoorFit
import Derived.Test.YtmbleojlnaofjaaDoorFitV
namespace Go.Proofs.YtmbleojlnaofjaaDoor
open Go Go.RowKit D
set_option linter.unusedVariables false
set_option linter.unusedSimpArgs false

theorem zzFits2_any (keys : List ByteArray) (a : Option Addr) (kc B : Nat) (w : World) (hR : RVK w B a keys) (hn : keys.length ≤ 140737488351232) :
    Calls Tryd.prog 23 #[.slice a keys.length kc] w (Ret w [] fun v _ => ∃ r, v = .bool r) := by
  refine calls_of Tryd.func23 rfl rfl rfl rfl ?_
  have FR := Fr.refl [] w
  refine DC.seq ?_
  refine DC.region ?_
  refine DL.y rfl rfl (Y.assign) ?_
  refine DL.nil ?_
  show DC _ _ _ _ _ _
  refine DC.seq ?_
  refine DC.seq ?_
  refine DC.region ?_
  refine DL.y rfl rfl (Y.move) ?_
  refine DL.y rfl rfl (Y.lenS Tryd.underlying24 rfl) ?_
  refine DL.if rfl rfl (Y.gt rfl rfl) (fun c7 => ?_) (fun c7 => ?_)
  · refine DL.nil ?_
    show DC _ _ _ _ _ _
    refine DC.condT rfl ?_
    refine DC.seq ?_
    refine DC.region ?_
    refine DL.y rfl rfl (Y.assign) ?_
    refine DL.nil ?_
    show DC _ _ _ _ _ _
    refine DC.ret ?_
    exact FinQ.ret1 rfl (Ret.mk FR ⟨_, rfl⟩)
  · refine DL.nil ?_
    show DC _ _ _ _ _ _
    refine DC.condF rfl ?_
    refine DC.skip ?_
    show DC _ _ _ _ _ _
    refine DC.seq ?_
    refine DC.seq ?_
    refine DC.region ?_
    refine DL.y rfl rfl (Y.move) ?_
    refine DL.y rfl rfl (Y.lenS Tryd.underlying24 rfl) ?_
    refine DL.y rfl rfl (Y.move) ?_
    refine DL.nil ?_
    show DC _ _ _ _ _ _
    refine DC.block ?_
    refine DC.loop (σ := Nat) [(2, 2), (4, 4), (10, 17)] (fun k => [(10, .int .i64 (k : Int))]) (fun sg wl => Fr [] w wl ∧ (fun k w' => k ≤ keys.length) sg wl) (fun k => keys.length - k) (0) rfl ?_ ?_ ?_
    · exact rfl
    · exact ⟨Fr.refl _ _, Nat.zero_le _⟩
    · rintro k j w1 ⟨f2, hk0⟩
      replace FR := FR.tr0 f2
      replace hR := hR.fr f2 (by intro x hx; simp <;> omega)
      have G3 := f2
      have HG3 := Fr.refl [] w1
      refine DC.seq ?_
      refine DC.region ?_
      refine DL.if rfl rfl (Y.lt rfl rfl) (fun c11 => ?_) (fun c11 => ?_)
      · have hk : k < keys.length := by omega
        obtain ⟨bs, os, rfl, hbs, hkc, hks⟩ := hR k hk
        refine DL.nil ?_
        show DC _ _ _ _ _ _
        refine DC.seq ?_
        refine DC.condT rfl ?_
        refine DC.skip ?_
        show DC _ _ _ _ _ _
        refine DC.seq ?_
        refine DC.block ?_
        refine DC.seq ?_
        refine DC.region ?_
        refine DL.y rfl rfl (Y.index F.sl24 rfl rfl (rfl) (hk)) ?_
        refine DL.y rfl rfl (Y.load F.sc9 rfl hkc) ?_
        refine DL.y rfl rfl (Y.assign) ?_
        refine DL.nil ?_
        show DC _ _ _ _ _ _
        refine DC.seq ?_
        refine DC.region ?_
        refine DL.y rfl rfl (Y.move) ?_
        refine DL.y rfl rfl (Y.lenStr Tryd.underlying9 rfl) ?_
        refine DL.if rfl rfl (Y.gt rfl rfl) (fun c16 => ?_) (fun c16 => ?_)
        · refine DL.nil ?_
          show DC _ _ _ _ _ _
          refine DC.condT rfl ?_
          refine DC.seq ?_
          refine DC.region ?_
          refine DL.y rfl rfl (Y.assign) ?_
          refine DL.nil ?_
          show DC _ _ _ _ _ _
          refine DC.ret ?_
          exact FinQ.ret1 rfl (Ret.mk FR ⟨_, rfl⟩)
        · refine DL.nil ?_
          show DC _ _ _ _ _ _
          refine DC.condF rfl ?_
          refine DC.skip ?_
          show DC _ _ _ _ _ _
          refine DC.region ?_
          refine DL.y rfl rfl (Y.addI (c := ((k + 1 : Nat) : Int)) rfl rfl (by omega) (by omega) (by omega)) ?_
          refine DL.y rfl rfl (Y.move) ?_
          refine DL.nil ?_
          exact ⟨k + 1, ⟨G3, hk⟩, by show keys.length - (k + 1) < keys.length - k; omega, rfl⟩
      · refine DL.nil ?_
        show DC _ _ _ _ _ _
        refine DC.seq ?_
        refine DC.condF rfl ?_
        refine DC.exit ?_
        show DC _ _ _ _ _ _
        refine DC.seq ?_
        refine DC.region ?_
        refine DL.y rfl rfl (Y.assign) ?_
        refine DL.nil ?_
        show DC _ _ _ _ _ _
        refine DC.ret ?_
        exact FinQ.ret1 rfl (Ret.mk FR ⟨_, rfl⟩)

theorem zzFits1_any (v : V) (cs : Array Value) (B : Nat) (w : World) (hR : RV w B v cs) (hB : B ≤ w.heap.size) : Calls Tryd.prog 7 #[.agg cs] w (Ret w [] fun v _ => ∃ r, v = .bool r) := by
  obtain ⟨kind, half, text, list, keys, vals⟩ := v
  obtain ⟨la, lc, ka, kc, va, vc, rfl⟩ := hR.shape
  obtain ⟨bt, bl, bk, bv, bkind, bhalf⟩ := hR.bounds
  refine calls_of Tryd.func7 rfl rfl rfl rfl ?_
  have FR := Fr.refl [] w
  refine DC.seq ?_
  refine DC.region ?_
  refine DL.boxA rfl rfl rfl ?_
  intro b1 w1 f2 lo1 hi1 hb1
  replace lo1 := Nat.le_trans FR.size lo1
  replace FR := FR.tr0 f2
  replace hR := hR.fr f2 (by intro x hx; simp <;> omega)
  refine DL.y rfl rfl (Y.assign) ?_
  refine DL.nil ?_
  show DC _ _ _ _ _ _
  refine DC.seq ?_
  refine DC.seq ?_
  refine DC.region ?_
  refine DL.y rfl rfl (Y.field F.fd26_2 rfl) ?_
  refine DL.y rfl rfl (Y.loadB F.sc9 rfl hb1 rfl) ?_
  refine DL.y rfl rfl (Y.lenStr Tryd.underlying9 rfl) ?_
  refine DL.if rfl rfl (Y.gt rfl rfl) (fun c6 => ?_) (fun c6 => ?_)
  · refine DL.nil ?_
    show DC _ _ _ _ _ _
    refine DC.condT rfl ?_
    refine DC.seq ?_
    refine DC.region ?_
    refine DL.y rfl rfl (Y.assign) ?_
    refine DL.nil ?_
    show DC _ _ _ _ _ _
    refine DC.ret ?_
    exact FinQ.ret1 rfl (Ret.mk FR ⟨_, rfl⟩)
  · refine DL.nil ?_
    show DC _ _ _ _ _ _
    refine DC.condF rfl ?_
    refine DC.skip ?_
    show DC _ _ _ _ _ _
    refine DC.seq ?_
    refine DC.seq ?_
    refine DC.region ?_
    refine DL.y rfl rfl (Y.field F.fd26_3 rfl) ?_
    refine DL.y rfl rfl (Y.loadB F.sc23 rfl hb1 rfl) ?_
    refine DL.y rfl rfl (Y.lenS Tryd.underlying23 rfl) ?_
    refine DL.if rfl rfl (Y.gt rfl rfl) (fun c10 => ?_) (fun c10 => ?_)
    · refine DL.nil ?_
      show DC _ _ _ _ _ _
      refine DC.condT rfl ?_
      refine DC.seq ?_
      refine DC.region ?_
      refine DL.y rfl rfl (Y.assign) ?_
      refine DL.nil ?_
      show DC _ _ _ _ _ _
      refine DC.ret ?_
      exact FinQ.ret1 rfl (Ret.mk FR ⟨_, rfl⟩)
    · refine DL.nil ?_
      show DC _ _ _ _ _ _
      refine DC.condF rfl ?_
      refine DC.skip ?_
      show DC _ _ _ _ _ _
      refine DC.seq ?_
      refine DC.seq ?_
      refine DC.region ?_
      refine DL.y rfl rfl (Y.field F.fd26_4 rfl) ?_
      refine DL.y rfl rfl (Y.loadB F.sc24 rfl hb1 rfl) ?_
      refine DL.call rfl rfl F.nm23 rfl (zzFits2_any keys _ _ B _ hR.keys bk) ?_
      rintro _ w3 f4 ⟨r, rfl⟩
      replace FR := FR.tr0 f4
      replace hR := hR.fr f4 (by intro x hx; simp <;> omega)
      replace hb1 := f4.blk0 hb1
      replace hi1 := Nat.lt_of_lt_of_le hi1 f4.size
      refine DL.y rfl rfl (Y.not rfl) ?_
      refine DL.nil ?_
      show DC _ _ _ _ _ _
      refine DC.cond rfl (fun c14 => ?_) (fun c14 => ?_)
      · refine DC.seq ?_
        refine DC.region ?_
        refine DL.y rfl rfl (Y.assign) ?_
        refine DL.nil ?_
        show DC _ _ _ _ _ _
        refine DC.ret ?_
        exact FinQ.ret1 rfl (Ret.mk FR ⟨_, rfl⟩)
      · refine DC.skip ?_
        show DC _ _ _ _ _ _
        refine DC.seq ?_
        refine DC.seq ?_
        refine DC.region ?_
        refine DL.y rfl rfl (Y.field F.fd26_5 rfl) ?_
        refine DL.y rfl rfl (Y.loadB F.sc23 rfl hb1 rfl) ?_
        refine DL.y rfl rfl (Y.lenS Tryd.underlying23 rfl) ?_
        refine DL.if rfl rfl (Y.gt rfl rfl) (fun c18 => ?_) (fun c18 => ?_)
        · refine DL.nil ?_
          show DC _ _ _ _ _ _
          refine DC.condT rfl ?_
          refine DC.seq ?_
          refine DC.region ?_
          refine DL.y rfl rfl (Y.assign) ?_
          refine DL.nil ?_
          show DC _ _ _ _ _ _
          refine DC.ret ?_
          exact FinQ.ret1 rfl (Ret.mk FR ⟨_, rfl⟩)
        · refine DL.nil ?_
          show DC _ _ _ _ _ _
          refine DC.condF rfl ?_
          refine DC.skip ?_
          show DC _ _ _ _ _ _
          refine DC.seq ?_
          refine DC.region ?_
          refine DL.y rfl rfl (Y.assign) ?_
          refine DL.nil ?_
          show DC _ _ _ _ _ _
          refine DC.ret ?_
          exact FinQ.ret1 rfl (Ret.mk FR ⟨_, rfl⟩)

theorem Fit_any (v : V) (cs : Array Value) (B : Nat) (w : World) (hR : RV w B v cs) (hB : B ≤ w.heap.size) (h2 : 2 ≤ B) (hT : Tabs w) : Calls Tryd.prog 11 #[.agg cs] w (Ret w [] fun r _ => ∃ ok, r = .bool ok ∧ (ok = true → Good v ∧ v.nodes ≤ 400 ∧ v.bytes ≤ 2000)) := by
  obtain ⟨kind, half, text, list, keys, vals⟩ := v
  obtain ⟨la, lc, ka, kc, va, vc, rfl⟩ := hR.shape
  refine calls_of Tryd.func11 rfl rfl rfl rfl ?_
  have FR := Fr.refl [] w
  refine DC.seq ?_
  refine DC.region ?_
  refine DL.boxA rfl rfl rfl ?_
  intro b1 w1 f2 lo1 hi1 hb1
  replace lo1 := Nat.le_trans FR.size lo1
  replace FR := FR.tr0 f2
  replace hR := hR.fr f2 (by intro x hx; simp <;> omega)
  replace hT := hT.fr f2 (by intro x hx; simp <;> omega)
  refine DL.y rfl rfl (Y.assign) ?_
  refine DL.nil ?_
  show DC _ _ _ _ _ _
  refine DC.seq ?_
  refine DC.region ?_
  refine DL.y rfl rfl (Y.build (cs := lk 0 0 false) (by kernel_rfl)) ?_
  refine DL.boxA rfl rfl rfl ?_
  intro b5 w3 f4 lo5 hi5 hb5
  have lt_b1_b5 : b1 < b5 := Nat.lt_of_lt_of_le hi1 lo5
  replace lo5 := Nat.le_trans FR.size lo5
  replace FR := FR.tr0 f4
  replace hR := hR.fr f4 (by intro x hx; simp <;> omega)
  replace hT := hT.fr f4 (by intro x hx; simp <;> omega)
  replace hb1 := f4.blk0 hb1
  replace hi1 := Nat.lt_of_lt_of_le hi1 f4.size
  refine DL.y rfl rfl (Y.assign) ?_
  refine DL.nil ?_
  show DC _ _ _ _ _ _
  refine DC.seq ?_
  refine DC.region ?_
  refine DL.y rfl rfl (Y.move) ?_
  refine DL.y rfl rfl (Y.loadW rfl hb1 F.ag26) ?_
  refine DL.call rfl rfl F.nm26 rfl (value_any _ _ _ b5 B 0 0 0 false _ (Nat.le_refl _) hR (by omega) h2 hT hb5 (fun _ => by omega) (by omega) (by omega)) ?_
  rintro _ w5 f6 ⟨p1, n1, bad1, hb5, hx⟩
  replace FR := FR.put f6 (by intro i hi; simp only [List.mem_cons, List.mem_singleton, List.not_mem_nil, or_false] at hi; rcases hi with rfl; all_goals (first | (left; simp; done) | (right; omega)))
  replace hR := hR.fr f6 (by intro x hx; simp <;> omega)
  replace hT := hT.fr f6 (by intro x hx; simp <;> omega)
  replace hb1 := f6.blk hb1 (by simp only [List.mem_cons, List.not_mem_nil, or_false, not_or]; omega)
  replace hi1 := Nat.lt_of_lt_of_le hi1 f6.size
  replace hi5 := Nat.lt_of_lt_of_le hi5 f6.size
  refine DL.nil ?_
  show DC _ _ _ _ _ _
  refine DC.seq ?_
  refine DC.region ?_
  refine DL.y rfl rfl (Y.move) ?_
  refine DL.y rfl rfl (Y.nil rfl) ?_
  refine DL.y rfl rfl (Y.field F.fd52_2 rfl) ?_
  refine DL.y rfl rfl (Y.loadB F.sc4 rfl hb5 rfl) ?_
  refine DL.y rfl rfl (Y.not rfl) ?_
  refine DL.y rfl rfl (Y.assign) ?_
  refine DL.nil ?_
  show DC _ _ _ _ _ _
  refine DC.ret ?_
  refine FinQ.ret1 rfl (Ret.mk FR ⟨_, rfl, fun h => ?_⟩)
  obtain ⟨q1, q2, q3, q4, q5, q6⟩ := hx (by simpa using h)
  exact ⟨q2, by omega, by omega⟩

theorem fit_any (a b : V) (ca cb : Array Value) (B : Nat) (w : World) (hA : RV w B a ca) (hB : RV w B b cb) (hBs : B ≤ w.heap.size) (h2 : 2 ≤ B) (hT : Tabs w) : Calls Tryd.prog 8 #[.agg ca, .agg cb] w (Ret w [] fun r _ => ∃ ok, r = .bool ok ∧ (ok = true → (Good a ∧ a.nodes ≤ 400) ∧ (Good b ∧ b.nodes ≤ 400))) := by
  obtain ⟨kinda, halfa, texta, lista, keysa, valsa⟩ := a
  obtain ⟨laa, lca, kaa, kca, vaa, vca, rfl⟩ := hA.shape
  obtain ⟨kindb, halfb, textb, listb, keysb, valsb⟩ := b
  obtain ⟨lab, lcb, kab, kcb, vab, vcb, rfl⟩ := hB.shape
  refine calls_of Tryd.func8 rfl rfl rfl rfl ?_
  have FR := Fr.refl [] w
  refine DC.seq ?_
  refine DC.region ?_
  refine DL.boxA rfl rfl rfl ?_
  intro b2 w1 f2 lo2 hi2 hb2
  replace lo2 := Nat.le_trans FR.size lo2
  replace FR := FR.tr0 f2
  replace hA := hA.fr f2 (by intro x hx; simp <;> omega)
  replace hB := hB.fr f2 (by intro x hx; simp <;> omega)
  replace hT := hT.fr f2 (by intro x hx; simp <;> omega)
  refine DL.boxA rfl rfl rfl ?_
  intro b3 w3 f4 lo3 hi3 hb3
  have lt_b2_b3 : b2 < b3 := Nat.lt_of_lt_of_le hi2 lo3
  replace lo3 := Nat.le_trans FR.size lo3
  replace FR := FR.tr0 f4
  replace hA := hA.fr f4 (by intro x hx; simp <;> omega)
  replace hB := hB.fr f4 (by intro x hx; simp <;> omega)
  replace hT := hT.fr f4 (by intro x hx; simp <;> omega)
  replace hb2 := f4.blk0 hb2
  replace hi2 := Nat.lt_of_lt_of_le hi2 f4.size
  refine DL.y rfl rfl (Y.assign) ?_
  refine DL.nil ?_
  show DC _ _ _ _ _ _
  refine DC.seq ?_
  refine DC.region ?_
  refine DL.y rfl rfl (Y.loadW rfl hb2 F.ag26) ?_
  refine DL.call rfl rfl F.nm11 rfl (Fit_any _ _ B _ hA (by have := FR.size; omega) h2 hT) ?_
  rintro _ w5 f6 ⟨q1, rfl, hr1⟩
  replace FR := FR.tr0 f6
  replace hA := hA.fr f6 (by intro x hx; simp <;> omega)
  replace hB := hB.fr f6 (by intro x hx; simp <;> omega)
  replace hT := hT.fr f6 (by intro x hx; simp <;> omega)
  replace hb2 := f6.blk0 hb2
  replace hi2 := Nat.lt_of_lt_of_le hi2 f6.size
  replace hb3 := f6.blk0 hb3
  replace hi3 := Nat.lt_of_lt_of_le hi3 f6.size
  refine (Bool.eq_false_or_eq_true q1).elim (fun hq1 => ?_) (fun hq1 => ?_)
  · subst hq1
    refine DL.y rfl rfl (Y.move) ?_
    refine DL.y rfl rfl (Y.loadW rfl hb3 F.ag26) ?_
    refine DL.call rfl rfl F.nm11 rfl (Fit_any _ _ B _ hB (by have := FR.size; omega) h2 hT) ?_
    rintro _ w7 f8 ⟨q2, rfl, hr2⟩
    replace FR := FR.tr0 f8
    replace hA := hA.fr f8 (by intro x hx; simp <;> omega)
    replace hB := hB.fr f8 (by intro x hx; simp <;> omega)
    replace hT := hT.fr f8 (by intro x hx; simp <;> omega)
    replace hb2 := f8.blk0 hb2
    replace hi2 := Nat.lt_of_lt_of_le hi2 f8.size
    replace hb3 := f8.blk0 hb3
    replace hi3 := Nat.lt_of_lt_of_le hi3 f8.size
    refine (Bool.eq_false_or_eq_true q2).elim (fun hq2 => ?_) (fun hq2 => ?_)
    · subst hq2
      refine DL.y rfl rfl (Y.pickT rfl) ?_
      refine DL.y rfl rfl (Y.assign) ?_
      refine DL.nil ?_
      show DC _ _ _ _ _ _
      refine DC.ret ?_
      exact FinQ.ret1 rfl (Ret.mk FR ⟨true, rfl, fun h => ⟨⟨(hr1 rfl).1, (hr1 rfl).2.1⟩, ⟨(hr2 rfl).1, (hr2 rfl).2.1⟩⟩⟩)
    · subst hq2
      refine DL.y rfl rfl (Y.pickT rfl) ?_
      refine DL.y rfl rfl (Y.assign) ?_
      refine DL.nil ?_
      show DC _ _ _ _ _ _
      refine DC.ret ?_
      exact FinQ.ret1 rfl (Ret.mk FR ⟨false, rfl, fun h => by cases h⟩)
  · subst hq1
    refine DL.y rfl rfl (Y.move) ?_
    refine DL.skip rfl rfl ?_
    refine DL.skip rfl rfl ?_
    refine DL.y rfl rfl (Y.pickF rfl) ?_
    refine DL.y rfl rfl (Y.assign) ?_
    refine DL.nil ?_
    show DC _ _ _ _ _ _
    refine DC.ret ?_
    exact FinQ.ret1 rfl (Ret.mk FR ⟨false, rfl, fun h => by cases h⟩)


theorem Good.kind0 {kind half : Int} {text : ByteArray} {list : List V} {keys : List ByteArray} {vals : List V} (h : Good (.mk kind half text list keys vals)) : 0 ≤ kind := by cases h with | mk n _ _ => exact n.krange.1

end Go.Proofs.YtmbleojlnaofjaaDoor
