/- Own texts, merged: Same, RD, O10, JS, W2, Fits, Js1, Js5, Js6. -/
import Derived.Test.YtmbleojlnaofjaaGreatDoorMt01
import Derived.Test.YtmbleojlnaofjaaGreatDoorMt02
import Derived.Test.YtmbleojlnaofjaaGreatDoorMt03
import Derived.Maps.AppendAt
import Derived.Laws.OwnMore
/- Same values are the same: spec.Cmp, spec.Same. -/
namespace Go.Proofs.YtmbleojlnaofjaaGreatDoor
open Go Go.RowKit D
set_option linter.unusedVariables false
set_option linter.unusedSimpArgs false

theorem sign_zero (w : World) : Calls Tryz.prog 116 #[.int .i64 0] w (Ret w [] fun v _ => v = .int .i64 0) := by
  refine calls_of Tryz.func116 rfl rfl rfl rfl ?_
  have FR := Fr.refl [] w
  refine DC.seq ?_
  refine DC.region ?_
  refine DL.y rfl rfl (Y.assign) ?_
  refine DL.nil ?_
  show DC _ _ _ _ _ _
  refine DC.seq ?_
  refine DC.block ?_
  refine DC.seq ?_
  refine DC.region ?_
  refine DL.y rfl rfl (Y.move) ?_
  refine DL.if rfl rfl (Y.lt rfl rfl) (fun c5 => ?_) (fun c5 => ?_)
  · exfalso; omega
  · refine DL.y rfl rfl (Y.assign) ?_
    refine DL.nil ?_
    show DC _ _ _ _ _ _
    refine DC.condF rfl ?_
    refine DC.seq ?_
    refine DC.region ?_
    refine DL.y rfl rfl (Y.move) ?_
    refine DL.if rfl rfl (Y.gt rfl rfl) (fun c8 => ?_) (fun c8 => ?_)
    · exfalso; omega
    · refine DL.y rfl rfl (Y.assign) ?_
      refine DL.nil ?_
      show DC _ _ _ _ _ _
      refine DC.condF rfl ?_
      refine DC.skip ?_
      show DC _ _ _ _ _ _
      refine DC.seq ?_
      refine DC.region ?_
      refine DL.y rfl rfl (Y.assign) ?_
      refine DL.nil ?_
      show DC _ _ _ _ _ _
      refine DC.ret ?_
      exact FinQ.ret1 rfl (Ret.mk FR rfl)

theorem texts_same (s : ByteArray) (w : World) : Calls Tryz.prog 117 #[.string s, .string s] w (Ret w [] fun v _ => v = .int .i64 0) := by
  refine calls_of Tryz.func117 rfl rfl rfl rfl ?_
  have FR := Fr.refl [] w
  refine DC.seq ?_
  refine DC.region ?_
  refine DL.y rfl rfl (Y.assign) ?_
  refine DL.nil ?_
  show DC _ _ _ _ _ _
  refine DC.seq ?_
  refine DC.block ?_
  refine DC.seq ?_
  refine DC.region ?_
  refine DL.y rfl rfl (Y.move) ?_
  refine DL.y rfl rfl (Y.move) ?_
  refine DL.ifb rfl rfl (Y.slt rfl rfl) (fun c8 => ?_) (fun c8 => ?_)
  · exact absurd c8 (by rw [less_irr s.toList]; simp)
  · refine DL.y rfl rfl (Y.assign) ?_
    refine DL.nil ?_
    show DC _ _ _ _ _ _
    refine DC.condF rfl ?_
    refine DC.seq ?_
    refine DC.region ?_
    refine DL.y rfl rfl (Y.move) ?_
    refine DL.y rfl rfl (Y.move) ?_
    refine DL.ifb rfl rfl (Y.sgt rfl rfl) (fun c12 => ?_) (fun c12 => ?_)
    · exact absurd c12 (by simp)
    · refine DL.y rfl rfl (Y.assign) ?_
      refine DL.nil ?_
      show DC _ _ _ _ _ _
      refine DC.condF rfl ?_
      refine DC.skip ?_
      show DC _ _ _ _ _ _
      refine DC.seq ?_
      refine DC.region ?_
      refine DL.y rfl rfl (Y.assign) ?_
      refine DL.nil ?_
      show DC _ _ _ _ _ _
      refine DC.ret ?_
      exact FinQ.ret1 rfl (Ret.mk FR rfl)

theorem keys_same (keys : List ByteArray) (a b : Option Addr) (ca cb B : Nat) (w : World) (hA : RVK w B a keys) (hB : RVK w B b keys) (hn : keys.length ≤ 140737488351232) :
    Calls Tryz.prog 118 #[.slice a keys.length ca, .slice b keys.length cb] w (Ret w [] fun v _ => v = .int .i64 0) := by
  refine calls_of Tryz.func118 rfl rfl rfl rfl ?_
  have FR := Fr.refl [] w
  refine DC.seq ?_
  refine DC.region ?_
  refine DL.y rfl rfl (Y.assign) ?_
  refine DL.nil ?_
  show DC _ _ _ _ _ _
  refine DC.seq ?_
  refine DC.seq ?_
  refine DC.region ?_
  refine DL.y rfl rfl (Y.assign) ?_
  refine DL.nil ?_
  show DC _ _ _ _ _ _
  refine DC.block ?_
  refine DC.loop (σ := Nat) [(4, 30)] (fun k => [(5, .int .i64 (k : Int))]) (fun sg wl => Fr [] w wl ∧ (fun k w' => k ≤ keys.length) sg wl) (fun k => keys.length - k) (0) rfl ?_ ?_ ?_
  · exact rfl
  · exact ⟨Fr.refl _ _, Nat.zero_le _⟩
  · rintro k j w1 ⟨f2, hk0⟩
    replace FR := FR.tr0 f2
    replace hA := hA.fr f2 (by intro x hx; simp <;> omega)
    replace hB := hB.fr f2 (by intro x hx; simp <;> omega)
    have G3 := f2
    have HG3 := Fr.refl [] w1
    refine DC.seq ?_
    refine DC.seq ?_
    refine DC.region ?_
    refine DL.y rfl rfl (Y.move) ?_
    refine DL.y rfl rfl (Y.move) ?_
    refine DL.y rfl rfl (Y.lenS Tryz.underlying24 rfl) ?_
    refine DL.if rfl rfl (Y.lt rfl rfl) (fun c10 => ?_) (fun c10 => ?_)
    · have hk : k < keys.length := by omega
      obtain ⟨b1, o1, rfl, hb1, hkc1, hks1⟩ := hA k hk
      obtain ⟨b2, o2, rfl, hb2, hkc2, hks2⟩ := hB k hk
      refine DL.y rfl rfl (Y.move) ?_
      refine DL.y rfl rfl (Y.move) ?_
      refine DL.y rfl rfl (Y.move) ?_
      refine DL.y rfl rfl (Y.lenS Tryz.underlying24 rfl) ?_
      refine DL.if rfl rfl (Y.lt rfl rfl) (fun c15 => ?_) (fun c15 => ?_)
      · refine DL.y rfl rfl (Y.pickT rfl) ?_
        refine DL.nil ?_
        show DC _ _ _ _ _ _
        refine DC.condT rfl ?_
        refine DC.skip ?_
        show DC _ _ _ _ _ _
        refine DC.seq ?_
        refine DC.block ?_
        refine DC.seq ?_
        refine DC.quiet F.mixed (by kernel_rfl) ?_
        refine DQ.y rfl rfl (fun wq fq => Y.move) ?_
        refine DQ.y rfl rfl (fun wq fq => Y.move) ?_
        refine DQ.y rfl rfl (fun wq fq => Y.index F.sl24 rfl rfl (rfl) (hk)) ?_
        refine DQ.y rfl rfl (fun wq fq => Y.load F.sc9 rfl (fq.cell hkc1 (by simp))) ?_
        refine DQ.y rfl rfl (fun wq fq => Y.move) ?_
        refine DQ.y rfl rfl (fun wq fq => Y.move) ?_
        refine DQ.y rfl rfl (fun wq fq => Y.index F.sl24 rfl rfl (rfl) (hk)) ?_
        refine DQ.y rfl rfl (fun wq fq => Y.load F.sc9 rfl (fq.cell hkc2 (by simp))) ?_
        refine DQ.call rfl rfl F.nm117 rfl (fun wq fq => texts_same _ wq) ?_
        refine DQ.y rfl rfl (fun wq fq => Y.assign) ?_
        refine DQ.nil ?_
        intro w4 f5
        replace FR := FR.tr0 f5
        replace G3 := G3.tr0 f5
        replace HG3 := HG3.tr0 f5
        replace hA := hA.fr f5 (by intro x hx; simp <;> omega)
        replace hB := hB.fr f5 (by intro x hx; simp <;> omega)
        show DC _ _ _ _ _ _
        refine DC.seq ?_
        refine DC.region ?_
        refine DL.y rfl rfl (Y.move) ?_
        refine DL.if rfl rfl (Y.ne rfl rfl) (fun c29 => ?_) (fun c29 => ?_)
        · exfalso; omega
        · refine DL.nil ?_
          show DC _ _ _ _ _ _
          refine DC.condF rfl ?_
          refine DC.skip ?_
          show DC _ _ _ _ _ _
          refine DC.region ?_
          refine DL.y rfl rfl (Y.move) ?_
          refine DL.y rfl rfl (Y.addI (c := ((k + 1 : Nat) : Int)) rfl rfl (by omega) (by omega) (by omega)) ?_
          refine DL.y rfl rfl (Y.assign) ?_
          refine DL.nil ?_
          exact ⟨k + 1, ⟨G3, hk⟩, by show keys.length - (k + 1) < keys.length - k; omega, rfl⟩
      · exfalso; omega
    · refine DL.y rfl rfl (Y.move) ?_
      refine DL.skip rfl rfl ?_
      refine DL.skip rfl rfl ?_
      refine DL.skip rfl rfl ?_
      refine DL.skip rfl rfl ?_
      refine DL.y rfl rfl (Y.pickF rfl) ?_
      refine DL.nil ?_
      show DC _ _ _ _ _ _
      refine DC.condF rfl ?_
      refine DC.exit ?_
      show DC _ _ _ _ _ _
      refine DC.seq ?_
      refine DC.region ?_
      refine DL.y rfl rfl (Y.move) ?_
      refine DL.y rfl rfl (Y.lenS Tryz.underlying24 rfl) ?_
      refine DL.y rfl rfl (Y.move) ?_
      refine DL.y rfl rfl (Y.lenS Tryz.underlying24 rfl) ?_
      refine DL.y rfl rfl (Y.subI (c := 0) rfl rfl (by omega) (by omega) (by omega)) ?_
      refine DL.y rfl rfl (Y.assign) ?_
      refine DL.nil ?_
      show DC _ _ _ _ _ _
      refine DC.ret ?_
      exact FinQ.ret1 rfl (Ret.mk FR rfl)


def CmpC (m : Nat) : Prop := ∀ (v : V) (ca cb : Array Value) (B : Nat) (w : World), v.nodes ≤ m → RV w B v ca → RV w B v cb →
    Calls Tryz.prog 69 #[.agg ca, .agg cb] w (Ret w [] fun r _ => r = .int .i64 0)

theorem lists_same (m : Nat) (ih : CmpC m) (list : List V) (a b : Option Addr) (ca cb B : Nat) (w : World) (hm : V.nodesL list ≤ m) (hA : RVL w B a list) (hB : RVL w B b list) (hn : list.length ≤ 140737488351232) :
    Calls Tryz.prog 109 #[.slice a list.length ca, .slice b list.length cb] w (Ret w [] fun v _ => v = .int .i64 0) := by
  refine calls_of Tryz.func109 rfl rfl rfl rfl ?_
  have FR := Fr.refl [] w
  refine DC.seq ?_
  refine DC.region ?_
  refine DL.y rfl rfl (Y.assign) ?_
  refine DL.nil ?_
  show DC _ _ _ _ _ _
  refine DC.seq ?_
  refine DC.seq ?_
  refine DC.region ?_
  refine DL.y rfl rfl (Y.assign) ?_
  refine DL.nil ?_
  show DC _ _ _ _ _ _
  refine DC.block ?_
  refine DC.loop (σ := Nat) [(4, 30)] (fun k => [(5, .int .i64 (k : Int))]) (fun sg wl => Fr [] w wl ∧ (fun k w' => k ≤ list.length) sg wl) (fun k => list.length - k) (0) rfl ?_ ?_ ?_
  · exact rfl
  · exact ⟨Fr.refl _ _, Nat.zero_le _⟩
  · rintro k j w1 ⟨f2, hk0⟩
    replace FR := FR.tr0 f2
    replace hA := hA.fr f2 (by intro x hx; simp <;> omega)
    replace hB := hB.fr f2 (by intro x hx; simp <;> omega)
    have G3 := f2
    have HG3 := Fr.refl [] w1
    refine DC.seq ?_
    refine DC.seq ?_
    refine DC.region ?_
    refine DL.y rfl rfl (Y.move) ?_
    refine DL.y rfl rfl (Y.move) ?_
    refine DL.y rfl rfl (Y.lenS Tryz.underlying23 rfl) ?_
    refine DL.if rfl rfl (Y.lt rfl rfl) (fun c10 => ?_) (fun c10 => ?_)
    · have hk : k < list.length := by omega
      obtain ⟨b1, o1, cl1, rfl, hb1, hc1, hz1, hr1⟩ := hA k hk
      obtain ⟨b2, o2, cl2, rfl, hb2, hc2, hz2, hr2⟩ := hB k hk
      have hle : list[k].nodes ≤ m := by have := nodes_le hk; omega
      refine DL.y rfl rfl (Y.move) ?_
      refine DL.y rfl rfl (Y.move) ?_
      refine DL.y rfl rfl (Y.move) ?_
      refine DL.y rfl rfl (Y.lenS Tryz.underlying23 rfl) ?_
      refine DL.if rfl rfl (Y.lt rfl rfl) (fun c15 => ?_) (fun c15 => ?_)
      · refine DL.y rfl rfl (Y.pickT rfl) ?_
        refine DL.nil ?_
        show DC _ _ _ _ _ _
        refine DC.condT rfl ?_
        refine DC.skip ?_
        show DC _ _ _ _ _ _
        refine DC.seq ?_
        refine DC.block ?_
        refine DC.seq ?_
        refine DC.quiet F.mixed (by kernel_rfl) ?_
        refine DQ.y rfl rfl (fun wq fq => Y.move) ?_
        refine DQ.y rfl rfl (fun wq fq => Y.move) ?_
        refine DQ.y rfl rfl (fun wq fq => Y.index F.sl23 rfl rfl (rfl) (hk)) ?_
        refine DQ.y rfl rfl (fun wq fq => Y.loadAn hz1 F.ag26 rfl (hc1.fr fq (by simp))) ?_
        refine DQ.y rfl rfl (fun wq fq => Y.move) ?_
        refine DQ.y rfl rfl (fun wq fq => Y.move) ?_
        refine DQ.y rfl rfl (fun wq fq => Y.index F.sl23 rfl rfl (rfl) (hk)) ?_
        refine DQ.y rfl rfl (fun wq fq => Y.loadAn hz2 F.ag26 rfl (hc2.fr fq (by simp))) ?_
        refine DQ.call rfl rfl F.nm69 rfl (fun wq fq => ih list[k] cl1 cl2 B wq hle (hr1.fr fq (by intro x hx; simp)) (hr2.fr fq (by intro x hx; simp))) ?_
        refine DQ.y rfl rfl (fun wq fq => Y.assign) ?_
        refine DQ.nil ?_
        intro w4 f5
        replace FR := FR.tr0 f5
        replace G3 := G3.tr0 f5
        replace HG3 := HG3.tr0 f5
        replace hA := hA.fr f5 (by intro x hx; simp <;> omega)
        replace hB := hB.fr f5 (by intro x hx; simp <;> omega)
        show DC _ _ _ _ _ _
        refine DC.seq ?_
        refine DC.region ?_
        refine DL.y rfl rfl (Y.move) ?_
        refine DL.if rfl rfl (Y.ne rfl rfl) (fun c29 => ?_) (fun c29 => ?_)
        · exfalso; omega
        · refine DL.nil ?_
          show DC _ _ _ _ _ _
          refine DC.condF rfl ?_
          refine DC.skip ?_
          show DC _ _ _ _ _ _
          refine DC.region ?_
          refine DL.y rfl rfl (Y.move) ?_
          refine DL.y rfl rfl (Y.addI (c := ((k + 1 : Nat) : Int)) rfl rfl (by omega) (by omega) (by omega)) ?_
          refine DL.y rfl rfl (Y.assign) ?_
          refine DL.nil ?_
          exact ⟨k + 1, ⟨G3, hk⟩, by show list.length - (k + 1) < list.length - k; omega, rfl⟩
      · exfalso; omega
    · refine DL.y rfl rfl (Y.move) ?_
      refine DL.skip rfl rfl ?_
      refine DL.skip rfl rfl ?_
      refine DL.skip rfl rfl ?_
      refine DL.skip rfl rfl ?_
      refine DL.y rfl rfl (Y.pickF rfl) ?_
      refine DL.nil ?_
      show DC _ _ _ _ _ _
      refine DC.condF rfl ?_
      refine DC.exit ?_
      show DC _ _ _ _ _ _
      refine DC.seq ?_
      refine DC.region ?_
      refine DL.y rfl rfl (Y.move) ?_
      refine DL.y rfl rfl (Y.lenS Tryz.underlying23 rfl) ?_
      refine DL.y rfl rfl (Y.move) ?_
      refine DL.y rfl rfl (Y.lenS Tryz.underlying23 rfl) ?_
      refine DL.y rfl rfl (Y.subI (c := 0) rfl rfl (by omega) (by omega) (by omega)) ?_
      refine DL.y rfl rfl (Y.assign) ?_
      refine DL.nil ?_
      show DC _ _ _ _ _ _
      refine DC.ret ?_
      exact FinQ.ret1 rfl (Ret.mk FR rfl)

set_option maxHeartbeats 1000000 in
theorem cmp_step (m : Nat) (ih : CmpC m) : CmpC (m + 1) := by
  intro v ca cb B w hm hA hB
  obtain ⟨kind, half, text, list, keys, vals⟩ := v
  obtain ⟨la, lc, ka, kc, va, vc, rfl⟩ := hA.shape
  obtain ⟨lb, ld, kb, kd, vb, vd, rfl⟩ := hB.shape
  obtain ⟨bt, bl, bk, bv, bkind, bhalf⟩ := hA.bounds
  have hl : V.nodesL list ≤ m := by simp only [V.nodes] at hm; omega
  have hv : V.nodesL vals ≤ m := by simp only [V.nodes] at hm; omega
  refine calls_of Tryz.func69 rfl rfl rfl rfl ?_
  have FR := Fr.refl [] w
  refine DC.seq ?_
  refine DC.region ?_
  refine DL.boxA rfl rfl rfl ?_
  intro b2 w1 f2 lo2 hi2 hb2
  replace lo2 := Nat.le_trans FR.size lo2
  replace FR := FR.tr0 f2
  replace hA := hA.fr f2 (by intro x hx; simp <;> omega)
  replace hB := hB.fr f2 (by intro x hx; simp <;> omega)
  refine DL.boxA rfl rfl rfl ?_
  intro b3 w3 f4 lo3 hi3 hb3
  have lt_b2_b3 : b2 < b3 := Nat.lt_of_lt_of_le hi2 lo3
  replace lo3 := Nat.le_trans FR.size lo3
  replace FR := FR.tr0 f4
  replace hA := hA.fr f4 (by intro x hx; simp <;> omega)
  replace hB := hB.fr f4 (by intro x hx; simp <;> omega)
  replace hb2 := f4.blk0 hb2
  replace hi2 := Nat.lt_of_lt_of_le hi2 f4.size
  refine DL.y rfl rfl (Y.assign) ?_
  refine DL.nil ?_
  show DC _ _ _ _ _ _
  refine DC.seq ?_
  refine DC.block ?_
  refine DC.seq ?_
  refine DC.region ?_
  refine DL.y rfl rfl (Y.field F.fd26_0 rfl) ?_
  refine DL.y rfl rfl (Y.loadB F.sc22 rfl hb2 rfl) ?_
  refine DL.y rfl rfl (Y.field F.fd26_0 rfl) ?_
  refine DL.y rfl rfl (Y.loadB F.sc22 rfl hb3 rfl) ?_
  refine DL.if rfl rfl (Y.ne rfl rfl) (fun c11 => ?_) (fun c11 => ?_)
  · exact absurd rfl c11
  · refine DL.y rfl rfl (Y.assign) ?_
    refine DL.nil ?_
    show DC _ _ _ _ _ _
    refine DC.condF rfl ?_
    refine DC.seq ?_
    refine DC.region ?_
    refine DL.y rfl rfl (Y.field F.fd26_0 rfl) ?_
    refine DL.y rfl rfl (Y.loadB F.sc22 rfl hb2 rfl) ?_
    refine DL.if rfl rfl (Y.eq rfl rfl) (fun c21 => ?_) (fun c21 => ?_)
    · refine DL.y rfl rfl (Y.assign) ?_
      refine DL.nil ?_
      show DC _ _ _ _ _ _
      refine DC.condT rfl ?_
      refine DC.seq ?_
      refine DC.region ?_
      refine DL.y rfl rfl (Y.field F.fd26_1 rfl) ?_
      refine DL.y rfl rfl (Y.loadB F.sc3 rfl hb2 rfl) ?_
      refine DL.y rfl rfl (Y.field F.fd26_1 rfl) ?_
      refine DL.y rfl rfl (Y.loadB F.sc3 rfl hb3 rfl) ?_
      refine DL.y rfl rfl (Y.subI (c := 0) rfl rfl (by omega) (by omega) (by omega)) ?_
      refine DL.call rfl rfl F.nm116 rfl (sign_zero _) ?_
      rintro _ w5 f6 rfl
      replace FR := FR.tr0 f6
      replace hA := hA.fr f6 (by intro x hx; simp <;> omega)
      replace hB := hB.fr f6 (by intro x hx; simp <;> omega)
      replace hb2 := f6.blk0 hb2
      replace hi2 := Nat.lt_of_lt_of_le hi2 f6.size
      replace hb3 := f6.blk0 hb3
      replace hi3 := Nat.lt_of_lt_of_le hi3 f6.size
      refine DL.y rfl rfl (Y.assign) ?_
      refine DL.nil ?_
      show DC _ _ _ _ _ _
      refine DC.ret ?_
      exact FinQ.ret1 rfl (Ret.mk FR rfl)
    · refine DL.y rfl rfl (Y.assign) ?_
      refine DL.nil ?_
      show DC _ _ _ _ _ _
      refine DC.condF rfl ?_
      refine DC.seq ?_
      refine DC.region ?_
      refine DL.y rfl rfl (Y.field F.fd26_0 rfl) ?_
      refine DL.y rfl rfl (Y.loadB F.sc22 rfl hb2 rfl) ?_
      refine DL.if rfl rfl (Y.eq rfl rfl) (fun c31 => ?_) (fun c31 => ?_)
      · refine DL.y rfl rfl (Y.assign) ?_
        refine DL.nil ?_
        show DC _ _ _ _ _ _
        refine DC.condT rfl ?_
        refine DC.seq ?_
        refine DC.region ?_
        refine DL.y rfl rfl (Y.field F.fd26_2 rfl) ?_
        refine DL.y rfl rfl (Y.loadB F.sc9 rfl hb2 rfl) ?_
        refine DL.y rfl rfl (Y.field F.fd26_2 rfl) ?_
        refine DL.y rfl rfl (Y.loadB F.sc9 rfl hb3 rfl) ?_
        refine DL.call rfl rfl F.nm117 rfl (texts_same _ _) ?_
        rintro _ w7 f8 rfl
        replace FR := FR.tr0 f8
        replace hA := hA.fr f8 (by intro x hx; simp <;> omega)
        replace hB := hB.fr f8 (by intro x hx; simp <;> omega)
        replace hb2 := f8.blk0 hb2
        replace hi2 := Nat.lt_of_lt_of_le hi2 f8.size
        replace hb3 := f8.blk0 hb3
        replace hi3 := Nat.lt_of_lt_of_le hi3 f8.size
        refine DL.y rfl rfl (Y.assign) ?_
        refine DL.nil ?_
        show DC _ _ _ _ _ _
        refine DC.ret ?_
        exact FinQ.ret1 rfl (Ret.mk FR rfl)
      · refine DL.y rfl rfl (Y.assign) ?_
        refine DL.nil ?_
        show DC _ _ _ _ _ _
        refine DC.condF rfl ?_
        refine DC.seq ?_
        refine DC.region ?_
        refine DL.y rfl rfl (Y.field F.fd26_0 rfl) ?_
        refine DL.y rfl rfl (Y.loadB F.sc22 rfl hb2 rfl) ?_
        refine DL.if rfl rfl (Y.eq rfl rfl) (fun c40 => ?_) (fun c40 => ?_)
        · refine DL.y rfl rfl (Y.assign) ?_
          refine DL.nil ?_
          show DC _ _ _ _ _ _
          refine DC.condT rfl ?_
          refine DC.seq ?_
          refine DC.region ?_
          refine DL.y rfl rfl (Y.field F.fd26_3 rfl) ?_
          refine DL.y rfl rfl (Y.loadB F.sc23 rfl hb2 rfl) ?_
          refine DL.y rfl rfl (Y.field F.fd26_3 rfl) ?_
          refine DL.y rfl rfl (Y.loadB F.sc23 rfl hb3 rfl) ?_
          refine DL.call rfl rfl F.nm109 rfl (lists_same m ih list _ _ _ _ B _ hl hA.lists hB.lists bl) ?_
          rintro _ w9 f10 rfl
          replace FR := FR.tr0 f10
          replace hA := hA.fr f10 (by intro x hx; simp <;> omega)
          replace hB := hB.fr f10 (by intro x hx; simp <;> omega)
          replace hb2 := f10.blk0 hb2
          replace hi2 := Nat.lt_of_lt_of_le hi2 f10.size
          replace hb3 := f10.blk0 hb3
          replace hi3 := Nat.lt_of_lt_of_le hi3 f10.size
          refine DL.call rfl rfl F.nm116 rfl (sign_zero _) ?_
          rintro _ w11 f12 rfl
          replace FR := FR.tr0 f12
          replace hA := hA.fr f12 (by intro x hx; simp <;> omega)
          replace hB := hB.fr f12 (by intro x hx; simp <;> omega)
          replace hb2 := f12.blk0 hb2
          replace hi2 := Nat.lt_of_lt_of_le hi2 f12.size
          replace hb3 := f12.blk0 hb3
          replace hi3 := Nat.lt_of_lt_of_le hi3 f12.size
          refine DL.y rfl rfl (Y.assign) ?_
          refine DL.nil ?_
          show DC _ _ _ _ _ _
          refine DC.ret ?_
          exact FinQ.ret1 rfl (Ret.mk FR rfl)
        · refine DL.y rfl rfl (Y.assign) ?_
          refine DL.nil ?_
          show DC _ _ _ _ _ _
          refine DC.condF rfl ?_
          refine DC.seq ?_
          refine DC.region ?_
          refine DL.y rfl rfl (Y.field F.fd26_0 rfl) ?_
          refine DL.y rfl rfl (Y.loadB F.sc22 rfl hb2 rfl) ?_
          refine DL.if rfl rfl (Y.eq rfl rfl) (fun c50 => ?_) (fun c50 => ?_)
          · refine DL.y rfl rfl (Y.assign) ?_
            refine DL.nil ?_
            show DC _ _ _ _ _ _
            refine DC.condT rfl ?_
            refine DC.seq ?_
            refine DC.seq ?_
            refine DC.region ?_
            refine DL.y rfl rfl (Y.field F.fd26_4 rfl) ?_
            refine DL.y rfl rfl (Y.loadB F.sc24 rfl hb2 rfl) ?_
            refine DL.y rfl rfl (Y.field F.fd26_4 rfl) ?_
            refine DL.y rfl rfl (Y.loadB F.sc24 rfl hb3 rfl) ?_
            refine DL.call rfl rfl F.nm118 rfl (keys_same keys _ _ _ _ B _ hA.keys hB.keys bk) ?_
            rintro _ w13 f14 rfl
            replace FR := FR.tr0 f14
            replace hA := hA.fr f14 (by intro x hx; simp <;> omega)
            replace hB := hB.fr f14 (by intro x hx; simp <;> omega)
            replace hb2 := f14.blk0 hb2
            replace hi2 := Nat.lt_of_lt_of_le hi2 f14.size
            replace hb3 := f14.blk0 hb3
            replace hi3 := Nat.lt_of_lt_of_le hi3 f14.size
            refine DL.y rfl rfl (Y.assign) ?_
            refine DL.nil ?_
            show DC _ _ _ _ _ _
            refine DC.seq ?_
            refine DC.region ?_
            refine DL.y rfl rfl (Y.move) ?_
            refine DL.if rfl rfl (Y.ne rfl rfl) (fun c57 => ?_) (fun c57 => ?_)
            · exfalso; omega
            · refine DL.nil ?_
              show DC _ _ _ _ _ _
              refine DC.condF rfl ?_
              refine DC.skip ?_
              show DC _ _ _ _ _ _
              refine DC.seq ?_
              refine DC.region ?_
              refine DL.y rfl rfl (Y.field F.fd26_5 rfl) ?_
              refine DL.y rfl rfl (Y.loadB F.sc23 rfl hb2 rfl) ?_
              refine DL.y rfl rfl (Y.field F.fd26_5 rfl) ?_
              refine DL.y rfl rfl (Y.loadB F.sc23 rfl hb3 rfl) ?_
              refine DL.call rfl rfl F.nm109 rfl (lists_same m ih vals _ _ _ _ B _ hv hA.valss hB.valss bv) ?_
              rintro _ w15 f16 rfl
              replace FR := FR.tr0 f16
              replace hA := hA.fr f16 (by intro x hx; simp <;> omega)
              replace hB := hB.fr f16 (by intro x hx; simp <;> omega)
              replace hb2 := f16.blk0 hb2
              replace hi2 := Nat.lt_of_lt_of_le hi2 f16.size
              replace hb3 := f16.blk0 hb3
              replace hi3 := Nat.lt_of_lt_of_le hi3 f16.size
              refine DL.call rfl rfl F.nm116 rfl (sign_zero _) ?_
              rintro _ w17 f18 rfl
              replace FR := FR.tr0 f18
              replace hA := hA.fr f18 (by intro x hx; simp <;> omega)
              replace hB := hB.fr f18 (by intro x hx; simp <;> omega)
              replace hb2 := f18.blk0 hb2
              replace hi2 := Nat.lt_of_lt_of_le hi2 f18.size
              replace hb3 := f18.blk0 hb3
              replace hi3 := Nat.lt_of_lt_of_le hi3 f18.size
              refine DL.y rfl rfl (Y.assign) ?_
              refine DL.nil ?_
              show DC _ _ _ _ _ _
              refine DC.ret ?_
              exact FinQ.ret1 rfl (Ret.mk FR rfl)
          · refine DL.y rfl rfl (Y.assign) ?_
            refine DL.nil ?_
            show DC _ _ _ _ _ _
            refine DC.condF rfl ?_
            refine DC.skip ?_
            show DC _ _ _ _ _ _
            refine DC.seq ?_
            refine DC.region ?_
            refine DL.y rfl rfl (Y.assign) ?_
            refine DL.nil ?_
            show DC _ _ _ _ _ _
            refine DC.ret ?_
            exact FinQ.ret1 rfl (Ret.mk FR rfl)


theorem cmp_any : ∀ m, CmpC m
  | 0 => fun v ca cb B w hm => by have := nodes_pos v; omega
  | m + 1 => cmp_step m (cmp_any m)

theorem same_any (v : V) (ca cb : Array Value) (B : Nat) (w : World) (hA : RV w B v ca) (hB : RV w B v cb) : Calls Tryz.prog 35 #[.agg ca, .agg cb] w (Ret w [] fun r _ => r = .bool true) := by
  have sa := hA.size
  have sb := hB.size
  obtain ⟨kind, half, text, list, keys, vals⟩ := v
  obtain ⟨la, lc, ka, kc, va, vc, rfl⟩ := hA.shape
  obtain ⟨lb, ld, kb, kd, vb, vd, rfl⟩ := hB.shape
  refine calls_of Tryz.func35 rfl rfl rfl rfl ?_
  have FR := Fr.refl [] w
  refine DC.seq ?_
  refine DC.region ?_
  refine DL.boxA rfl rfl rfl ?_
  intro b2 w1 f2 lo2 hi2 hb2
  replace lo2 := Nat.le_trans FR.size lo2
  replace FR := FR.tr0 f2
  replace hA := hA.fr f2 (by intro x hx; simp <;> omega)
  replace hB := hB.fr f2 (by intro x hx; simp <;> omega)
  refine DL.boxA rfl rfl rfl ?_
  intro b3 w3 f4 lo3 hi3 hb3
  have lt_b2_b3 : b2 < b3 := Nat.lt_of_lt_of_le hi2 lo3
  replace lo3 := Nat.le_trans FR.size lo3
  replace FR := FR.tr0 f4
  replace hA := hA.fr f4 (by intro x hx; simp <;> omega)
  replace hB := hB.fr f4 (by intro x hx; simp <;> omega)
  replace hb2 := f4.blk0 hb2
  replace hi2 := Nat.lt_of_lt_of_le hi2 f4.size
  refine DL.y rfl rfl (Y.assign) ?_
  refine DL.nil ?_
  show DC _ _ _ _ _ _
  refine DC.seq ?_
  refine DC.region ?_
  refine DL.y rfl rfl (Y.loadW rfl hb2 F.ag26) ?_
  refine DL.y rfl rfl (Y.loadW rfl hb3 F.ag26) ?_
  refine DL.call rfl rfl F.nm69 rfl (cmp_any _ _ _ _ B _ (Nat.le_refl _) hA hB) ?_
  rintro _ w5 f6 rfl
  replace FR := FR.tr0 f6
  replace hA := hA.fr f6 (by intro x hx; simp <;> omega)
  replace hB := hB.fr f6 (by intro x hx; simp <;> omega)
  replace hb2 := f6.blk0 hb2
  replace hi2 := Nat.lt_of_lt_of_le hi2 f6.size
  replace hb3 := f6.blk0 hb3
  replace hi3 := Nat.lt_of_lt_of_le hi3 f6.size
  refine DL.if rfl rfl (Y.eq rfl rfl) (fun c8 => ?_) (fun c8 => ?_)
  · refine DL.y rfl rfl (Y.assign) ?_
    refine DL.nil ?_
    show DC _ _ _ _ _ _
    refine DC.ret ?_
    exact FinQ.ret1 rfl (Ret.mk FR rfl)
  · exfalso; omega

end Go.Proofs.YtmbleojlnaofjaaGreatDoor

/- Trees of values whose blocks lie where a predicate says; rows of them that are collected. -/
namespace Go.Proofs.YtmbleojlnaofjaaGreatDoor
open Go Go.RowKit D
set_option linter.unusedVariables false
set_option linter.unusedSimpArgs false
inductive RVD (w : World) (D : Nat → Prop) : V → Array Value → Prop
  | mk {kind half : Int} {text : ByteArray} {list : List V} {keys : List ByteArray} {vals : List V} {la ka va : Option Addr} {lc kc vc : Nat} (cl cv : Nat → Array Value)
      (hk : -9223372036854775808 ≤ kind ∧ kind ≤ 9223372036854775807) (hh : -9223372036854775808 ≤ half ∧ half ≤ 9223372036854775807) (ht : text.size ≤ 140737488351232)
      (ln : list.length ≤ 140737488351232) (kn : keys.length ≤ 140737488351232) (vn : vals.length ≤ 140737488351232) (ks : ∀ k ∈ keys, k.size ≤ 140737488351232)
      (hl : RowD w D la list.length 6 cl) (rl : ∀ (i : Nat) (h : i < list.length), RVD w D list[i] (cl i))
      (hks : RowD w D ka keys.length 1 (strCells keys))
      (hv : RowD w D va vals.length 6 cv) (rv : ∀ (i : Nat) (h : i < vals.length), RVD w D vals[i] (cv i)) :
      RVD w D (.mk kind half text list keys vals) #[.int .i64 kind, .int .i64 half, .string text, .slice la list.length lc, .slice ka keys.length kc, .slice va vals.length vc]
theorem RVD.fr {S : List Nat} {w w' : World} {D : Nat → Prop} {v : V} {cs : Array Value} (h : RVD w D v cs) (f : Fr S w w') (hs : ∀ b, D b → b ∉ S) : RVD w' D v cs := by
  induction h with
  | mk cl cv hk hh ht ln kn vn ks hl rl hks hv rv ih1 ih2 => exact .mk cl cv hk hh ht ln kn vn ks (hl.fr f hs) ih1 (hks.fr f hs) (hv.fr f hs) ih2
theorem RVD.mono {w : World} {D D' : Nat → Prop} {v : V} {cs : Array Value} (h : RVD w D v cs) (hd : ∀ b, D b → D' b) : RVD w D' v cs := by
  induction h with
  | mk cl cv hk hh ht ln kn vn ks hl rl hks hv rv ih1 ih2 => exact .mk cl cv hk hh ht ln kn vn ks (hl.mono hd) ih1 (hks.mono hd) (hv.mono hd) ih2
theorem RVD.size {w : World} {D : Nat → Prop} {v : V} {cs : Array Value} (h : RVD w D v cs) : cs.size = 6 := by cases h; rfl
theorem RVD.one {w : World} {D : Nat → Prop} {v : V} {cs : Array Value} (h : RVD w D v cs) : cs.all (·.oneCell') = true := by cases h; simp [Value.oneCell']
theorem RowD.toRow {w : World} {D : Nat → Prop} {B : Nat} {a : Option Addr} {n sz : Nat} {cl : Nat → Array Value} (h : RowD w D a n sz cl) (hd : ∀ b, D b → b < B) : Row w B a n sz cl :=
  fun i hi => let ⟨b, o, h1, h2, h3, h4⟩ := h i hi; ⟨b, o, h1, hd b h2, h3, h4⟩
theorem RVD.toRV {w : World} {D : Nat → Prop} {B : Nat} {v : V} {cs : Array Value} (h : RVD w D v cs) (hd : ∀ b, D b → b < B) : RV w B v cs := by
  induction h with
  | mk cl cv hk hh ht ln kn vn ks hl rl hks hv rv ih1 ih2 => exact .mk cl cv hk hh ht ln kn vn ks (hl.toRow hd) ih1 (hks.toRow hd) (hv.toRow hd) ih2
theorem RV.toD {w : World} {B : Nat} {v : V} {cs : Array Value} (h : RV w B v cs) : RVD w (· < B) v cs := by
  induction h with
  | mk cl cv hk hh ht ln kn vn ks hl rl hks hv rv ih1 ih2 => exact .mk cl cv hk hh ht ln kn vn ks hl ih1 hks hv ih2
theorem RV.lt {w : World} {B B' : Nat} {v : V} {cs : Array Value} (h : RV w B v cs) (hb : B ≤ B') : RV w B' v cs := h.toD.toRV (fun b h => Nat.lt_of_lt_of_le h hb)
/-- What lies in a world lies below its end. -/
theorem RVD.live {w : World} {D : Nat → Prop} {v : V} {cs : Array Value} (h : RVD w D v cs) : RV w w.heap.size v cs := by
  have row : ∀ {a : Option Addr} {n sz : Nat} {cl : Nat → Array Value}, 0 < sz → RowD w D a n sz cl → Row w w.heap.size a n sz cl := fun hz h i hi => by
    obtain ⟨b, o, h1, h2, h3, h4⟩ := h i hi
    refine ⟨b, o, h1, ?_, h3, h4⟩
    have := h3.cell 0 (v := (_ : Array Value)[0]'(by rw [h4]; exact hz)) (by simp [h4, hz])
    exact World.block_lt_of_cell? w _ this
  induction h with
  | mk cl cv hk hh ht ln kn vn ks hl rl hks hv rv ih1 ih2 => exact .mk cl cv hk hh ht ln kn vn ks (row (by decide) hl) ih1 (row (by decide) hks) (row (by decide) hv) ih2

/-! ### What is collected: cells of values -/
def flatC (css : List (Array Value)) : List Value := css.flatMap (·.toList)
theorem flatC_snoc (css : List (Array Value)) (c : Array Value) : flatC (css ++ [c]) = flatC css ++ c.toList := by simp [flatC]
theorem flatC_get {sz : Nat} : ∀ {css : List (Array Value)}, (∀ c ∈ css, c.size = sz) → ∀ (i j : Nat) (hi : i < css.length), j < sz → (flatC css)[i * sz + j]? = css[i][j]?
  | [], _, i, j, hi, _ => by cases hi
  | c :: css, h, i, j, hi, hj => by
    have hc : c.size = sz := h c (by simp)
    have hcl : c.toList.length = sz := by simpa using hc
    cases i with
    | zero =>
      simp only [flatC, List.flatMap_cons, Nat.zero_mul, Nat.zero_add, List.getElem_cons_zero]
      rw [List.getElem?_append_left (by omega)]; simp
    | succ i =>
      have := flatC_get (sz := sz) (css := css) (fun c hc => h c (by simp [hc])) i j (by simpa using hi) hj
      simp only [flatC] at this
      simp only [flatC, List.flatMap_cons, List.getElem_cons_succ]
      rw [List.getElem?_append_right (by rw [hcl, Nat.succ_mul]; omega), hcl, ← this]
      congr 1
      rw [Nat.succ_mul]; omega
theorem flatC_len {sz : Nat} : ∀ {css : List (Array Value)}, (∀ c ∈ css, c.size = sz) → (flatC css).length = css.length * sz
  | [], _ => by simp [flatC]
  | c :: css, h => by
    have hc : c.toList.length = sz := by simpa using h c (by simp)
    have := flatC_len (sz := sz) (css := css) (fun c hc => h c (by simp [hc]))
    simp only [flatC] at this
    simp only [flatC, List.flatMap_cons, List.length_append, List.length_cons, this, hc]
    rw [Nat.succ_mul]; omega
/-- A row that is owned is a row. -/
theorem row_of_own {w : World} {B e sz n : Nat} {v : Value} {css : List (Array Value)} (h : w.ownsRow B e sz v n (flatC css)) (hs : ∀ c ∈ css, c.size = sz) (hn : css.length = n) (hz : 0 < sz) :
    ∃ a c, v = .slice a n c ∧ RowD w (fun b => v.ownBlock = some b) a n sz (fun i => css.getD i #[]) := by
  obtain ⟨a, cap, rfl, hl, hc⟩ := own_cells h
  refine ⟨a, cap, rfl, fun i hi => ?_⟩
  obtain ⟨b, rfl, hb1, hb2, hcell⟩ := hc i hi
  have hi' : i < css.length := by omega
  have hci : css[i].size = sz := hs _ (List.getElem_mem hi')
  refine ⟨b, 0, rfl, rfl, fun j hj => ?_, by simp [List.getD_eq_getElem?_getD, hi', hci]⟩
  have hj' : j < sz := by simpa [List.getD_eq_getElem?_getD, hi', hci] using hj
  have := hcell j hj'
  rw [flatC_get hs i j hi' hj'] at this
  simp only [List.getD_eq_getElem?_getD, List.getElem?_eq_getElem hi', Option.getD_some, Nat.zero_add]
  exact this

/-! ### A row of values that is collected -/
/-- The values of l met so far (css: their cells) lie in an own row from B on; all their blocks lie in [B, H), none is the row's own, none is of X. -/
structure ColV (w : World) (VT B H : Nat) (X : Nat → Prop) (l : List V) (k : Nat) (sl : Value) (css : List (Array Value)) : Prop where
  len : css.length = k
  own : w.ownsRow B VT 6 sl k (flatC css)
  lt : ∀ b, sl.ownBlock = some b → b < H ∧ ¬ X b
  six : ∀ c ∈ css, c.size = 6
  rv : ∀ (i : Nat) (h1 : i < css.length) (h2 : i < l.length), RVD w (fun b => B ≤ b ∧ b < H ∧ sl.ownBlock ≠ some b ∧ ¬ X b) l[i] css[i]
section
variable {S : List Nat} {w w' : World} {VT B H k : Nat} {X : Nat → Prop} {l : List V} {sl : Value} {css : List (Array Value)}
theorem ColV.nil (w : World) (VT B H : Nat) (X : Nat → Prop) (l : List V) : ColV w VT B H X l 0 (.slice none 0 0) [] :=
  ⟨rfl, World.ownsRow_nil _ _ _ _, (fun b h => by simp [Value.ownBlock] at h), (fun c h => by cases h), (fun i h => by cases h)⟩
theorem ColV.fr (h : ColV w VT B H X l k sl css) (f : Fr S w w') (hs : ∀ b ∈ S, b < B ∨ H ≤ b ∨ X b) : ColV w' VT B H X l k sl css := by
  refine ⟨h.len, ownsRow_fr h.own f (fun b hb hv => ?_), h.lt, h.six, fun i h1 h2 => (h.rv i h1 h2).fr f (fun b hb hm => ?_)⟩
  · have h1 := h.lt b hv
    have h2 := (own_ge h.own b (mem_ownL.2 hv)).1
    rcases hs b hb with h | h | h
    · omega
    · omega
    · exact h1.2 h
  · rcases hs b hm with h | h | h
    · omega
    · omega
    · exact hb.2.2.2 h
theorem ColV.up {H' : Nat} (h : ColV w VT B H X l k sl css) (hh : H ≤ H') : ColV w VT B H' X l k sl css :=
  ⟨h.len, h.own, fun b hb => ⟨Nat.lt_of_lt_of_le (h.lt b hb).1 hh, (h.lt b hb).2⟩, h.six, fun i h1 h2 => (h.rv i h1 h2).mono (fun b hb => ⟨hb.1, Nat.lt_of_lt_of_le hb.2.1 hh, hb.2.2⟩)⟩
theorem ColV.base {B' : Nat} (h : ColV w VT B H X l k sl css) (hh : B' ≤ B) : ColV w VT B' H X l k sl css :=
  ⟨h.len, own_base h.own hh, h.lt, h.six, fun i h1 h2 => (h.rv i h1 h2).mono (fun b hb => ⟨Nat.le_trans hh hb.1, hb.2⟩)⟩
theorem ColV.exch {X' : Nat → Prop} (h : ColV w VT B H X l k sl css) (hx : ∀ b, b < H → ¬ X b → ¬ X' b) : ColV w VT B H X' l k sl css :=
  ⟨h.len, h.own, fun b hb => ⟨(h.lt b hb).1, hx b (h.lt b hb).1 (h.lt b hb).2⟩, h.six, fun i h1 h2 => (h.rv i h1 h2).mono (fun b hb => ⟨hb.1, hb.2.1, hb.2.2.1, hx b hb.2.1 hb.2.2.2⟩)⟩
/-- One more. -/
theorem ColV.snoc {sl' : Value} {ce : Array Value} (h : ColV w VT B H X l k sl css) (hk : k < l.length) (hH : H ≤ w.heap.size)
    (hce : RVD w (fun b => B ≤ b ∧ b < w.heap.size ∧ sl.ownBlock ≠ some b ∧ ¬ X b) l[k] ce) (hX : ¬ X w.heap.size) (f : Fr (ownL sl) w w') (ho : w'.ownsRow B VT 6 sl' (k + 1) (flatC css ++ ce.toList)) (hat : sl'.ownBlock = sl.ownBlock ∨ sl'.ownBlock = some w.heap.size) :
    ColV w' VT B w'.heap.size X l (k + 1) sl' (css ++ [ce]) := by
  have hsz := f.size
  have hnew : ∀ b, b < w.heap.size → sl.ownBlock ≠ some b → sl'.ownBlock ≠ some b := fun b hb hne => by
    rcases hat with h1 | h1
    · rw [h1]; exact hne
    · rw [h1]; intro h2; cases h2; omega
  refine ⟨by simp [h.len], by rw [flatC_snoc]; exact ho, fun b hb => ⟨(own_ge ho b (mem_ownL.2 hb)).2, ?_⟩, fun c hc => ?_, fun i h1 h2 => ?_⟩
  · rcases hat with h1 | h1
    · exact (h.lt b (h1 ▸ hb)).2
    · rw [h1] at hb; cases hb; exact hX
  · rcases List.mem_append.1 hc with hc | hc
    · exact h.six c hc
    · rw [List.mem_singleton.1 hc]; exact hce.size
  · by_cases hi' : i < css.length
    · have e : (css ++ [ce])[i] = css[i] := List.getElem_append_left hi'
      rw [e]
      refine ((h.rv i hi' h2).fr f (fun b hb hm => hb.2.2.1 (mem_ownL.1 hm))).mono (fun b hb => ⟨hb.1, by omega, hnew b (by omega) hb.2.2.1, hb.2.2.2⟩)
    · have hik : i = k := by simp only [List.length_append, List.length_singleton] at h1; have := h.len; omega
      subst hik
      have e : (css ++ [ce])[i] = ce := by rw [List.getElem_append_right (by omega)]; simp [h.len]
      rw [e]
      exact (hce.fr f (fun b hb hm => hb.2.2.1 (mem_ownL.1 hm))).mono (fun b hb => ⟨hb.1, by omega, hnew b (by omega) hb.2.2.1, hb.2.2.2⟩)
theorem ColV.done (h : ColV w VT B H X l l.length sl css) :
    ∃ a c, sl = .slice a l.length c ∧ RowD w (fun b => B ≤ b ∧ b < H) a l.length 6 (fun i => css.getD i #[]) ∧ ∀ (i : Nat) (hi : i < l.length), RVD w (fun b => B ≤ b ∧ b < H) l[i] (css.getD i #[]) := by
  obtain ⟨a, c, hv, hr⟩ := row_of_own h.own h.six h.len (by decide)
  refine ⟨a, c, hv, hr.mono (fun b hb => ⟨(own_ge h.own b (mem_ownL.2 hb)).1, (h.lt b hb).1⟩), fun i hi => ?_⟩
  have hi' : i < css.length := by rw [h.len]; exact hi
  have e : css.getD i #[] = css[i] := by simp [List.getD_eq_getElem?_getD, hi']
  rw [e]
  exact (h.rv i hi' hi).mono (fun b hb => ⟨hb.1, hb.2.1⟩)
theorem ColV.one (h : ColV w VT B H X l k sl css) : sl.oneCell' = true := by
  obtain ⟨a, c, rfl, _⟩ := own_cells h.own; rfl
end
/-- Keys and values that are collected side by side. -/
structure KV (w : World) (VT St B H : Nat) (keys : List ByteArray) (k1 : Nat) (slk : Value) (vals : List V) (k2 : Nat) (slv : Value) (css : List (Array Value)) : Prop where
  ko : w.ownsRow B St 1 slk k1 ((keys.take k1).map Value.string)
  kl : ∀ b, slk.ownBlock = some b → b < H
  vo : ColV w VT B H (fun b => slk.ownBlock = some b) vals k2 slv css
section
variable {S : List Nat} {w w' : World} {VT St B H k1 k2 : Nat} {keys : List ByteArray} {slk slv slk' slv' : Value} {vals : List V} {css : List (Array Value)} {ce : Array Value}
theorem KV.nil (w : World) (VT St B H : Nat) (keys : List ByteArray) (vals : List V) : KV w VT St B H keys 0 (.slice none 0 0) vals 0 (.slice none 0 0) [] :=
  ⟨World.ownsRow_nil _ _ _ _, (fun b h => by simp [Value.ownBlock] at h), ColV.nil _ _ _ _ _ _⟩
theorem KV.fr (h : KV w VT St B H keys k1 slk vals k2 slv css) (f : Fr S w w') (hs : ∀ b ∈ S, b < B ∨ H ≤ b) : KV w' VT St B H keys k1 slk vals k2 slv css := by
  refine ⟨ownsRow_fr h.ko f (fun b hb hv => ?_), h.kl, h.vo.fr f (fun b hb => by rcases hs b hb with h | h; exact Or.inl h; exact Or.inr (Or.inl h))⟩
  have h1 := h.kl b hv
  have h2 := (own_ge h.ko b (mem_ownL.2 hv)).1
  have := hs b hb
  omega
theorem KV.up {H' : Nat} (h : KV w VT St B H keys k1 slk vals k2 slv css) (hh : H ≤ H') : KV w VT St B H' keys k1 slk vals k2 slv css :=
  ⟨h.ko, fun b hb => Nat.lt_of_lt_of_le (h.kl b hb) hh, h.vo.up hh⟩
theorem KV.addK (h : KV w VT St B w.heap.size keys k1 slk vals k2 slv css) (hk : k1 < keys.length) (f : Fr (ownL slk) w w') (ho : w'.ownsRow B St 1 slk' (k1 + 1) ((keys.take k1).map Value.string ++ [Value.string keys[k1]])) (hat : slk'.ownBlock = slk.ownBlock ∨ slk'.ownBlock = some w.heap.size) :
    KV w' VT St B w'.heap.size keys (k1 + 1) slk' vals k2 slv css := by
  refine ⟨by rw [List.take_succ_eq_append_getElem hk, List.map_append]; exact ho, fun b hb => (own_ge ho b (mem_ownL.2 hb)).2, ((h.vo.fr f (fun b hb => Or.inr (Or.inr (mem_ownL.1 hb)))).exch (fun b hb hn => ?_)).up f.size⟩
  rcases hat with h1 | h1
  · rw [h1]; exact hn
  · rw [h1]; intro h2; cases h2; omega
theorem KV.addV (h : KV w VT St B w.heap.size keys k1 slk vals k2 slv css) (hk : k2 < vals.length) (hce : RVD w (fun b => B ≤ b ∧ b < w.heap.size ∧ slv.ownBlock ≠ some b ∧ ¬ slk.ownBlock = some b) vals[k2] ce) (f : Fr (ownL slv) w w') (ho : w'.ownsRow B VT 6 slv' (k2 + 1) (flatC css ++ ce.toList)) (hat : slv'.ownBlock = slv.ownBlock ∨ slv'.ownBlock = some w.heap.size) :
    KV w' VT St B w'.heap.size keys k1 slk vals (k2 + 1) slv' (css ++ [ce]) := by
  refine ⟨ownsRow_fr h.ko f (fun b hb hv => (h.vo.lt b (mem_ownL.1 hb)).2 hv), fun b hb => Nat.lt_of_lt_of_le (h.kl b hb) f.size, h.vo.snoc hk (Nat.le_refl _) hce (fun hx => Nat.lt_irrefl _ (h.kl _ hx)) f ho hat⟩
/-- An element that waits while the keys grow. -/
theorem off_addK {v : V} (h : RVD w (fun b => B ≤ b ∧ b < w.heap.size ∧ slv.ownBlock ≠ some b ∧ ¬ slk.ownBlock = some b) v ce) (f : Fr (ownL slk) w w') (hat : slk'.ownBlock = slk.ownBlock ∨ slk'.ownBlock = some w.heap.size) :
    RVD w' (fun b => B ≤ b ∧ b < w'.heap.size ∧ slv.ownBlock ≠ some b ∧ ¬ slk'.ownBlock = some b) v ce := by
  have hsz := f.size
  refine (h.fr f (fun b hb hm => hb.2.2.2 (mem_ownL.1 hm))).mono (fun b hb => ⟨hb.1, by omega, hb.2.2.1, ?_⟩)
  rcases hat with h1 | h1
  · rw [h1]; exact hb.2.2.2
  · rw [h1]; intro h2; cases h2; omega
theorem off_new {v : V} {a b : Value} (h : RVD w (fun x => B ≤ x ∧ x < w.heap.size ∧ a.ownBlock ≠ some x ∧ ¬ b.ownBlock = some x) v ce) (f : Fr [] w w') : RVD w' (fun x => B ≤ x ∧ x < w'.heap.size ∧ a.ownBlock ≠ some x ∧ ¬ b.ownBlock = some x) v ce :=
  (h.fr f (fun b hb hm => by cases hm)).mono (fun x hx => ⟨hx.1, Nat.lt_of_lt_of_le hx.2.1 f.size, hx.2.2⟩)
end
/-- What is collected of texts. -/
theorem row_keys {w : World} {St B H : Nat} {keys : List ByteArray} {sl : Value} (h : w.ownsRow B St 1 sl keys.length (keys.map Value.string)) (hlt : ∀ b, sl.ownBlock = some b → b < H) :
    ∃ a c, sl = .slice a keys.length c ∧ RowD w (fun b => B ≤ b ∧ b < H) a keys.length 1 (strCells keys) := by
  obtain ⟨a, cap, rfl, hl, hc⟩ := own_cells h
  refine ⟨a, cap, rfl, fun i hi => ?_⟩
  obtain ⟨b, rfl, hb1, hb2, hcell⟩ := hc i hi
  refine ⟨b, 0, rfl, ⟨hb1, hlt b rfl⟩, fun j hj => ?_, rfl⟩
  have hj0 : j = 0 := by have : j < 1 := hj; omega
  subst hj0
  have := hcell 0 (by omega)
  rw [Nat.zero_add]
  rw [this]
  simp [strCells, hi]
/-- What a list of the program's own values is, with what lies behind it. -/
structure InL (w : World) (D : Nat → Prop) (a : Option Addr) (l : List V) (xs : Nat → Value) : Prop where
  row : RowD w D a l.length 1 (fun i => #[xs i])
  gv : ∀ (i : Nat) (h : i < l.length), GV w D l[i] (xs i)
theorem InL.fr {S : List Nat} {w w' : World} {D : Nat → Prop} {a : Option Addr} {l : List V} {xs : Nat → Value} (h : InL w D a l xs) (f : Fr S w w') (hs : ∀ b, D b → b ∉ S) : InL w' D a l xs := ⟨h.row.fr f hs, fun i hi => (h.gv i hi).fr f hs⟩
theorem bytes_le {l : List V} {k : Nat} (h : k < l.length) : l[k].bytes ≤ V.bytesL l := by
  induction l generalizing k with
  | nil => cases h
  | cons v l ih =>
    cases k with
    | zero => simp [V.bytesL]
    | succ k => have := ih (k := k) (by simpa using h); simp only [List.getElem_cons_succ, V.bytesL]; omega
theorem key_le {l : List ByteArray} {s : ByteArray} (h : s ∈ l) : s.size ≤ bytesK l := by
  induction l with
  | nil => cases h
  | cons v l ih =>
    rcases List.mem_cons.1 h with rfl | h
    · simp [bytesK]
    · have := ih h; simp only [bytesK, List.map_cons, List.sum_cons] at this ⊢; omega

/-! ### append, with the place of the new slice -/
namespace D
section
variable {P : Program} {n : Nat} {e : Env} {w : World} {ops rest : List Oper} {K : Env → World → Prop} {ty : TypeId} {pos : String} {af : Array Edge} {g : Option (Nat × Bool)}
theorem DL.appendAt {s x : Operand} {t el size bytes d B m c N b o : Nat} {v : Value} {xs : List Value} {news : Array Value} (hg : wantB ops e g = true) (hn : Nat.blt d n = true) (ht : eltT P t el size bytes = true) (hs : ev e s = v) (hx : ev e x = .slice (some ⟨b, o, none⟩) m c)
    (hown : w.ownsRow B el size v N xs) (hb : CellsAt w b o news) (hl : news.size = m * size) (h1 : news.all (·.oneCell') = true) (hby : (N + m) * bytes ≤ 140737488355328) (hm : N + m ≤ 9223372036854775807) (hB : B ≤ w.heap.size)
    (k : ∀ v' w', Fr (ownL v) w w' → w'.ownsRow B el size v' (N + m) (xs ++ news.toList) → (v'.ownBlock = v.ownBlock ∨ v'.ownBlock = some w.heap.size) → DL P n ops rest (upd e d v') w' K) :
    DL P n ops (⟨some d, .call ⟨.builtin .append, #[s, x], #[t, t]⟩, ty, pos, af, g⟩ :: rest) e w K := by
  obtain ⟨i, z, k1, k2, k3, k4, k5, k6, k7, k8⟩ := eltT_spec ht
  obtain ⟨v', w', hrun, ho, hgr, _, hat⟩ := run_append_own_at (P := P) w B t ty el i z size bytes k1 k2 k5 k3 k4 k6 k7 v N xs hown ⟨b, o, none⟩ m c news.toList (by simpa using hl)
    (fun j u hj => by
      have hj' : j < news.size := by have := (List.getElem?_eq_some_iff.1 hj).1; simpa using this
      have := hb j hj'
      rw [add_addr, this, ← hj]; simp)
    (fun u hu => by
      obtain ⟨j, hj, rfl⟩ := List.getElem_of_mem hu
      have := Array.all_eq_true.1 h1 j (by simpa using hj)
      simpa using this) (by simp only [maxLen]; exact hm) hby hB
  refine DL.run hg hn (v := v') ?_ (k v' w' (fr_grown hgr) ho hat)
  simp [execOp, resolve, Go.invoke, builtin, hs, hx, hrun]
end
end D
end Go.Proofs.YtmbleojlnaofjaaGreatDoor

/- append of a row that came in, nil or not, to a row of one's own. -/
namespace Go.Proofs.YtmbleojlnaofjaaGreatDoor
open Go Go.RowKit D
set_option linter.unusedVariables false
set_option linter.unusedSimpArgs false
theorem flatC_append (a b : List (Array Value)) : flatC (a ++ b) = flatC a ++ flatC b := by simp [flatC]
theorem flatC_range_get {cl : Nat → Array Value} {m size : Nat} (hs : ∀ i, i < m → (cl i).size = size) {i j : Nat} (hi : i < m) (hj : j < size) : (flatC ((List.range m).map cl))[i * size + j]? = (cl i)[j]? := by
  have h := flatC_get (sz := size) (css := (List.range m).map cl) (fun c hc => by obtain ⟨i, hi, rfl⟩ := List.mem_map.1 hc; exact hs i (List.mem_range.1 hi)) i j (by simpa using hi) hj
  simpa using h
namespace D
section
variable {P : Program} {n : Nat} {e : Env} {w : World} {ops rest : List Oper} {K : Env → World → Prop} {ty : TypeId} {pos : String} {af : Array Edge} {g : Option (Nat × Bool)}
theorem run_append_none_any (base : Nat) (t ty e : TypeId) (i : TypeInfo) (size c : Nat) (ht : P.underlying t = some (.slice e)) (hi : P.info? e = some i) (v : Value) (n : Nat) (xs : List Value) (hown : w.ownsRow base e size v n xs) :
    (Builtin.append_ #[t, t] ty #[v, .slice none 0 c]).run P w = .ok v w := by
  rcases hown.2 with ⟨rfl, rfl⟩ | ⟨g, cap, cur, rfl, _, _, hnc, _⟩
  · simp [Builtin.append_, run_underlying ht, sizeOf, typeInfo, hi, Builtin.lenOf, Builtin.firstCells]
  · simp [Builtin.append_, run_underlying ht, sizeOf, typeInfo, hi, Builtin.lenOf, Builtin.firstCells, hnc, storeCells]
theorem DL.appendRow {s x : Operand} {t el size bytes d B m c N : Nat} {a : Option Addr} {v : Value} {css : List (Array Value)} {cl : Nat → Array Value} (hg : wantB ops e g = true) (hn : Nat.blt d n = true) (ht : eltT P t el size bytes = true) (hs : ev e s = v) (hx : ev e x = .slice a m c)
    (hown : w.ownsRow B el size v N (flatC css)) (hsrc : ∀ i, i < m → ∃ b o, a = some ⟨b, o, none⟩ ∧ CellsAt w b (o + i * size) (cl i) ∧ (cl i).size = size ∧ (cl i).all (·.oneCell') = true) (hby : (N + m) * bytes ≤ 140737488355328) (hm : N + m ≤ 9223372036854775807) (hB : B ≤ w.heap.size)
    (k : ∀ v' w', Fr (ownL v) w w' → w'.ownsRow B el size v' (N + m) (flatC (css ++ (List.range m).map cl)) → (v'.ownBlock = v.ownBlock ∨ v'.ownBlock = some w.heap.size) → DL P n ops rest (upd e d v') w' K) :
    DL P n ops (⟨some d, .call ⟨.builtin .append, #[s, x], #[t, t]⟩, ty, pos, af, g⟩ :: rest) e w K := by
  obtain ⟨i, z, k1, k2, k3, k4, k5, k6, k7, k8⟩ := eltT_spec ht
  have hsz : ∀ i, i < m → (cl i).size = size := fun i hi => let ⟨_, _, _, _, h, _⟩ := hsrc i hi; h
  cases a with
  | none =>
    have hm0 : m = 0 := by
      rcases Nat.eq_zero_or_pos m with h | h
      · exact h
      · obtain ⟨b, o, h1, _⟩ := hsrc 0 h; cases h1
    subst hm0
    refine DL.run hg hn (v := v) (w' := w) ?_ (k v w (Fr.refl _ _) (by simpa using hown) (Or.inl rfl))
    simp [execOp, resolve, Go.invoke, builtin, hs, hx, run_append_none_any B t ty el i size c k1 k2 v N (flatC css) hown]
  | some ad =>
    have hlen : (flatC ((List.range m).map cl)).length = m * size := by
      rw [flatC_len (sz := size) (fun c hc => by obtain ⟨i, hi, rfl⟩ := List.mem_map.1 hc; exact hsz i (List.mem_range.1 hi))]
      simp
    obtain ⟨v', w', hrun, ho, hgr, _, hat⟩ := run_append_own_at (P := P) w B t ty el i z size bytes k1 k2 k5 k3 k4 k6 k7 v N (flatC css) hown ad m c (flatC ((List.range m).map cl)) hlen
      (fun j u hj => by
        have hjl : j < m * size := by have := (List.getElem?_eq_some_iff.1 hj).1; omega
        have hi : j / size < m := Nat.div_lt_of_lt_mul (by rw [Nat.mul_comm]; exact hjl)
        have hr : j % size < size := Nat.mod_lt _ k7
        have hje : j = (j / size) * size + j % size := by rw [Nat.mul_comm]; exact (Nat.div_add_mod j size).symm
        obtain ⟨b, o, h1, h2, h3, _⟩ := hsrc _ hi
        cases h1
        rw [hje, flatC_range_get hsz hi hr] at hj
        have := h2 (j % size) (by rw [h3]; exact hr)
        rw [add_addr, hje, ← Nat.add_assoc, this]
        have e2 : (j / size * size + j % size) / size = j / size := by rw [← hje]
        have e3 : (j / size * size + j % size) % size = j % size := by rw [← hje]
        exact hj)
      (fun u hu => by
        obtain ⟨c, hc, hm⟩ := List.mem_flatMap.1 hu
        obtain ⟨i, hi, rfl⟩ := List.mem_map.1 hc
        obtain ⟨_, _, _, _, _, h4⟩ := hsrc i (List.mem_range.1 hi)
        obtain ⟨q, hq, rfl⟩ := List.getElem_of_mem hm
        have := Array.all_eq_true.1 h4 q (by simpa using hq)
        simpa using this) (by simp only [maxLen]; exact hm) hby hB
    refine DL.run hg hn (v := v') ?_ (k v' w' (fr_grown hgr) (by rw [flatC_append]; exact ho) hat)
    simp [execOp, resolve, Go.invoke, builtin, hs, hx, hrun]
end
end D
end Go.Proofs.YtmbleojlnaofjaaGreatDoor

/- JSON texts, as lists of bytes; laws of operations with their results named. -/
namespace Go.Proofs.YtmbleojlnaofjaaGreatDoor
open Go Go.RowKit D
set_option linter.unusedVariables false
set_option linter.unusedSimpArgs false
namespace D
section
variable {P : Program} {e : Env} {w : World} {dst : Option Tmp} {ty : TypeId} {pos : String} {af : Array Edge} {g : Option (Nat × Bool)}
theorem Y.remC {x y : Operand} {t u : TypeId} {k : IntKind} {a b c : Int} (hx : ev e x = .int k a) (hy : ev e y = .int k b) (hb : b ≠ 0) (h : a.tmod b = c) : Y P e ⟨dst, .binOp .rem t x y u, ty, pos, af, g⟩ w (.int k c) := by
  subst h; exact Y.rem hx hy hb
theorem Y.addC {x y : Operand} {t u : TypeId} {k : IntKind} {a b c : Int} (hx : ev e x = .int k a) (hy : ev e y = .int k b) (h : k.wrap (a + b) = c) : Y P e ⟨dst, .binOp .add t x y u, ty, pos, af, g⟩ w (.int k c) := by
  subst h; exact Y.add hx hy
theorem Y.convC {x : Operand} {s t : TypeId} {k k' : IntKind} {a c : Int} (hs : (P.underlying s).isSome = true) (ht : P.underlying t = some (.int k')) (hx : ev e x = .int k a) (h : k'.wrap a = c) : Y P e ⟨dst, .convert s t x, ty, pos, af, g⟩ w (.int k' c) := by
  subst h; exact Y.convII hs ht hx
theorem Y.runeC {x : Operand} {s t : Nat} {k : IntKind} {r : Int} {b : ByteArray} (hs : (P.underlying s).isSome = true) (ht : P.underlying t = some .string) (hx : ev e x = .int k r) (h : Utf8.encode r = b) : Y P e ⟨dst, .convert s t x, ty, pos, af, g⟩ w (.string b) := by
  subst h; exact Y.runeStr hs ht hx
/-- What is joined has a name. -/
theorem DL.catE {n : Nat} {ops rest : List Oper} {K : Env → World → Prop} {x y : Operand} {t u d : Nat} {a b : ByteArray} (hg : wantB ops e g = true) (hn : Nat.blt d n = true) (hx : ev e x = .string a) (hy : ev e y = .string b) (h : a.size + b.size ≤ 9223372036854775807)
    (k : ∀ c : ByteArray, c.data.toList = a.data.toList ++ b.data.toList → DL P n ops rest (upd e d (.string c)) w K) : DL P n ops (⟨some d, .binOp .add t x y u, ty, pos, af, g⟩ :: rest) e w K :=
  DL.y hg hn (Y.cat hx hy h) (k _ (by rw [ByteArray.data_append, Array.toList_append]))
end
end D
theorem size_list (b : ByteArray) : b.size = b.data.toList.length := by rw [Array.length_toList]; rfl
/-! ### Texts -/
def hexd (d : Nat) : UInt8 := if d < 10 then UInt8.ofNat (48 + d) else UInt8.ofNat (87 + d)
def escJ (c : UInt8) : List UInt8 :=
  if c = 34 then [92, 34] else if c = 92 then [92, 92] else if c = 10 then [92, 110] else if c = 9 then [92, 116] else if c = 13 then [92, 114] else if c = 8 then [92, 98] else if c = 12 then [92, 102]
  else if c.toNat < 32 ∨ c = 127 then [92, 117, 48, 48, hexd (c.toNat / 16), hexd (c.toNat % 16)] else [c]
def escT (l : List UInt8) : List UInt8 := l.flatMap escJ
def qL (l : List UInt8) : List UInt8 := 34 :: (escT l ++ [34])
theorem escJ_len (c : UInt8) : (escJ c).length ≤ 6 := by
  unfold escJ
  repeat' split
  all_goals simp
theorem escT_len : ∀ l : List UInt8, (escT l).length ≤ 6 * l.length
  | [] => by simp [escT]
  | c :: l => by
    have h1 := escJ_len c
    have h2 := escT_len l
    simp only [escT, List.flatMap_cons, List.length_append, List.length_cons] at h2 ⊢
    omega
theorem escT_succ {s : ByteArray} {i : Nat} (h : i < s.size) : escT (s.data.toList.take (i + 1)) = escT (s.data.toList.take i) ++ escJ s[i] := by
  have hl : i < s.data.toList.length := by simpa using h
  rw [List.take_succ_eq_append_getElem hl]
  simp [escT]
  rfl
def decL (n : Nat) : List UInt8 := if h : n < 10 then [UInt8.ofNat (48 + n)] else decL (n / 10) ++ [UInt8.ofNat (48 + n % 10)]
termination_by n
decreasing_by omega
theorem decL_lt {n : Nat} (h : n < 10) : decL n = [UInt8.ofNat (48 + n)] := by rw [decL, dif_pos h]
theorem decL_ge {n : Nat} (h : 10 ≤ n) : decL n = decL (n / 10) ++ [UInt8.ofNat (48 + n % 10)] := by rw [decL, dif_neg (by omega)]
theorem decL_len : ∀ (k n : Nat), n < 10 ^ (k + 1) → (decL n).length ≤ k + 1
  | 0, n, h => by rw [decL_lt (by simpa using h)]; simp
  | k + 1, n, h => by
    by_cases hn : n < 10
    · rw [decL_lt hn]; simp
    · rw [decL_ge (by omega), List.length_append]
      have := decL_len k (n / 10) (by rw [Nat.pow_succ] at h; omega)
      simp only [List.length_singleton]; omega
def numL (h : Int) : List UInt8 := (if h < 0 then [45] else []) ++ decL (h.natAbs / 2) ++ (if h.natAbs % 2 = 1 then [46, 53] else [])
def joinT : List (List UInt8) → List UInt8
  | [] => []
  | e :: r => e ++ r.flatMap (fun x => 44 :: x)
theorem joinT_succ {es : List (List UInt8)} {k : Nat} (h : k < es.length) : joinT (es.take (k + 1)) = joinT (es.take k) ++ (if k = 0 then [] else [44]) ++ es[k] := by
  cases es with
  | nil => cases h
  | cons e r =>
    cases k with
    | zero => simp [joinT]
    | succ k =>
      have h' : k < r.length := by simpa using h
      simp only [List.take_succ_cons, joinT, List.getElem_cons_succ]
      rw [List.take_succ_eq_append_getElem h', List.flatMap_append]
      simp
mutual
def jL : V → List UInt8
  | .mk kind half text list keys vals =>
    if kind = 0 then [110, 117, 108, 108] else if kind = 1 then [102, 97, 108, 115, 101] else if kind = 2 then [116, 114, 117, 101] else if kind = 3 then numL half else if kind = 4 then qL text.data.toList
    else if kind = 5 then 91 :: (joinT (jLs list) ++ [93]) else 123 :: (joinT (jMs keys vals) ++ [125])
def jLs : List V → List (List UInt8)
  | [] => []
  | v :: r => jL v :: jLs r
def jMs : List ByteArray → List V → List (List UInt8)
  | k :: ks, v :: vs => (qL k.data.toList ++ 58 :: jL v) :: jMs ks vs
  | _, _ => []
end
theorem jLs_len : ∀ l : List V, (jLs l).length = l.length
  | [] => rfl
  | v :: r => by simp [jLs, jLs_len r]
theorem jLs_get : ∀ {l : List V} {i : Nat} (h : i < l.length), (jLs l)[i]'(by rw [jLs_len]; exact h) = jL l[i]
  | v :: r, 0, h => by simp [jLs]
  | v :: r, i + 1, h => by
    have := jLs_get (l := r) (i := i) (by simpa using h)
    simpa [jLs] using this
theorem jMs_len : ∀ (ks : List ByteArray) (vs : List V), ks.length = vs.length → (jMs ks vs).length = ks.length
  | [], [], _ => rfl
  | k :: ks, v :: vs, h => by simp [jMs, jMs_len ks vs (by simpa using h)]
  | [], _ :: _, h => by cases h
  | _ :: _, [], h => by cases h
theorem jMs_get : ∀ {ks : List ByteArray} {vs : List V} {i : Nat} (h : i < ks.length) (h2 : i < vs.length) (h3 : i < (jMs ks vs).length), (jMs ks vs)[i] = qL ks[i].data.toList ++ 58 :: jL vs[i]
  | k :: ks, v :: vs, 0, h, h2, h3 => by simp [jMs]
  | k :: ks, v :: vs, i + 1, h, h2, h3 => by
    have := jMs_get (ks := ks) (vs := vs) (i := i) (by simpa using h) (by simpa using h2) (by simpa [jMs] using h3)
    simpa [jMs] using this
  | [], _, _, h, _, _ => by cases h
  | _, [], _, _, h, _ => by cases h
/-- A text that is told, or of which nothing is said. -/
def Said (b : ByteArray) (how : Int) (l : List UInt8) : Prop := (how = 0 ∧ b.data.toList = l) ∨ how = 2
end Go.Proofs.YtmbleojlnaofjaaGreatDoor

/- Laws: arrays sliced and indexed, bytes put into a block's middle, bit operations on numbers, the greater and the lesser. -/
namespace Go.Proofs.YtmbleojlnaofjaaGreatDoor.D
open Go Go.RowKit Go.Deep
set_option linter.unusedVariables false
set_option linter.unusedSectionVars false
set_option linter.unusedSimpArgs false
def arrayT (P : Program) (t el len size : Nat) : Bool := match P.underlying t with | some (.array n e') => (e' == el) && (n == len) && (match P.info? el with | some i => i.size == size | none => false) | _ => false
theorem arrayT_spec {P : Program} {t el len size : Nat} (h : arrayT P t el len size = true) : P.underlying t = some (.array len el) ∧ ∀ w, (sizeOf el).run P w = .ok size w := by
  unfold arrayT at h
  split at h
  · rename_i n e' h1
    simp only [Bool.and_eq_true, beq_iff_eq] at h
    obtain ⟨⟨rfl, rfl⟩, h2⟩ := h
    split at h2
    · rename_i i hi
      refine ⟨h1, fun w => ?_⟩
      rw [← (beq_iff_eq.1 h2)]
      simp [sizeOf, typeInfo, hi]
    · cases h2
  · cases h
theorem wrap_u64 {m : Nat} (h : m < 18446744073709551616) : IntKind.u64.wrap (m : Int) = (m : Int) := by
  simp [IntKind.wrap, IntKind.bits, IntKind.signed]; omega
theorem wrap_u8 {m : Nat} (h : m < 256) : IntKind.u8.wrap (m : Int) = (m : Int) := by
  rw [IntKind.wrap_u8]; omega
theorem wrap_neg_u64 {m : Nat} (h0 : 0 < m) (h : m < 18446744073709551616) : IntKind.u64.wrap (0 - IntKind.u64.wrap (-(m : Int))) = (m : Int) := by
  have e1 : IntKind.u64.wrap (-(m : Int)) = 18446744073709551616 - (m : Int) := by
    simp [IntKind.wrap, IntKind.bits, IntKind.signed]; omega
  rw [e1]
  simp [IntKind.wrap, IntKind.bits, IntKind.signed]; omega
theorem Op.shift_shr_eq' (k k' : IntKind) (a m : Nat) (hm : m ≤ k.bits) : Op.shift .shr k (a : Int) k' (m : Int) = pure (.int k ((a / 2 ^ m : Nat) : Int)) := by
  rw [Go.shift_shr k k' (a : Int) (m : Int) (by omega) (by omega), Int.toNat_natCast]
  congr 1
theorem Op.shift_shl_eq' (k k' : IntKind) (a m : Nat) (hm : m ≤ k.bits) : Op.shift .shl k (a : Int) k' (m : Int) = pure (.int k (k.wrap ((a * 2 ^ m : Nat) : Int))) := by
  rw [Go.shift_shl k k' (a : Int) (m : Int) (by omega) (by omega), Int.toNat_natCast]
  simp
theorem ofInt_nat (nb a : Nat) (ha : a < 2 ^ nb) : (BitVec.ofInt nb (a : Int)).toNat = a := by
  rw [BitVec.ofInt_natCast, BitVec.toNat_ofNat, Nat.mod_eq_of_lt ha]
theorem Op.intBits_and_eq' (k : IntKind) (a b : Nat) (ha : a < 2 ^ k.bits) (hb : b < 2 ^ k.bits) : Op.intBits .and k (a : Int) (b : Int) = pure (.int k (k.wrap ((a &&& b : Nat) : Int))) := by
  simp only [Op.intBits, BitVec.toNat_and, ofInt_nat _ _ ha, ofInt_nat _ _ hb]
theorem Op.intBits_or_eq' (k : IntKind) (a b : Nat) (ha : a < 2 ^ k.bits) (hb : b < 2 ^ k.bits) : Op.intBits .or k (a : Int) (b : Int) = pure (.int k (k.wrap ((a ||| b : Nat) : Int))) := by
  simp only [Op.intBits, BitVec.toNat_or, ofInt_nat _ _ ha, ofInt_nat _ _ hb]
section
variable {P : Program} {n : Nat} {e : Env} {w : World} {ops rest : List Oper} {K : Env → World → Prop} {dst : Option Tmp} {ty : TypeId} {pos : String} {af : Array Edge} {g : Option (Nat × Bool)}
theorem Y.sliceArrH {x z : Operand} {t el len size b o h : Nat} {k : IntKind} (ht : arrayT P t el len size = true) (hx : ev e x = .pointer (some ⟨b, o, none⟩)) (hz : ev e z = .int k (h : Int)) (hh : h ≤ len) :
    Y P e ⟨dst, .slice t x none (some z) none, ty, pos, af, g⟩ w (.slice (some ⟨b, o, none⟩) h len) := by
  obtain ⟨e1, e2⟩ := arrayT_spec ht
  unfold Y
  simp [execOp, Instr.sliceAt, Instr.sureAddr, run_underlying e1, hx, hz, Instr.sliceBounds, Instr.sliceBound, asIntOf, hh, e2, add_addr]
theorem Y.sliceArrL {x z : Operand} {t el len size b o l : Nat} {k : IntKind} (ht : arrayT P t el len size = true) (hx : ev e x = .pointer (some ⟨b, o, none⟩)) (hz : ev e z = .int k (l : Int)) (hh : l < len) :
    Y P e ⟨dst, .slice t x (some z) none none, ty, pos, af, g⟩ w (.slice (some ⟨b, o + l * size, none⟩) (len - l) (len - l)) := by
  obtain ⟨e1, e2⟩ := arrayT_spec ht
  have hne : ¬ len = l := by omega
  have hh' : l ≤ len := by omega
  unfold Y
  simp [execOp, Instr.sliceAt, Instr.sureAddr, run_underlying e1, hx, hz, Instr.sliceBounds, Instr.sliceBound, asIntOf, hh', e2, add_addr, hne]
/-- v[:h] of a slice. -/
theorem Y.sliceH {x z : Operand} {t el size h len cap : Nat} {a : Option Addr} {k : IntKind} {hi : Int} (ht : sliceT P t el size = true) (hx : ev e x = .slice a len cap) (hz : ev e z = .int k hi) (he : hi = (h : Int)) (hh : h ≤ cap) :
    Y P e ⟨dst, .slice t x none (some z) none, ty, pos, af, g⟩ w (.slice a h cap) := by
  subst he
  obtain ⟨e1, e2⟩ := sliceT_spec ht
  unfold Y
  have ha : (a.map fun x => x.add 0) = a := by cases a with
    | none => rfl
    | some a => simp [Addr.add]
  simp [execOp, Instr.sliceAt, Instr.slice, run_underlying e1, hx, hz, Instr.sliceBounds, Instr.sliceBound, asIntOf, hh, e2, ha]
theorem Y.indexArr {x ix : Operand} {t el len size b o i : Nat} {k : IntKind} {z : Int} (ht : arrayT P t el len size = true) (hx : ev e x = .pointer (some ⟨b, o, none⟩)) (hi : ev e ix = .int k z) (hz : z = (i : Int)) (hlt : i < len) :
    Y P e ⟨dst, .indexAddr t x ix, ty, pos, af, g⟩ w (.pointer (some ⟨b, o + i * size, none⟩)) := by
  subst hz
  obtain ⟨e1, e2⟩ := arrayT_spec ht
  unfold Y
  simp [execOp, Instr.indexAt, Instr.sureAddr, run_underlying e1, hx, hi, asIntOf, hlt, e2, add_addr]
theorem Y.shrN {x y : Operand} {t u : TypeId} {k k' : IntKind} {a m c : Nat} (hx : ev e x = .int k (a : Int)) (hy : ev e y = .int k' (m : Int)) (hm : m ≤ k.bits) (hc : a / 2 ^ m = c) : Y P e ⟨dst, .binOp .shr t x y u, ty, pos, af, g⟩ w (.int k (c : Int)) := by
  subst hc
  have h := Op.shift_shr_eq' k k' a m hm
  unfold Y; simp [execOp, hx, hy, eqGuard, binOp, h]
theorem Y.shlN {x y : Operand} {t u : TypeId} {k k' : IntKind} {a m : Nat} {c : Int} (hx : ev e x = .int k (a : Int)) (hy : ev e y = .int k' (m : Int)) (hm : m ≤ k.bits) (hc : k.wrap ((a * 2 ^ m : Nat) : Int) = c) : Y P e ⟨dst, .binOp .shl t x y u, ty, pos, af, g⟩ w (.int k c) := by
  subst hc
  have h := Op.shift_shl_eq' k k' a m hm
  unfold Y; simp only [execOp, hx, hy, eqGuard, binOp, h]; rfl
theorem Y.andN {x y : Operand} {t u : TypeId} {k : IntKind} {a b : Nat} {c : Int} (hx : ev e x = .int k (a : Int)) (hy : ev e y = .int k (b : Int)) (ha : a < 2 ^ k.bits) (hb : b < 2 ^ k.bits) (hc : k.wrap ((a &&& b : Nat) : Int) = c) : Y P e ⟨dst, .binOp .and t x y u, ty, pos, af, g⟩ w (.int k c) := by
  subst hc
  have h := Op.intBits_and_eq' k a b ha hb
  unfold Y; simp [execOp, hx, hy, eqGuard, binOp, h]
theorem Y.orN {x y : Operand} {t u : TypeId} {k : IntKind} {a b : Nat} {c : Int} (hx : ev e x = .int k (a : Int)) (hy : ev e y = .int k (b : Int)) (ha : a < 2 ^ k.bits) (hb : b < 2 ^ k.bits) (hc : k.wrap ((a ||| b : Nat) : Int) = c) : Y P e ⟨dst, .binOp .or t x y u, ty, pos, af, g⟩ w (.int k c) := by
  subst hc
  have h := Op.intBits_or_eq' k a b ha hb
  unfold Y; simp [execOp, hx, hy, eqGuard, binOp, h]
theorem Y.negC {x : Operand} {t : TypeId} {k : IntKind} {a c : Int} (hx : ev e x = .int k a) (hc : k.wrap (0 - a) = c) : Y P e ⟨dst, .unOp .neg t x, ty, pos, af, g⟩ w (.int k c) := by
  subst hc; exact Y.neg hx
theorem Y.subC {x y : Operand} {t u : TypeId} {k : IntKind} {a b c : Int} (hx : ev e x = .int k a) (hy : ev e y = .int k b) (hc : k.wrap (a - b) = c) : Y P e ⟨dst, .binOp .sub t x y u, ty, pos, af, g⟩ w (.int k c) := by
  subst hc; exact Y.sub hx hy
theorem Y.mulC {x y : Operand} {t u : TypeId} {k : IntKind} {a b c : Int} (hx : ev e x = .int k a) (hy : ev e y = .int k b) (hc : k.wrap (a * b) = c) : Y P e ⟨dst, .binOp .mul t x y u, ty, pos, af, g⟩ w (.int k c) := by
  subst hc; exact Y.mul hx hy
theorem Y.bmax {x y : Operand} {t u : TypeId} {a b v : Value} (hx : ev e x = a) (hy : ev e y = b) (h : (Builtin.max2 a b).run P w = .ok v w) : Y P e ⟨dst, .call ⟨.builtin .max, #[x, y], #[t, u]⟩, ty, pos, af, g⟩ w v := by
  unfold Y
  simp [execOp, resolve, Go.invoke, builtin, Builtin.max_, hx, hy, h]
theorem Y.bmin {x y : Operand} {t u : TypeId} {a b v : Value} (hx : ev e x = a) (hy : ev e y = b) (h : (Builtin.min2 a b).run P w = .ok v w) : Y P e ⟨dst, .call ⟨.builtin .min, #[x, y], #[t, u]⟩, ty, pos, af, g⟩ w v := by
  unfold Y
  simp [execOp, resolve, Go.invoke, builtin, Builtin.min_, hx, hy, h]
theorem max_int {k : IntKind} {a b : Int} : (Builtin.max2 (.int k a) (.int k b)).run P w = .ok (.int k (max a b)) w := by
  simp only [Builtin.max2]
  have : (if b > a then b else a) = max a b := by split <;> omega
  rw [this]; rfl
/-- string(v) of cells that hold bytes. -/
theorem Y.cellsStr {x : Operand} {s t el cap b o : Nat} {l : List UInt8} (hs : P.underlying s = some (.slice el)) (he : P.underlying el = some (.int .u8)) (ht : P.underlying t = some .string) (hx : ev e x = .slice (some ⟨b, o, none⟩) l.length cap) (hc : ∀ j (hj : j < l.length), w.cell? ⟨b, o + j, none⟩ = some (.int .u8 (l[j].toNat : Int))) :
    Y P e ⟨dst, .convert s t x, ty, pos, af, g⟩ w (.string ⟨l.toArray⟩) := by
  have hrun := run_convert_bytes_back (P := P) w s t el ⟨b, o, none⟩ cap l hs he ht (fun j hj => by rw [add_addr]; exact hc j hj)
  unfold Y
  simp only [execOp, hx, Sem.run_bind, hrun, Result.andThen_ok, Sem.run_pure]
/-- append(b[o:o], s...) where there is room. -/
theorem DL.appBuf {s x : Operand} {t u el d bl o cap T : Nat} {cur : Array Value} {b : ByteArray} (hg : wantB ops e g = true) (hn : Nat.blt d n = true) (ht : eltT P t el 1 1 = true) (hu : P.underlying u = some .string) (hs : ev e s = .slice (some ⟨bl, o, none⟩) 0 cap) (hx : ev e x = .string b)
    (hb : w.heap[bl]? = some (.cells cur T (0, 0))) (hroom : b.size ≤ cap) (hfit : o + b.size ≤ cur.size)
    (k : ∀ cur' w', Fr [bl] w w' → w'.heap[bl]? = some (.cells cur' T (0, 0)) → cur'.size = cur.size → (∀ i, i < o → cur'[i]? = cur[i]?) → (∀ j (hj : j < b.data.toList.length), cur'[o + j]? = some (.int .u8 (b.data.toList[j].toNat : Int))) → DL P n ops rest (upd e d (.slice (some ⟨bl, o, none⟩) b.size cap)) w' K) :
    DL P n ops (⟨some d, .call ⟨.builtin .append, #[s, x], #[t, u]⟩, ty, pos, af, g⟩ :: rest) e w K := by
  obtain ⟨i, z, k1, k2, k3, k4, k5, k6, k7, k8⟩ := eltT_spec ht
  have hf := Lib.run_firstCells_string (P := P) w 1 b
  have hst := run_storeCells_at P bl o T (Lib.strCells b) 0 cur w hb (by simpa [Lib.strCells_length] using hfit) (Lib.strCells_oneCell b)
  simp only [Nat.add_zero, Lib.strCells_length] at hst
  have hrun : (Builtin.append_ #[t, u] ty #[.slice (some ⟨bl, o, none⟩) 0 cap, .string b]).run P w = .ok (.slice (some ⟨bl, o, none⟩) b.size cap) (w.setRow bl (cur.toList.take o ++ Lib.strCells b ++ cur.toList.drop (o + b.size)).toArray) := by
    simp [Builtin.append_, run_underlying k1, run_underlying hu, sizeOf, typeInfo, k2, k3, Builtin.lenOf, hroom, hf, Addr.add_lit, hst]
  have hlen : (cur.toList.take o ++ Lib.strCells b ++ cur.toList.drop (o + b.size)).length = cur.size := by
    simp only [List.length_append, List.length_take, List.length_drop, Lib.strCells_length, Array.length_toList]; omega
  have hlo : (cur.toList.take o).length = o := by rw [List.length_take, Array.length_toList]; omega
  refine DL.run hg hn (v := .slice (some ⟨bl, o, none⟩) b.size cap) (w' := w.setRow bl (cur.toList.take o ++ Lib.strCells b ++ cur.toList.drop (o + b.size)).toArray) ?_ (k (cur.toList.take o ++ Lib.strCells b ++ cur.toList.drop (o + b.size)).toArray _ ⟨rfl, rfl, rfl, by simp, fun i _ hi => setRow_other w bl i _ (by simpa using hi)⟩ (setRow_heap w bl cur _ T (0, 0) hb) (by simpa using hlen) (fun i hi => ?_) (fun j hj => ?_))
  · clear hst
    generalize w.setRow bl (cur.toList.take o ++ Lib.strCells b ++ cur.toList.drop (o + b.size)).toArray = wR at hrun ⊢
    simp [execOp, resolve, Go.invoke, builtin, hs, hx, hrun]
  · rw [List.getElem?_toArray, List.append_assoc, List.getElem?_append_left (by omega), List.getElem?_take, if_pos hi]; simp
  · rw [List.getElem?_toArray, List.append_assoc, List.getElem?_append_right (by omega), hlo, Nat.add_sub_cancel_left, List.getElem?_append_left (by rw [Lib.strCells_length]; simpa using hj)]
    simp only [Lib.strCells, List.getElem?_map, List.getElem?_eq_getElem hj, Option.map_some]
end
end Go.Proofs.YtmbleojlnaofjaaGreatDoor.D

/- Which values fit. -/
namespace Go.Proofs.YtmbleojlnaofjaaGreatDoor
open Go Go.RowKit D
set_option linter.unusedVariables false
set_option linter.unusedSimpArgs false

theorem zzFits2_any (keys : List ByteArray) (a : Option Addr) (kc B : Nat) (w : World) (hR : RVK w B a keys) (hn : keys.length ≤ 140737488351232) :
    Calls Tryz.prog 24 #[.slice a keys.length kc] w (Ret w [] fun v _ => ∃ r, v = .bool r) := by
  refine calls_of Tryz.func24 rfl rfl rfl rfl ?_
  have FR := Fr.refl [] w
  refine DC.seq ?_
  refine DC.region ?_
  refine DL.y rfl rfl (Y.assign) ?_
  refine DL.nil ?_
  show DC _ _ _ _ _ _
  refine DC.seq ?_
  refine DC.seq ?_
  refine DC.region ?_
  refine DL.y rfl rfl (Y.move) ?_
  refine DL.y rfl rfl (Y.lenS Tryz.underlying24 rfl) ?_
  refine DL.if rfl rfl (Y.gt rfl rfl) (fun c7 => ?_) (fun c7 => ?_)
  · refine DL.nil ?_
    show DC _ _ _ _ _ _
    refine DC.condT rfl ?_
    refine DC.seq ?_
    refine DC.region ?_
    refine DL.y rfl rfl (Y.assign) ?_
    refine DL.nil ?_
    show DC _ _ _ _ _ _
    refine DC.ret ?_
    exact FinQ.ret1 rfl (Ret.mk FR ⟨_, rfl⟩)
  · refine DL.nil ?_
    show DC _ _ _ _ _ _
    refine DC.condF rfl ?_
    refine DC.skip ?_
    show DC _ _ _ _ _ _
    refine DC.seq ?_
    refine DC.seq ?_
    refine DC.region ?_
    refine DL.y rfl rfl (Y.move) ?_
    refine DL.y rfl rfl (Y.lenS Tryz.underlying24 rfl) ?_
    refine DL.y rfl rfl (Y.move) ?_
    refine DL.nil ?_
    show DC _ _ _ _ _ _
    refine DC.block ?_
    refine DC.loop (σ := Nat) [(2, 2), (4, 4), (10, 17)] (fun k => [(10, .int .i64 (k : Int))]) (fun sg wl => Fr [] w wl ∧ (fun k w' => k ≤ keys.length) sg wl) (fun k => keys.length - k) (0) rfl ?_ ?_ ?_
    · exact rfl
    · exact ⟨Fr.refl _ _, Nat.zero_le _⟩
    · rintro k j w1 ⟨f2, hk0⟩
      replace FR := FR.tr0 f2
      replace hR := hR.fr f2 (by intro x hx; simp <;> omega)
      have G3 := f2
      have HG3 := Fr.refl [] w1
      refine DC.seq ?_
      refine DC.region ?_
      refine DL.if rfl rfl (Y.lt rfl rfl) (fun c11 => ?_) (fun c11 => ?_)
      · have hk : k < keys.length := by omega
        obtain ⟨bs, os, rfl, hbs, hkc, hks⟩ := hR k hk
        refine DL.nil ?_
        show DC _ _ _ _ _ _
        refine DC.seq ?_
        refine DC.condT rfl ?_
        refine DC.skip ?_
        show DC _ _ _ _ _ _
        refine DC.seq ?_
        refine DC.block ?_
        refine DC.seq ?_
        refine DC.region ?_
        refine DL.y rfl rfl (Y.index F.sl24 rfl rfl (rfl) (hk)) ?_
        refine DL.y rfl rfl (Y.load F.sc9 rfl hkc) ?_
        refine DL.y rfl rfl (Y.assign) ?_
        refine DL.nil ?_
        show DC _ _ _ _ _ _
        refine DC.seq ?_
        refine DC.region ?_
        refine DL.y rfl rfl (Y.move) ?_
        refine DL.y rfl rfl (Y.lenStr Tryz.underlying9 rfl) ?_
        refine DL.if rfl rfl (Y.gt rfl rfl) (fun c16 => ?_) (fun c16 => ?_)
        · refine DL.nil ?_
          show DC _ _ _ _ _ _
          refine DC.condT rfl ?_
          refine DC.seq ?_
          refine DC.region ?_
          refine DL.y rfl rfl (Y.assign) ?_
          refine DL.nil ?_
          show DC _ _ _ _ _ _
          refine DC.ret ?_
          exact FinQ.ret1 rfl (Ret.mk FR ⟨_, rfl⟩)
        · refine DL.nil ?_
          show DC _ _ _ _ _ _
          refine DC.condF rfl ?_
          refine DC.skip ?_
          show DC _ _ _ _ _ _
          refine DC.region ?_
          refine DL.y rfl rfl (Y.addI (c := ((k + 1 : Nat) : Int)) rfl rfl (by omega) (by omega) (by omega)) ?_
          refine DL.y rfl rfl (Y.move) ?_
          refine DL.nil ?_
          exact ⟨k + 1, ⟨G3, hk⟩, by show keys.length - (k + 1) < keys.length - k; omega, rfl⟩
      · refine DL.nil ?_
        show DC _ _ _ _ _ _
        refine DC.seq ?_
        refine DC.condF rfl ?_
        refine DC.exit ?_
        show DC _ _ _ _ _ _
        refine DC.seq ?_
        refine DC.region ?_
        refine DL.y rfl rfl (Y.assign) ?_
        refine DL.nil ?_
        show DC _ _ _ _ _ _
        refine DC.ret ?_
        exact FinQ.ret1 rfl (Ret.mk FR ⟨_, rfl⟩)

theorem zzFits1_any (v : V) (cs : Array Value) (B : Nat) (w : World) (hR : RV w B v cs) (hB : B ≤ w.heap.size) : Calls Tryz.prog 7 #[.agg cs] w (Ret w [] fun v _ => ∃ r, v = .bool r) := by
  obtain ⟨kind, half, text, list, keys, vals⟩ := v
  obtain ⟨la, lc, ka, kc, va, vc, rfl⟩ := hR.shape
  obtain ⟨bt, bl, bk, bv, bkind, bhalf⟩ := hR.bounds
  refine calls_of Tryz.func7 rfl rfl rfl rfl ?_
  have FR := Fr.refl [] w
  refine DC.seq ?_
  refine DC.region ?_
  refine DL.boxA rfl rfl rfl ?_
  intro b1 w1 f2 lo1 hi1 hb1
  replace lo1 := Nat.le_trans FR.size lo1
  replace FR := FR.tr0 f2
  replace hR := hR.fr f2 (by intro x hx; simp <;> omega)
  refine DL.y rfl rfl (Y.assign) ?_
  refine DL.nil ?_
  show DC _ _ _ _ _ _
  refine DC.seq ?_
  refine DC.seq ?_
  refine DC.region ?_
  refine DL.y rfl rfl (Y.field F.fd26_2 rfl) ?_
  refine DL.y rfl rfl (Y.loadB F.sc9 rfl hb1 rfl) ?_
  refine DL.y rfl rfl (Y.lenStr Tryz.underlying9 rfl) ?_
  refine DL.if rfl rfl (Y.gt rfl rfl) (fun c6 => ?_) (fun c6 => ?_)
  · refine DL.nil ?_
    show DC _ _ _ _ _ _
    refine DC.condT rfl ?_
    refine DC.seq ?_
    refine DC.region ?_
    refine DL.y rfl rfl (Y.assign) ?_
    refine DL.nil ?_
    show DC _ _ _ _ _ _
    refine DC.ret ?_
    exact FinQ.ret1 rfl (Ret.mk FR ⟨_, rfl⟩)
  · refine DL.nil ?_
    show DC _ _ _ _ _ _
    refine DC.condF rfl ?_
    refine DC.skip ?_
    show DC _ _ _ _ _ _
    refine DC.seq ?_
    refine DC.seq ?_
    refine DC.region ?_
    refine DL.y rfl rfl (Y.field F.fd26_3 rfl) ?_
    refine DL.y rfl rfl (Y.loadB F.sc23 rfl hb1 rfl) ?_
    refine DL.y rfl rfl (Y.lenS Tryz.underlying23 rfl) ?_
    refine DL.if rfl rfl (Y.gt rfl rfl) (fun c10 => ?_) (fun c10 => ?_)
    · refine DL.nil ?_
      show DC _ _ _ _ _ _
      refine DC.condT rfl ?_
      refine DC.seq ?_
      refine DC.region ?_
      refine DL.y rfl rfl (Y.assign) ?_
      refine DL.nil ?_
      show DC _ _ _ _ _ _
      refine DC.ret ?_
      exact FinQ.ret1 rfl (Ret.mk FR ⟨_, rfl⟩)
    · refine DL.nil ?_
      show DC _ _ _ _ _ _
      refine DC.condF rfl ?_
      refine DC.skip ?_
      show DC _ _ _ _ _ _
      refine DC.seq ?_
      refine DC.seq ?_
      refine DC.region ?_
      refine DL.y rfl rfl (Y.field F.fd26_4 rfl) ?_
      refine DL.y rfl rfl (Y.loadB F.sc24 rfl hb1 rfl) ?_
      refine DL.call rfl rfl F.nm24 rfl (zzFits2_any keys _ _ B _ hR.keys bk) ?_
      rintro _ w3 f4 ⟨r, rfl⟩
      replace FR := FR.tr0 f4
      replace hR := hR.fr f4 (by intro x hx; simp <;> omega)
      replace hb1 := f4.blk0 hb1
      replace hi1 := Nat.lt_of_lt_of_le hi1 f4.size
      refine DL.y rfl rfl (Y.not rfl) ?_
      refine DL.nil ?_
      show DC _ _ _ _ _ _
      refine DC.cond rfl (fun c14 => ?_) (fun c14 => ?_)
      · refine DC.seq ?_
        refine DC.region ?_
        refine DL.y rfl rfl (Y.assign) ?_
        refine DL.nil ?_
        show DC _ _ _ _ _ _
        refine DC.ret ?_
        exact FinQ.ret1 rfl (Ret.mk FR ⟨_, rfl⟩)
      · refine DC.skip ?_
        show DC _ _ _ _ _ _
        refine DC.seq ?_
        refine DC.seq ?_
        refine DC.region ?_
        refine DL.y rfl rfl (Y.field F.fd26_5 rfl) ?_
        refine DL.y rfl rfl (Y.loadB F.sc23 rfl hb1 rfl) ?_
        refine DL.y rfl rfl (Y.lenS Tryz.underlying23 rfl) ?_
        refine DL.if rfl rfl (Y.gt rfl rfl) (fun c18 => ?_) (fun c18 => ?_)
        · refine DL.nil ?_
          show DC _ _ _ _ _ _
          refine DC.condT rfl ?_
          refine DC.seq ?_
          refine DC.region ?_
          refine DL.y rfl rfl (Y.assign) ?_
          refine DL.nil ?_
          show DC _ _ _ _ _ _
          refine DC.ret ?_
          exact FinQ.ret1 rfl (Ret.mk FR ⟨_, rfl⟩)
        · refine DL.nil ?_
          show DC _ _ _ _ _ _
          refine DC.condF rfl ?_
          refine DC.skip ?_
          show DC _ _ _ _ _ _
          refine DC.seq ?_
          refine DC.region ?_
          refine DL.y rfl rfl (Y.assign) ?_
          refine DL.nil ?_
          show DC _ _ _ _ _ _
          refine DC.ret ?_
          exact FinQ.ret1 rfl (Ret.mk FR ⟨_, rfl⟩)

theorem Fit_any (v : V) (cs : Array Value) (B : Nat) (w : World) (hR : RV w B v cs) (hB : B ≤ w.heap.size) (h2 : 2 ≤ B) (hT : Tabs w) : Calls Tryz.prog 25 #[.agg cs] w (Ret w [] fun r _ => ∃ ok, r = .bool ok ∧ (ok = true → Good v ∧ v.nodes ≤ 400 ∧ v.bytes ≤ 2000)) := by
  obtain ⟨kind, half, text, list, keys, vals⟩ := v
  obtain ⟨la, lc, ka, kc, va, vc, rfl⟩ := hR.shape
  refine calls_of Tryz.func25 rfl rfl rfl rfl ?_
  have FR := Fr.refl [] w
  refine DC.seq ?_
  refine DC.region ?_
  refine DL.boxA rfl rfl rfl ?_
  intro b1 w1 f2 lo1 hi1 hb1
  replace lo1 := Nat.le_trans FR.size lo1
  replace FR := FR.tr0 f2
  replace hR := hR.fr f2 (by intro x hx; simp <;> omega)
  replace hT := hT.fr f2 (by intro x hx; simp <;> omega)
  refine DL.y rfl rfl (Y.assign) ?_
  refine DL.nil ?_
  show DC _ _ _ _ _ _
  refine DC.seq ?_
  refine DC.region ?_
  refine DL.y rfl rfl (Y.build (cs := lk 0 0 false) (by kernel_rfl)) ?_
  refine DL.boxA rfl rfl rfl ?_
  intro b5 w3 f4 lo5 hi5 hb5
  have lt_b1_b5 : b1 < b5 := Nat.lt_of_lt_of_le hi1 lo5
  replace lo5 := Nat.le_trans FR.size lo5
  replace FR := FR.tr0 f4
  replace hR := hR.fr f4 (by intro x hx; simp <;> omega)
  replace hT := hT.fr f4 (by intro x hx; simp <;> omega)
  replace hb1 := f4.blk0 hb1
  replace hi1 := Nat.lt_of_lt_of_le hi1 f4.size
  refine DL.y rfl rfl (Y.assign) ?_
  refine DL.nil ?_
  show DC _ _ _ _ _ _
  refine DC.seq ?_
  refine DC.region ?_
  refine DL.y rfl rfl (Y.move) ?_
  refine DL.y rfl rfl (Y.loadW rfl hb1 F.ag26) ?_
  refine DL.call rfl rfl F.nm45 rfl (value_any _ _ _ b5 B 0 0 0 false _ (Nat.le_refl _) hR (by omega) h2 hT hb5 (fun _ => by omega) (by omega) (by omega)) ?_
  rintro _ w5 f6 ⟨p1, n1, bad1, hb5, hx⟩
  replace FR := FR.put f6 (by intro i hi; simp only [List.mem_cons, List.mem_singleton, List.not_mem_nil, or_false] at hi; rcases hi with rfl; all_goals (first | (left; simp; done) | (right; omega)))
  replace hR := hR.fr f6 (by intro x hx; simp <;> omega)
  replace hT := hT.fr f6 (by intro x hx; simp <;> omega)
  replace hb1 := f6.blk hb1 (by simp only [List.mem_cons, List.not_mem_nil, or_false, not_or]; omega)
  replace hi1 := Nat.lt_of_lt_of_le hi1 f6.size
  replace hi5 := Nat.lt_of_lt_of_le hi5 f6.size
  refine DL.nil ?_
  show DC _ _ _ _ _ _
  refine DC.seq ?_
  refine DC.region ?_
  refine DL.y rfl rfl (Y.move) ?_
  refine DL.y rfl rfl (Y.nil rfl) ?_
  refine DL.y rfl rfl (Y.field F.fd67_2 rfl) ?_
  refine DL.y rfl rfl (Y.loadB F.sc4 rfl hb5 rfl) ?_
  refine DL.y rfl rfl (Y.not rfl) ?_
  refine DL.y rfl rfl (Y.assign) ?_
  refine DL.nil ?_
  show DC _ _ _ _ _ _
  refine DC.ret ?_
  refine FinQ.ret1 rfl (Ret.mk FR ⟨_, rfl, fun h => ?_⟩)
  obtain ⟨q1, q2, q3, q4, q5, q6⟩ := hx (by simpa using h)
  exact ⟨q2, by omega, by omega⟩


theorem Good.kind0 {kind half : Int} {text : ByteArray} {list : List V} {keys : List ByteArray} {vals : List V} (h : Good (.mk kind half text list keys vals)) : 0 ≤ kind := by cases h with | mk n _ _ => exact n.krange.1

end Go.Proofs.YtmbleojlnaofjaaGreatDoor

/- The walks of spec.digits and spec.figures. -/
namespace Go.Proofs.YtmbleojlnaofjaaGreatDoor
open Go Go.RowKit D
set_option linter.unusedVariables false
set_option linter.unusedSimpArgs false


theorem tmodN (m k : Nat) (hk : 0 < k) : (m : Int).tmod (k : Int) = ((m % k : Nat) : Int) := by
  rw [Int.tmod_eq_emod_of_nonneg (by omega)]; omega
theorem tdivN (m k : Nat) (hk : 0 < k) : (m : Int).tdiv (k : Int) = ((m / k : Nat) : Int) := by
  rw [Int.tdiv_eq_ediv_of_nonneg (by omega)]; omega
theorem digR : ∀ d, d < 10 → IntKind.i32.wrap ((48 + d : Nat) : Int) = ((48 + d : Nat) : Int) ∧ Utf8.encode ((48 + d : Nat) : Int) = ⟨#[UInt8.ofNat (48 + d)]⟩
  | 0, _ => by decide
  | 1, _ => by decide
  | 2, _ => by decide
  | 3, _ => by decide
  | 4, _ => by decide
  | 5, _ => by decide
  | 6, _ => by decide
  | 7, _ => by decide
  | 8, _ => by decide
  | 9, _ => by decide
  | d + 10, h => by omega

theorem digits_any (n0 : Nat) (hn : n0 ≤ 18014398509481984) (w : World) : Calls Tryz.prog 123 #[.int .i64 (n0 : Int)] w (Ret w [] fun v _ => ∃ b : ByteArray, v = .string b ∧ b.data.toList = decL n0) := by
  have hlen := decL_len 18 n0 (by omega)
  refine calls_of Tryz.func123 rfl rfl rfl rfl ?_
  have FR := Fr.refl [] w
  refine DC.seq ?_
  refine DC.region ?_
  refine DL.y rfl rfl (Y.assign) ?_
  refine DL.nil ?_
  show DC _ _ _ _ _ _
  refine DC.seq ?_
  refine DC.region ?_
  refine DL.y rfl rfl (Y.assign) ?_
  refine DL.nil ?_
  show DC _ _ _ _ _ _
  refine DC.seq ?_
  refine DC.block ?_
  refine DC.loop (σ := Nat × ByteArray) [(0, 0), (3, 14)] (fun (m, s) => [(0, .int .i64 (m : Int)), (3, .string s)]) (fun sg wl => Fr [] w wl ∧ (fun (m, s) wl => m ≤ n0 ∧ decL m ++ s.data.toList = decL n0) sg wl) (fun (m, _) => m) ((n0, ⟨#[]⟩)) rfl ?_ ?_ ?_
  · exact ⟨rfl, rfl⟩
  · exact ⟨Fr.refl _ _, Nat.le_refl _, by simp⟩
  · rintro ⟨m, s⟩ j w1 ⟨f2, hm, heq⟩
    replace FR := FR.tr0 f2
    have G3 := f2
    have HG3 := Fr.refl [] w1
    refine DC.seq ?_
    refine DC.seq ?_
    refine DC.region ?_
    refine DL.y rfl rfl (Y.move) ?_
    refine DL.if rfl rfl (Y.ge rfl rfl) (fun c5 => ?_) (fun c5 => ?_)
    · have h10 : 10 ≤ m := by omega
      have hsl := size_list s
      have hls := congrArg List.length heq
      rw [List.length_append] at hls
      refine DL.nil ?_
      show DC _ _ _ _ _ _
      refine DC.condT rfl ?_
      refine DC.skip ?_
      show DC _ _ _ _ _ _
      refine DC.block ?_
      refine DC.seq ?_
      refine DC.region ?_
      refine DL.y rfl rfl (Y.move) ?_
      refine DL.y rfl rfl (Y.remC (c := ((m % 10 : Nat) : Int)) rfl rfl (by decide) (tmodN m 10 (by decide))) ?_
      refine DL.y rfl rfl (Y.addI (c := ((48 + m % 10 : Nat) : Int)) rfl rfl (by omega) (by omega) (by omega)) ?_
      refine DL.y rfl rfl (Y.convC F.us3 Tryz.underlying21 rfl (digR (m % 10) (by omega)).1) ?_
      refine DL.y rfl rfl (Y.runeC F.us21 Tryz.underlying9 rfl (digR (m % 10) (by omega)).2) ?_
      refine DL.y rfl rfl (Y.move) ?_
      refine DL.catE rfl rfl rfl rfl (by rw [show (⟨#[UInt8.ofNat (48 + m % 10)]⟩ : ByteArray).size = 1 from rfl]; omega) (fun c12 h12 => ?_)
      refine DL.y rfl rfl (Y.assign) ?_
      refine DL.nil ?_
      show DC _ _ _ _ _ _
      refine DC.region ?_
      refine DL.y rfl rfl (Y.move) ?_
      refine DL.y rfl rfl (Y.quoI (c := ((m / 10 : Nat) : Int)) rfl rfl (by decide) (by rw [show (10 : Int) = ((10 : Nat) : Int) from rfl, tdivN m 10 (by decide)]; exact wrap_i64 (by omega) (by omega))) ?_
      refine DL.y rfl rfl (Y.assign) ?_
      refine DL.nil ?_
      refine ⟨(m / 10, c12), ⟨G3, by omega, ?_⟩, by show m / 10 < m; omega, rfl, rfl⟩
      rw [← heq, decL_ge h10, h12]; simp
    · have h10 : m < 10 := by omega
      have hsl := size_list s
      have hls := congrArg List.length heq
      rw [List.length_append] at hls
      refine DL.nil ?_
      show DC _ _ _ _ _ _
      refine DC.condF rfl ?_
      refine DC.exit ?_
      show DC _ _ _ _ _ _
      refine DC.seq ?_
      refine DC.region ?_
      refine DL.y rfl rfl (Y.move) ?_
      refine DL.y rfl rfl (Y.addI (c := ((48 + m : Nat) : Int)) rfl rfl (by omega) (by omega) (by omega)) ?_
      refine DL.y rfl rfl (Y.convC F.us3 Tryz.underlying21 rfl (digR m h10).1) ?_
      refine DL.y rfl rfl (Y.runeC F.us21 Tryz.underlying9 rfl (digR m h10).2) ?_
      refine DL.y rfl rfl (Y.move) ?_
      refine DL.catE rfl rfl rfl rfl (by rw [show (⟨#[UInt8.ofNat (48 + m)]⟩ : ByteArray).size = 1 from rfl]; omega) (fun c20 h20 => ?_)
      refine DL.y rfl rfl (Y.assign) ?_
      refine DL.nil ?_
      show DC _ _ _ _ _ _
      refine DC.ret ?_
      exact FinQ.ret1 rfl (Ret.mk FR ⟨c20, rfl, by rw [← heq, decL_lt h10, h20]⟩)


theorem numL_len {h : Nat} (hh : h ≤ 18014398509481984) : (numL (h : Int)).length ≤ 30 := by
  have h1 := decL_len 18 (h / 2) (by omega)
  unfold numL
  rw [if_neg (by omega : ¬ ((h : Int) < 0)), show ((h : Int).natAbs / 2) = h / 2 by omega]
  simp only [List.nil_append, List.length_append]
  split <;> simp <;> omega
theorem Said.size {b : ByteArray} {how : Int} {l : List UInt8} (h : Said b how l) (h0 : how = 0) : b.size = l.length := by
  rcases h with ⟨_, h⟩ | h
  · rw [size_list, h]
  · omega

theorem figures_nat (h : Nat) (hh : h ≤ 18014398509481984) (w : World) : Calls Tryz.prog 74 #[.int .i64 (h : Int)] w (Ret w [] fun v _ => ∃ b how, v = .tuple #[.string b, .int .i64 how] ∧ Said b how (numL (h : Int)) ∧ b.size ≤ 30) := by
  have hnl := numL_len hh
  refine calls_of Tryz.func74 rfl rfl rfl rfl ?_
  have FR := Fr.refl [] w
  refine DC.seq ?_
  refine DC.region ?_
  refine DL.y rfl rfl (Y.assign) ?_
  refine DL.y rfl rfl (Y.assign) ?_
  refine DL.nil ?_
  show DC _ _ _ _ _ _
  refine DC.seq ?_
  refine DC.block ?_
  refine DC.seq ?_
  refine DC.region ?_
  refine DL.y rfl rfl (Y.move) ?_
  refine DL.if rfl rfl (Y.lt rfl rfl) (fun c8 => ?_) (fun c8 => ?_)
  · exfalso; omega
  · refine DL.y rfl rfl (Y.move) ?_
    refine DL.y rfl rfl (Y.move) ?_
    refine DL.if rfl rfl (Y.gt rfl rfl) (fun c11 => ?_) (fun c11 => ?_)
    · exfalso; omega
    · refine DL.y rfl rfl (Y.pickF rfl) ?_
      refine DL.y rfl rfl (Y.assign) ?_
      refine DL.nil ?_
      show DC _ _ _ _ _ _
      refine DC.condF rfl ?_
      refine DC.seq ?_
      refine DC.region ?_
      refine DL.y rfl rfl (Y.move) ?_
      refine DL.if rfl rfl (Y.lt rfl rfl) (fun c15 => ?_) (fun c15 => ?_)
      · exfalso; omega
      · refine DL.y rfl rfl (Y.assign) ?_
        refine DL.nil ?_
        show DC _ _ _ _ _ _
        refine DC.condF rfl ?_
        refine DC.seq ?_
        refine DC.region ?_
        refine DL.y rfl rfl (Y.move) ?_
        refine DL.y rfl rfl (Y.quoI (c := ((h / 2 : Nat) : Int)) rfl rfl (by decide) (by rw [show (2 : Int) = ((2 : Nat) : Int) from rfl, tdivN h 2 (by decide)]; exact wrap_i64 (by omega) (by omega))) ?_
        refine DL.if rfl rfl (Y.gt rfl rfl) (fun c28 => ?_) (fun c28 => ?_)
        · refine DL.y rfl rfl (Y.assign) ?_
          refine DL.nil ?_
          show DC _ _ _ _ _ _
          refine DC.condT rfl ?_
          refine DC.seq ?_
          refine DC.region ?_
          refine DL.y rfl rfl (Y.assign) ?_
          refine DL.y rfl rfl (Y.assign) ?_
          refine DL.nil ?_
          show DC _ _ _ _ _ _
          refine DC.ret ?_
          exact FinQ.ret2 rfl rfl (Ret.mk FR ⟨_, _, rfl, Or.inr rfl, by decide⟩)
        · refine DL.y rfl rfl (Y.assign) ?_
          refine DL.nil ?_
          show DC _ _ _ _ _ _
          refine DC.condF rfl ?_
          refine DC.seq ?_
          refine DC.region ?_
          refine DL.y rfl rfl (Y.move) ?_
          refine DL.y rfl rfl (Y.remC (c := ((h % 2 : Nat) : Int)) rfl rfl (by decide) (tmodN h 2 (by decide))) ?_
          refine DL.if rfl rfl (Y.ne rfl rfl) (fun c32 => ?_) (fun c32 => ?_)
          · have hodd : h % 2 = 1 := by omega
            refine DL.y rfl rfl (Y.assign) ?_
            refine DL.nil ?_
            show DC _ _ _ _ _ _
            refine DC.condT rfl ?_
            refine DC.seq ?_
            refine DC.region ?_
            refine DL.y rfl rfl (Y.move) ?_
            refine DL.y rfl rfl (Y.quoI (c := ((h / 2 : Nat) : Int)) rfl rfl (by decide) (by rw [show (2 : Int) = ((2 : Nat) : Int) from rfl, tdivN h 2 (by decide)]; exact wrap_i64 (by omega) (by omega))) ?_
            refine DL.call rfl rfl F.nm123 rfl (digits_any (h / 2) (by omega) _) ?_
            rintro _ w1 f2 ⟨bd, rfl, hbd⟩
            replace FR := FR.tr0 f2
            refine DL.catE rfl rfl rfl rfl (by have := size_list bd; rw [hbd] at this; have := decL_len 18 (h / 2) (by omega); rw [show (⟨#[46, 53]⟩ : ByteArray).size = 2 from rfl]; omega) (fun c36 h36 => ?_)
            refine DL.y rfl rfl (Y.assign) ?_
            refine DL.y rfl rfl (Y.assign) ?_
            refine DL.nil ?_
            show DC _ _ _ _ _ _
            refine DC.ret ?_
            have hx : c36.data.toList = numL (h : Int) := by rw [h36, hbd]; simp [numL, show ¬ ((h : Int) < 0) by omega, hodd]
            exact FinQ.ret2 rfl rfl (Ret.mk FR ⟨c36, _, rfl, Or.inl ⟨rfl, hx⟩, by rw [size_list, hx]; exact hnl⟩)
          · have heven : ¬ h % 2 = 1 := by omega
            refine DL.y rfl rfl (Y.assign) ?_
            refine DL.nil ?_
            show DC _ _ _ _ _ _
            refine DC.condF rfl ?_
            refine DC.skip ?_
            show DC _ _ _ _ _ _
            refine DC.seq ?_
            refine DC.region ?_
            refine DL.y rfl rfl (Y.move) ?_
            refine DL.y rfl rfl (Y.quoI (c := ((h / 2 : Nat) : Int)) rfl rfl (by decide) (by rw [show (2 : Int) = ((2 : Nat) : Int) from rfl, tdivN h 2 (by decide)]; exact wrap_i64 (by omega) (by omega))) ?_
            refine DL.call rfl rfl F.nm123 rfl (digits_any (h / 2) (by omega) _) ?_
            rintro _ w3 f4 ⟨bd, rfl, hbd⟩
            replace FR := FR.tr0 f4
            refine DL.y rfl rfl (Y.assign) ?_
            refine DL.y rfl rfl (Y.assign) ?_
            refine DL.nil ?_
            show DC _ _ _ _ _ _
            refine DC.ret ?_
            have hx : bd.data.toList = numL (h : Int) := by rw [hbd]; simp [numL, show ¬ ((h : Int) < 0) by omega, heven]
            exact FinQ.ret2 rfl rfl (Ret.mk FR ⟨bd, _, rfl, Or.inl ⟨rfl, hx⟩, by rw [size_list, hx]; exact hnl⟩)

theorem figures_neg (h : Nat) (h0 : 0 < h) (hh : h ≤ 18014398509481984) (w : World) : Calls Tryz.prog 74 #[.int .i64 (-(h : Int))] w (Ret w [] fun v _ => ∃ b how, v = .tuple #[.string b, .int .i64 how] ∧ Said b how (numL (-(h : Int)))) := by
  refine calls_of Tryz.func74 rfl rfl rfl rfl ?_
  have FR := Fr.refl [] w
  refine DC.seq ?_
  refine DC.region ?_
  refine DL.y rfl rfl (Y.assign) ?_
  refine DL.y rfl rfl (Y.assign) ?_
  refine DL.nil ?_
  show DC _ _ _ _ _ _
  refine DC.seq ?_
  refine DC.block ?_
  refine DC.seq ?_
  refine DC.region ?_
  refine DL.y rfl rfl (Y.move) ?_
  refine DL.if rfl rfl (Y.lt rfl rfl) (fun c8 => ?_) (fun c8 => ?_)
  · exfalso; omega
  · refine DL.y rfl rfl (Y.move) ?_
    refine DL.y rfl rfl (Y.move) ?_
    refine DL.if rfl rfl (Y.gt rfl rfl) (fun c11 => ?_) (fun c11 => ?_)
    · exfalso; omega
    · refine DL.y rfl rfl (Y.pickF rfl) ?_
      refine DL.y rfl rfl (Y.assign) ?_
      refine DL.nil ?_
      show DC _ _ _ _ _ _
      refine DC.condF rfl ?_
      refine DC.seq ?_
      refine DC.region ?_
      refine DL.y rfl rfl (Y.move) ?_
      refine DL.if rfl rfl (Y.lt rfl rfl) (fun c15 => ?_) (fun c15 => ?_)
      · refine DL.y rfl rfl (Y.assign) ?_
        refine DL.nil ?_
        show DC _ _ _ _ _ _
        refine DC.condT rfl ?_
        refine DC.seq ?_
        refine DC.region ?_
        refine DL.y rfl rfl (Y.move) ?_
        refine DL.y rfl rfl (Y.negI (c := (h : Int)) rfl (by omega) (by omega) (by omega)) ?_
        refine DL.call rfl rfl F.nm74 rfl (figures_nat h hh _) ?_
        rintro _ w1 f2 ⟨bd, how, rfl, hsd, hbs⟩
        replace FR := FR.tr0 f2
        refine DL.y rfl rfl (Y.move) ?_
        refine DL.y rfl rfl (Y.extract rfl rfl) ?_
        refine DL.y rfl rfl (Y.extract rfl rfl) ?_
        refine DL.y rfl rfl (Y.assign) ?_
        refine DL.y rfl rfl (Y.assign) ?_
        refine DL.nil ?_
        show DC _ _ _ _ _ _
        refine DC.seq ?_
        refine DC.region ?_
        refine DL.y rfl rfl (Y.move) ?_
        refine DL.catE rfl rfl rfl rfl (by rw [show (⟨#[45]⟩ : ByteArray).size = 1 from rfl]; omega) (fun c23 h23 => ?_)
        refine DL.y rfl rfl (Y.move) ?_
        refine DL.y rfl rfl (Y.assign) ?_
        refine DL.y rfl rfl (Y.assign) ?_
        refine DL.nil ?_
        show DC _ _ _ _ _ _
        refine DC.ret ?_
        refine FinQ.ret2 rfl rfl (Ret.mk FR ⟨c23, how, rfl, hsd.imp (fun h1 => ⟨h1.1, ?_⟩) (fun h1 => h1)⟩)
        rw [h23, h1.2]
        simp [numL, show ((h : Int) < 0) = False by simp, show (-(h : Int) < 0) = True by simp; omega, h0]
      · exfalso; omega


theorem figures_any (h : Int) (hh : -18014398509481984 ≤ h ∧ h ≤ 18014398509481984) (w : World) : Calls Tryz.prog 74 #[.int .i64 h] w (Ret w [] fun v _ => ∃ b how, v = .tuple #[.string b, .int .i64 how] ∧ Said b how (numL h)) := by
  rcases (show h < 0 ∨ 0 ≤ h by omega) with h0 | h0
  · obtain ⟨n, rfl⟩ : ∃ n : Nat, h = -(n : Int) := ⟨h.natAbs, by omega⟩
    exact figures_neg n (by omega) (by omega) w
  · obtain ⟨n, rfl⟩ : ∃ n : Nat, h = (n : Int) := ⟨h.toNat, by omega⟩
    exact (figures_nat n (by omega) w).mono fun e w' hx => Ret.imp (fun r w1 hf hp => by obtain ⟨b, how, h1, h2, h3⟩ := hp; exact ⟨b, how, h1, h2⟩) hx

end Go.Proofs.YtmbleojlnaofjaaGreatDoor

/- The walks of strings.Builder's methods. -/
namespace Go.Proofs.YtmbleojlnaofjaaGreatDoor
open Go Go.RowKit D Go.Deep
set_option linter.unusedVariables false
set_option linter.unusedSimpArgs false


def bv (l : List UInt8) : List Value := l.map fun c => .int .u8 (c.toNat : Int)
theorem bv_append (a b : List UInt8) : bv (a ++ b) = bv a ++ bv b := by simp [bv]
theorem bv_len (a : List UInt8) : (bv a).length = a.length := by simp [bv]
/-- Of a list of blocks each is one of S or lies behind the end of w. -/
def Sub (X S : List Nat) (w : World) : Prop := ∀ i ∈ X, i ∈ S ∨ w.heap.size ≤ i
theorem Sub.refl (X : List Nat) (w : World) : Sub X X w := fun i h => Or.inl h
theorem Sub.step {X X' S : List Nat} {w0 w : World} (h : Sub X S w0) (hs : w0.heap.size ≤ w.heap.size) (k : Sub X' X w) : Sub X' S w0 := fun i hi => (k i hi).elim (h i) (fun h2 => Or.inr (Nat.le_trans hs h2))
theorem Sub.not {X X' : List Nat} {w : World} {c : Nat} (k : Sub X' X w) (h : c ∉ X) (hc : c < w.heap.size) : c ∉ X' := fun hi => (k c hi).elim h (fun h2 => by omega)
theorem Sub.cons {X X' : List Nat} {w : World} (k : Sub X' X w) (b : Nat) : Sub (b :: X') (b :: X) w := fun i hi => by
  rcases List.mem_cons.1 hi with rfl | h
  · exact Or.inl (by simp)
  · exact (k i h).imp (fun h => by simp [h]) id
theorem Fr.mono {S T : List Nat} {w w' : World} (h : Fr S w w') (hs : ∀ i ∈ S, i ∈ T) : Fr T w w' := ⟨h.os, h.tape, h.output, h.size, fun i hi ht => h.block i hi (fun h2 => ht (hs i h2))⟩
theorem Ret.into {w : World} {S T : List Nat} {p q : Value → World → Prop} (hs : ∀ i ∈ S, i ∈ T) (h : ∀ v w', Fr S w w' → p v w' → q v w') : ∀ x w', Ret w S p x w' → Ret w T q x w' := by
  intro x w' hx
  cases x with
  | returned v => exact ⟨Fr.mono hx.1 hs, h v w' hx.1 hx.2⟩
  | _ => exact hx.elim
/-- A builder in block b, with its bytes and its blocks. -/
structure Bld (w : World) (B b : Nat) (X : List Nat) (l : List UInt8) : Prop where
  out : ∃ p v, w.heap[b]? = some (.cells #[p, v] 159 (0, 0)) ∧ (p = .pointer none ∨ p = .pointer (some ⟨b, 0, none⟩)) ∧ w.ownsRow B 5 1 v l.length (bv l) ∧ X = b :: ownL v
  lo : B ≤ b
theorem Bld.ge {w : World} {B b : Nat} {X : List Nat} {l : List UInt8} (h : Bld w B b X l) : ∀ i ∈ X, B ≤ i ∧ i < w.heap.size := by
  obtain ⟨p, v, hb, hp, ho, rfl⟩ := h.out
  intro i hi
  rcases List.mem_cons.1 hi with rfl | hi
  · exact ⟨h.lo, lt_of_blk hb⟩
  · exact own_ge ho i hi
theorem Bld.fr {w w' : World} {B b : Nat} {X S : List Nat} {l : List UInt8} (h : Bld w B b X l) (f : Fr S w w') (hs : ∀ i ∈ S, i ∉ X) : Bld w' B b X l := by
  obtain ⟨p, v, hb, hp, ho, rfl⟩ := h.out
  exact ⟨⟨p, v, f.blk hb (fun hi => hs b hi (by simp)), hp, ownsRow_fr ho f (fun i hi hv => hs i hi (by simp [mem_ownL.2 hv])), rfl⟩, h.lo⟩
theorem own_one {w : World} {B e size n : Nat} {v : Value} {xs : List Value} (h : w.ownsRow B e size v n xs) : v.oneCell' = true := by
  rcases h.2 with ⟨rfl, _⟩ | ⟨g, cap, cur, rfl, _⟩ <;> rfl
theorem own_ne_b {w : World} {B b n : Nat} {v : Value} {xs : List Value} {cs : Array Value} (ho : w.ownsRow B 5 1 v n xs) (hb : w.heap[b]? = some (.cells cs 159 (0, 0))) : b ∉ ownL v := fun h => Lib.ownBlock_ne ho hb (by decide) (mem_ownL.1 h)


theorem flatC_one (l : List Value) : flatC (l.map fun x => #[x]) = l := by
  induction l with
  | nil => rfl
  | cons x l ih => simp only [flatC, List.map_cons, List.flatMap_cons] at ih ⊢; rw [ih]; rfl
theorem flatC_range {n : Nat} {f : Nat → Value} : flatC ((List.range n).map fun i => #[f i]) = (List.range n).map f := by
  have : ((List.range n).map fun i => #[f i]) = ((List.range n).map f).map fun x => #[x] := by simp
  rw [this, flatC_one]
theorem range_bv (l : List UInt8) : (List.range l.length).map (fun i => Value.int .u8 ((l.getD i 0).toNat : Int)) = bv l := by
  apply List.ext_getElem
  · simp [bv]
  · intro i h1 h2
    have : i < l.length := by simpa using h1
    simp [bv, List.getD_eq_getElem?_getD, this]

theorem copyCheck_new (b : Nat) (v : Value) (w : World) (hb : w.heap[b]? = some (.cells #[.pointer none, v] 159 (0, 0))) : Calls Tryz.prog 268 #[(.pointer (some ⟨b, 0, none⟩))] w (Ret w [b] fun r w' => r = .tuple #[] ∧ w'.heap[b]? = some (.cells #[(.pointer (some ⟨b, 0, none⟩)), v] 159 (0, 0))) := by
  refine calls_of Tryz.func268 rfl rfl rfl rfl ?_
  have FR := Fr.refl [b] w
  refine DC.seq ?_
  refine DC.region ?_
  refine DL.y rfl rfl (Y.move) ?_
  refine DL.y rfl rfl (Y.nil rfl) ?_
  refine DL.y rfl rfl (Y.field F.fd159_0 rfl) ?_
  refine DL.y rfl rfl (Y.loadB F.sc157 rfl hb rfl) ?_
  refine DL.y rfl rfl (Y.ptrNil (b := true) (by kernel_rfl) rfl rfl) ?_
  refine DL.nil ?_
  show DC _ _ _ _ _ _
  refine DC.condT rfl ?_
  refine DC.region ?_
  refine DL.y rfl rfl (Y.move) ?_
  refine DL.y rfl rfl (Y.move) ?_
  refine DL.y rfl rfl (Y.toUns (t := 159) (el := 159) (cells := 2) (j := (Tryz.prog.info? 159).get!) (by kernel_rfl) (by kernel_rfl) (by kernel_rfl) (by have : (Tryz.prog.info? 159).get!.size = 2 := by { kernel_rfl }; rw [this]; decide) rfl (by simp [World.shape?, hb]) (by show 0 < 2; omega)) ?_
  refine DL.y rfl rfl (Y.ext1 (fn := Tryz.f269) Tryz.func269 (by kernel_rfl) (by kernel_rfl) (by kernel_rfl) (by kernel_rfl) rfl (Lib.run_noEscape _ _)) ?_
  refine DL.y rfl rfl (Y.fromUns (u := 159) (el := 159) (cells := 2) (j := (Tryz.prog.info? 159).get!) (by kernel_rfl) (by kernel_rfl) (by kernel_rfl) rfl (by simp [World.shape?, hb]) (by kernel_rfl)) ?_
  refine DL.y rfl rfl (Y.nil rfl) ?_
  refine DL.y rfl rfl (Y.field F.fd159_0 rfl) ?_
  refine DL.store rfl F.co157 F.in157 rfl rfl rfl hb rfl ?_
  intro w1 f2 hs3 hb'
  replace FR := FR.put f2 (by intro i hi; simp only [List.mem_cons, List.mem_singleton, List.not_mem_nil, or_false] at hi; rcases hi with rfl; all_goals (first | (left; simp; done) | (right; omega)))
  replace hb := hb'
  refine DL.nil ?_
  exact FinQ.end0 (Ret.mk FR ⟨rfl, hb⟩)

theorem copyCheck_used (b : Nat) (v : Value) (w : World) (hb : w.heap[b]? = some (.cells #[.pointer (some ⟨b, 0, none⟩), v] 159 (0, 0))) : Calls Tryz.prog 268 #[(.pointer (some ⟨b, 0, none⟩))] w (Ret w [b] fun r w' => r = .tuple #[] ∧ w'.heap[b]? = some (.cells #[(.pointer (some ⟨b, 0, none⟩)), v] 159 (0, 0))) := by
  refine calls_of Tryz.func268 rfl rfl rfl rfl ?_
  have FR := Fr.refl [b] w
  refine DC.seq ?_
  refine DC.region ?_
  refine DL.y rfl rfl (Y.move) ?_
  refine DL.y rfl rfl (Y.nil rfl) ?_
  refine DL.y rfl rfl (Y.field F.fd159_0 rfl) ?_
  refine DL.y rfl rfl (Y.loadB F.sc157 rfl hb rfl) ?_
  refine DL.y rfl rfl (Y.ptrNil (b := false) (by kernel_rfl) rfl rfl) ?_
  refine DL.nil ?_
  show DC _ _ _ _ _ _
  refine DC.condF rfl ?_
  refine DC.seq ?_
  refine DC.region ?_
  refine DL.y rfl rfl (Y.move) ?_
  refine DL.y rfl rfl (Y.nil rfl) ?_
  refine DL.y rfl rfl (Y.field F.fd159_0 rfl) ?_
  refine DL.y rfl rfl (Y.loadB F.sc157 rfl hb rfl) ?_
  refine DL.y rfl rfl (Y.move) ?_
  refine DL.y rfl rfl (Y.ptrNe (te := 159) (j := (Tryz.prog.info? 159).get!) (by kernel_rfl) (by kernel_rfl) rfl rfl) ?_
  refine DL.nil ?_
  show DC _ _ _ _ _ _
  refine DC.condF rfl ?_
  refine DC.skip ?_
  exact FinQ.end0 (Ret.mk FR ⟨rfl, hb⟩)


theorem copyCheck_any {b : Nat} {p v : Value} {w : World} (hb : w.heap[b]? = some (.cells #[p, v] 159 (0, 0))) (hp : p = .pointer none ∨ p = .pointer (some ⟨b, 0, none⟩)) : Calls Tryz.prog 268 #[(.pointer (some ⟨b, 0, none⟩))] w (Ret w [b] fun r w' => r = .tuple #[] ∧ w'.heap[b]? = some (.cells #[(.pointer (some ⟨b, 0, none⟩)), v] 159 (0, 0))) := by
  rcases hp with rfl | rfl
  · exact copyCheck_new b v w hb
  · exact copyCheck_used b v w hb

theorem WriteString_any {B b : Nat} {X : List Nat} {l : List UInt8} {s : ByteArray} {w : World} (h : Bld w B b X l) (hlen : l.length + s.size ≤ 140737488355328) : Calls Tryz.prog 267 #[(.pointer (some ⟨b, 0, none⟩)), .string s] w (Ret w X fun r w' => ∃ X', Bld w' B b X' (l ++ s.data.toList) ∧ Sub X' X w) := by
  obtain ⟨p, v, hb, hp, ho, rfl⟩ := h.out
  have hB := h.lo
  have hbl := lt_of_blk hb
  refine calls_of Tryz.func267 rfl rfl rfl rfl ?_
  have FR := Fr.refl (b :: ownL v) w
  refine DC.seq ?_
  refine DC.region ?_
  refine DL.y rfl rfl (Y.assign) ?_
  refine DL.y rfl rfl (Y.assign) ?_
  refine DL.nil ?_
  show DC _ _ _ _ _ _
  refine DC.seq ?_
  refine DC.region ?_
  refine DL.y rfl rfl (Y.move) ?_
  refine DL.call rfl rfl F.nm268 rfl (copyCheck_any hb hp) ?_
  rintro _ w1 f2 ⟨rfl, hb'⟩
  replace FR := FR.put f2 (by intro i hi; simp only [List.mem_cons, List.mem_singleton, List.not_mem_nil, or_false] at hi; rcases hi with rfl; all_goals (first | (left; simp; done) | (right; omega)))
  replace ho := ownsRow_fr ho f2 (fun i hi hv => by rcases List.mem_singleton.1 hi with rfl; exact own_ne_b ho hb (mem_ownL.2 hv))
  replace hb := hb'
  refine DL.nil ?_
  show DC _ _ _ _ _ _
  refine DC.seq ?_
  refine DC.region ?_
  refine DL.y rfl rfl (Y.move) ?_
  refine DL.y rfl rfl (Y.move) ?_
  refine DL.y rfl rfl (Y.nil rfl) ?_
  refine DL.y rfl rfl (Y.field F.fd159_1 rfl) ?_
  refine DL.y rfl rfl (Y.loadB F.sc107 rfl hb rfl) ?_
  refine DL.y rfl rfl (Y.move) ?_
  refine DL.appStrAt (v := v) rfl rfl F.el107 Tryz.underlying9 F.z5 rfl rfl ho (by omega) (by have := FR.size; omega) ?_
  intro v1 w3 f4 ho1 hat1
  have hsub : Sub (b :: ownL v1) (b :: ownL v) w := fun i hi => by
    rcases List.mem_cons.1 hi with rfl | hi
    · exact Or.inl (by simp)
    · rcases hat1 with h | h
      · exact Or.inl (by rw [List.mem_cons]; right; rw [mem_ownL, ← h]; exact mem_ownL.1 hi)
      · have h3 := mem_ownL.1 hi; rw [h] at h3; injection h3 with h3; right; have := FR.size; omega
  have hnb : b ∉ ownL v := own_ne_b ho hb
  replace FR := FR.put f4 (fun i hi => Or.inl (by simp [hi]))
  replace hb := f4.blk hb hnb
  replace ho := ho1
  have hnb1 : b ∉ ownL v1 := own_ne_b ho hb
  refine DL.y rfl rfl (Y.nil rfl) ?_
  refine DL.y rfl rfl (Y.field F.fd159_1 rfl) ?_
  refine DL.store rfl F.co107 F.in107 rfl rfl (own_one ho) hb rfl ?_
  intro w5 f6 hs7 hb'
  replace FR := FR.put f6 (by intro i hi; simp only [List.mem_cons, List.mem_singleton, List.not_mem_nil, or_false] at hi; rcases hi with rfl; all_goals (first | (left; simp; done) | (right; omega)))
  replace ho := ownsRow_fr ho f6 (fun i hi hv => by rcases List.mem_singleton.1 hi with rfl; exact hnb1 (mem_ownL.2 hv))
  replace hb := hb'
  refine DL.nil ?_
  show DC _ _ _ _ _ _
  refine DC.seq ?_
  refine DC.region ?_
  refine DL.y rfl rfl (Y.move) ?_
  refine DL.y rfl rfl (Y.lenStr Tryz.underlying9 rfl) ?_
  refine DL.y rfl rfl (Y.assign) ?_
  refine DL.y rfl rfl (Y.assign) ?_
  refine DL.nil ?_
  show DC _ _ _ _ _ _
  refine DC.ret ?_
  refine FinQ.ret2 rfl rfl (Ret.mk FR ⟨_, ⟨⟨_, _, hb, Or.inr rfl, ?_, rfl⟩, hB⟩, hsub⟩)
  have e1 := size_list s
  rw [List.length_append, ← e1, bv_append]; exact ho

theorem WriteByte_any {B b : Nat} {X : List Nat} {l : List UInt8} {c : UInt8} {w : World} (h : Bld w B b X l) (hlen : l.length + 1 ≤ 140737488355328) : Calls Tryz.prog 266 #[(.pointer (some ⟨b, 0, none⟩)), .int .u8 (c.toNat : Int)] w (Ret w X fun r w' => ∃ X', Bld w' B b X' (l ++ [c]) ∧ Sub X' X w) := by
  obtain ⟨p, v, hb, hp, ho, rfl⟩ := h.out
  have hB := h.lo
  have hbl := lt_of_blk hb
  refine calls_of Tryz.func266 rfl rfl rfl rfl ?_
  have FR := Fr.refl (b :: ownL v) w
  refine DC.seq ?_
  refine DC.region ?_
  refine DL.y rfl rfl (Y.assign) ?_
  refine DL.nil ?_
  show DC _ _ _ _ _ _
  refine DC.seq ?_
  refine DC.region ?_
  refine DL.y rfl rfl (Y.move) ?_
  refine DL.call rfl rfl F.nm268 rfl (copyCheck_any hb hp) ?_
  rintro _ w1 f2 ⟨rfl, hb'⟩
  replace FR := FR.put f2 (by intro i hi; simp only [List.mem_cons, List.mem_singleton, List.not_mem_nil, or_false] at hi; rcases hi with rfl; all_goals (first | (left; simp; done) | (right; omega)))
  replace ho := ownsRow_fr ho f2 (fun i hi hv => by rcases List.mem_singleton.1 hi with rfl; exact own_ne_b ho hb (mem_ownL.2 hv))
  replace hb := hb'
  refine DL.nil ?_
  show DC _ _ _ _ _ _
  refine DC.seq ?_
  refine DC.region ?_
  refine DL.y rfl rfl (Y.move) ?_
  refine DL.y rfl rfl (Y.move) ?_
  refine DL.y rfl rfl (Y.nil rfl) ?_
  refine DL.y rfl rfl (Y.field F.fd159_1 rfl) ?_
  refine DL.y rfl rfl (Y.loadB F.sc107 rfl hb rfl) ?_
  refine DL.y rfl rfl (Y.move) ?_
  refine DL.buildSl1 (cs := #[.int .u8 (c.toNat : Int)]) rfl rfl F.el107 rfl rfl rfl ?_
  intro b13 w3 f4 lo13 hi13 hb13
  replace ho := ownsRow_fr ho f4 (by simp)
  have hwl := FR.size
  replace FR := FR.tr0 f4
  replace hb := f4.blk0 hb
  refine DL.appendRow (v := v) (css := (bv l).map fun x => #[x]) (cl := fun _ => #[.int .u8 (c.toNat : Int)]) rfl rfl F.el107 rfl rfl (by rw [flatC_one]; exact ho) (fun i hi => ⟨b13, 0, rfl, (by obtain rfl : i = 0 := by { omega }; exact CellsAt.ofBlk hb13), rfl, by simp [Value.oneCell']⟩) (by omega) (by omega) (by have := FR.size; omega) ?_
  intro v1 w5 f6 ho1 hat1
  have hsub : Sub (b :: ownL v1) (b :: ownL v) w := fun i hi => by
    rcases List.mem_cons.1 hi with rfl | hi
    · exact Or.inl (by simp)
    · rcases hat1 with h | h
      · exact Or.inl (by rw [List.mem_cons]; right; rw [mem_ownL, ← h]; exact mem_ownL.1 hi)
      · have h3 := mem_ownL.1 hi; rw [h] at h3; injection h3 with h3; right; have := FR.size; omega
  have hnb : b ∉ ownL v := own_ne_b ho hb
  replace FR := FR.put f6 (fun i hi => Or.inl (by simp [hi]))
  replace hb := f6.blk hb hnb
  replace ho := ho1
  have hnb1 : b ∉ ownL v1 := own_ne_b ho hb
  refine DL.y rfl rfl (Y.nil rfl) ?_
  refine DL.y rfl rfl (Y.field F.fd159_1 rfl) ?_
  refine DL.store rfl F.co107 F.in107 rfl rfl (own_one ho) hb rfl ?_
  intro w7 f8 hs9 hb'
  replace FR := FR.put f8 (by intro i hi; simp only [List.mem_cons, List.mem_singleton, List.not_mem_nil, or_false] at hi; rcases hi with rfl; all_goals (first | (left; simp; done) | (right; omega)))
  replace ho := ownsRow_fr ho f8 (fun i hi hv => by rcases List.mem_singleton.1 hi with rfl; exact hnb1 (mem_ownL.2 hv))
  replace hb := hb'
  refine DL.nil ?_
  show DC _ _ _ _ _ _
  refine DC.seq ?_
  refine DC.region ?_
  refine DL.y rfl rfl (Y.assign) ?_
  refine DL.nil ?_
  show DC _ _ _ _ _ _
  refine DC.ret ?_
  refine FinQ.ret1 rfl (Ret.mk FR ⟨_, ⟨⟨_, _, hb, Or.inr rfl, ?_, rfl⟩, hB⟩, hsub⟩)
  rw [flatC_append, flatC_one] at ho
  rw [List.length_append, bv_append]; exact ho

theorem Write_any {B b o cap g : Nat} {X : List Nat} {l m : List UInt8} {w : World} (h : Bld w B b X l) (hg : g ∉ X) (hm : ∀ i (hi : i < m.length), w.cell? ⟨g, o + i, none⟩ = some (.int .u8 (m[i].toNat : Int))) (hlen : l.length + m.length ≤ 140737488355328) : Calls Tryz.prog 265 #[(.pointer (some ⟨b, 0, none⟩)), .slice (some ⟨g, o, none⟩) m.length cap] w (Ret w X fun r w' => ∃ X', Bld w' B b X' (l ++ m) ∧ Sub X' X w) := by
  obtain ⟨p, v, hb, hp, ho, rfl⟩ := h.out
  have hB := h.lo
  have hbl := lt_of_blk hb
  have hgb : g ≠ b := fun e => hg (by simp [e])
  refine calls_of Tryz.func265 rfl rfl rfl rfl ?_
  have FR := Fr.refl (b :: ownL v) w
  refine DC.seq ?_
  refine DC.region ?_
  refine DL.y rfl rfl (Y.assign) ?_
  refine DL.y rfl rfl (Y.assign) ?_
  refine DL.nil ?_
  show DC _ _ _ _ _ _
  refine DC.seq ?_
  refine DC.region ?_
  refine DL.y rfl rfl (Y.move) ?_
  refine DL.call rfl rfl F.nm268 rfl (copyCheck_any hb hp) ?_
  rintro _ w1 f2 ⟨rfl, hb'⟩
  replace FR := FR.put f2 (by intro i hi; simp only [List.mem_cons, List.mem_singleton, List.not_mem_nil, or_false] at hi; rcases hi with rfl; all_goals (first | (left; simp; done) | (right; omega)))
  replace ho := ownsRow_fr ho f2 (fun i hi hv => by rcases List.mem_singleton.1 hi with rfl; exact own_ne_b ho hb (mem_ownL.2 hv))
  replace hm := fun i hi => Fr.cell f2 (hm i hi) (by simpa using hgb)
  replace hb := hb'
  refine DL.nil ?_
  show DC _ _ _ _ _ _
  refine DC.seq ?_
  refine DC.region ?_
  refine DL.y rfl rfl (Y.move) ?_
  refine DL.y rfl rfl (Y.move) ?_
  refine DL.y rfl rfl (Y.nil rfl) ?_
  refine DL.y rfl rfl (Y.field F.fd159_1 rfl) ?_
  refine DL.y rfl rfl (Y.loadB F.sc107 rfl hb rfl) ?_
  refine DL.y rfl rfl (Y.move) ?_
  refine DL.appendRow (v := v) (css := (bv l).map fun x => #[x]) (cl := fun i => #[.int .u8 ((m.getD i 0).toNat : Int)]) rfl rfl F.el107 rfl rfl (by rw [flatC_one]; exact ho) (fun i hi => ⟨g, o, rfl, (fun j hj => by have hj : j = 0 := by { simp at hj; omega }; subst hj; rw [Nat.mul_one, Nat.add_zero, hm i hi]; simp [List.getD_eq_getElem?_getD, hi]), rfl, by simp [Value.oneCell']⟩) (by omega) (by omega) (by have := FR.size; omega) ?_
  intro v1 w3 f4 ho1 hat1
  have hsub : Sub (b :: ownL v1) (b :: ownL v) w := fun i hi => by
    rcases List.mem_cons.1 hi with rfl | hi
    · exact Or.inl (by simp)
    · rcases hat1 with h | h
      · exact Or.inl (by rw [List.mem_cons]; right; rw [mem_ownL, ← h]; exact mem_ownL.1 hi)
      · have h3 := mem_ownL.1 hi; rw [h] at h3; injection h3 with h3; right; have := FR.size; omega
  have hnb : b ∉ ownL v := own_ne_b ho hb
  replace FR := FR.put f4 (fun i hi => Or.inl (by simp [hi]))
  replace hb := f4.blk hb hnb
  replace ho := ho1
  have hnb1 : b ∉ ownL v1 := own_ne_b ho hb
  refine DL.y rfl rfl (Y.nil rfl) ?_
  refine DL.y rfl rfl (Y.field F.fd159_1 rfl) ?_
  refine DL.store rfl F.co107 F.in107 rfl rfl (own_one ho) hb rfl ?_
  intro w5 f6 hs7 hb'
  replace FR := FR.put f6 (by intro i hi; simp only [List.mem_cons, List.mem_singleton, List.not_mem_nil, or_false] at hi; rcases hi with rfl; all_goals (first | (left; simp; done) | (right; omega)))
  replace ho := ownsRow_fr ho f6 (fun i hi hv => by rcases List.mem_singleton.1 hi with rfl; exact hnb1 (mem_ownL.2 hv))
  replace hb := hb'
  refine DL.nil ?_
  show DC _ _ _ _ _ _
  refine DC.seq ?_
  refine DC.region ?_
  refine DL.y rfl rfl (Y.move) ?_
  refine DL.y rfl rfl (Y.lenS Tryz.underlying107 rfl) ?_
  refine DL.y rfl rfl (Y.assign) ?_
  refine DL.y rfl rfl (Y.assign) ?_
  refine DL.nil ?_
  show DC _ _ _ _ _ _
  refine DC.ret ?_
  refine FinQ.ret2 rfl rfl (Ret.mk FR ⟨_, ⟨⟨_, _, hb, Or.inr rfl, ?_, rfl⟩, hB⟩, hsub⟩)
  rw [flatC_append, flatC_one, flatC_range, range_bv] at ho
  rw [List.length_append, bv_append]; exact ho

end Go.Proofs.YtmbleojlnaofjaaGreatDoor

/- The walks of FormatUint and FormatInt. -/
namespace Go.Proofs.YtmbleojlnaofjaaGreatDoor
open Go Go.RowKit D Go.Deep
set_option linter.unusedVariables false
set_option linter.unusedSimpArgs false


theorem dig36 : ∀ d, d < 10 → (⟨#[48, 49, 50, 51, 52, 53, 54, 55, 56, 57, 97, 98, 99, 100, 101, 102, 103, 104, 105, 106, 107, 108, 109, 110, 111, 112, 113, 114, 115, 116, 117, 118, 119, 120, 121, 122]⟩ : ByteArray).data.toList[d]? = some (UInt8.ofNat (48 + d))
  | 0, _ => rfl
  | 1, _ => rfl
  | 2, _ => rfl
  | 3, _ => rfl
  | 4, _ => rfl
  | 5, _ => rfl
  | 6, _ => rfl
  | 7, _ => rfl
  | 8, _ => rfl
  | 9, _ => rfl
  | d + 10, h => by omega
theorem decL_ne (n : Nat) : 1 ≤ (decL n).length := by
  by_cases h : n < 10
  · rw [decL_lt h]; simp
  · rw [decL_ge (by omega)]; simp
theorem arr64 : arrayT Tryz.prog 162 5 64 1 = true := by kernel_rfl
/-- How far the digits of n0 stand: of n they are still to be laid. -/
def Digs (n0 n i : Nat) (l : List UInt8) : Prop := (i = 64 ∧ n = n0 ∧ l = []) ∨ (i < 64 ∧ ((0 < n ∧ decL n ++ l = decL n0) ∨ (n = 0 ∧ l = decL n0)))
theorem Digs.step {n0 n i : Nat} {l : List UInt8} (h : Digs n0 n i l) (hil : i + l.length = 64) (hb : (decL n0).length ≤ 20) (hgo : i = 64 ∨ 0 < n) : 1 ≤ i ∧ Digs n0 (n / 10) (i - 1) (UInt8.ofNat (48 + n % 10) :: l) := by
  have key : decL n ++ l = decL n0 → 1 ≤ i ∧ Digs n0 (n / 10) (i - 1) (UInt8.ofNat (48 + n % 10) :: l) := by
    intro he
    have h1 := congrArg List.length he
    rw [List.length_append] at h1
    have h2 := decL_ne n
    refine ⟨by omega, Or.inr ⟨by omega, ?_⟩⟩
    by_cases hn : n < 10
    · right
      refine ⟨by omega, ?_⟩
      rw [← he, decL_lt hn, Nat.mod_eq_of_lt hn]; rfl
    · left
      refine ⟨by omega, ?_⟩
      rw [← he, decL_ge (n := n) (by omega)]; simp
  rcases h with ⟨rfl, rfl, rfl⟩ | ⟨h1, h2 | h2⟩
  · exact key (by simp)
  · exact key h2.2
  · omega
theorem Digs.done {n0 n i : Nat} {l : List UInt8} (h : Digs n0 n i l) (h1 : ¬ i = 64) (h2 : ¬ 0 < n) : l = decL n0 := by
  rcases h with ⟨h, _⟩ | ⟨_, h | h⟩
  · exact absurd h h1
  · exact absurd h.1 h2
  · exact h.2
/-- The cells from i on hold l. -/
def Tail (cur : Array Value) (i : Nat) (l : List UInt8) : Prop := ∀ j (hj : j < l.length), cur[i + j]? = some (.int .u8 (l[j].toNat : Int))
theorem Tail.push {cur : Array Value} {i : Nat} {l : List UInt8} {c : UInt8} (h : Tail cur i l) (hi : 1 ≤ i) (hs : i ≤ cur.size) : Tail (cur.setIfInBounds (0 + (i - 1) * 1) (.int .u8 (c.toNat : Int))) (i - 1) (c :: l) := by
  intro j hj
  have e1 : 0 + (i - 1) * 1 = i - 1 := by omega
  rw [e1]
  cases j with
  | zero => simp [Array.getElem?_setIfInBounds]; omega
  | succ j =>
    have e2 : i - 1 + (j + 1) = i + j := by omega
    rw [e2, Array.getElem?_setIfInBounds_ne (by omega)]
    exact h j (by simpa using hj)

theorem FormatUint_any (n : Nat) (hn : n < 18446744073709551616) (w : World) : Calls Tryz.prog 197 #[.int .u64 (n : Int), .int .i64 10] w (Ret w [] fun v _ => ∃ s : ByteArray, v = .string s ∧ s.data.toList = decL n) := by
  have hdl := decL_len 19 n (by omega)
  refine calls_of Tryz.func197 rfl rfl rfl rfl ?_
  have FR := Fr.refl [] w
  refine DC.seq ?_
  refine DC.region ?_
  refine DL.y rfl rfl (Y.assign) ?_
  refine DL.nil ?_
  show DC _ _ _ _ _ _
  refine DC.seq ?_
  refine DC.seq ?_
  refine DC.region ?_
  refine DL.y rfl rfl (Y.move) ?_
  refine DL.if rfl rfl (Y.lt rfl rfl) (fun c8 => ?_) (fun c8 => ?_)
  · exfalso; omega
  · refine DL.y rfl rfl (Y.move) ?_
    refine DL.y rfl rfl (Y.move) ?_
    refine DL.if rfl rfl (Y.gt rfl rfl) (fun c11 => ?_) (fun c11 => ?_)
    · exfalso; omega
    · refine DL.y rfl rfl (Y.pickF rfl) ?_
      refine DL.nil ?_
      show DC _ _ _ _ _ _
      refine DC.condF rfl ?_
      refine DC.skip ?_
      show DC _ _ _ _ _ _
      refine DC.seq ?_
      refine DC.region ?_
      refine DL.alloc rfl rfl F.z162 rfl ?_
      intro b5 w1 f2 lo5 hi5 hb5
      replace lo5 := Nat.le_trans FR.size lo5
      replace FR := FR.tr0 f2
      refine DL.nil ?_
      show DC _ _ _ _ _ _
      refine DC.seq ?_
      refine DC.region ?_
      refine DL.y rfl rfl (Y.assign) ?_
      refine DL.nil ?_
      show DC _ _ _ _ _ _
      refine DC.seq ?_
      refine DC.block ?_
      obtain ⟨cur0, hcs0, hb5'⟩ : ∃ cur0 : Array Value, cur0.size = 64 ∧ w1.heap[b5]? = some (.cells cur0 162 (0, 0)) := ⟨_, rfl, hb5⟩
      replace hb5 := hb5'
      refine DC.loop (σ := Nat × Nat × Array Value × List UInt8) [(0, 0), (6, 6), (14, 32)] (fun (m, i, _, _) => [(0, .int .u64 (m : Int)), (6, .int .i64 (i : Int))]) (fun sg wl => Fr [b5] w1 wl ∧ (fun (m, i, cur, l) wl => m ≤ n ∧ i + l.length = 64 ∧ cur.size = 64 ∧ wl.heap[b5]? = some (.cells cur 162 (0, 0)) ∧ Tail cur i l ∧ Digs n m i l) sg wl) (fun (m, i, _, _) => m + i / 64) ((n, 64, cur0, [])) rfl ?_ ?_ ?_
      · exact ⟨rfl, rfl⟩
      · exact ⟨Fr.refl _ _, Nat.le_refl _, rfl, hcs0, hb5, fun j hj => absurd hj (by simp), Or.inl ⟨rfl, rfl, rfl⟩⟩
      · rintro ⟨m, i, cur, l⟩ j w3 ⟨f4, hmn, hil, hcs, hb5, hT, hD⟩
        replace FR := FR.put f4 (by intro i hi; simp only [List.mem_cons, List.mem_singleton, List.not_mem_nil, or_false] at hi; rcases hi with rfl; all_goals (first | (left; simp; done) | (right; omega)))
        replace hi5 := Nat.lt_of_lt_of_le hi5 f4.size
        have G5 := f4
        have HG5 := Fr.refl [b5] w3
        refine DC.seq ?_
        refine DC.seq ?_
        refine DC.region ?_
        refine DL.y rfl rfl (Y.move) ?_
        refine DL.if rfl rfl (Y.eq rfl rfl) (fun c15 => ?_) (fun c15 => ?_)
        · have hs := hD.step hil hdl (by exact Or.inl (by omega))
          refine DL.y rfl rfl (Y.move) ?_
          refine DL.skip rfl rfl ?_
          refine DL.skip rfl rfl ?_
          refine DL.y rfl rfl (Y.pickT rfl) ?_
          refine DL.nil ?_
          show DC _ _ _ _ _ _
          refine DC.condT rfl ?_
          refine DC.skip ?_
          show DC _ _ _ _ _ _
          refine DC.block ?_
          refine DC.seq ?_
          refine DC.region ?_
          refine DL.y rfl rfl (Y.move) ?_
          refine DL.y rfl rfl (Y.subI (c := ((i - 1 : Nat) : Int)) rfl rfl (by omega) (by omega) (by omega)) ?_
          refine DL.y rfl rfl (Y.assign) ?_
          refine DL.nil ?_
          show DC _ _ _ _ _ _
          refine DC.seq ?_
          refine DC.region ?_
          refine DL.y rfl rfl (Y.move) ?_
          refine DL.y rfl rfl (Y.move) ?_
          refine DL.y rfl rfl (Y.move) ?_
          refine DL.y rfl rfl (Y.convC (c := 10) F.us3 Tryz.underlying93 rfl (by decide)) ?_
          refine DL.y rfl rfl (Y.remC (c := ((m % 10 : Nat) : Int)) rfl rfl (by decide) (tmodN m 10 (by decide))) ?_
          refine DL.y rfl rfl (Y.strIxV (i := m % 10) Tryz.underlying9 rfl rfl rfl (dig36 _ (by omega))) ?_
          refine DL.y rfl rfl (Y.indexArr (i := i - 1) arr64 rfl rfl (by omega) (by omega)) ?_
          refine DL.store rfl F.co5 F.in5 rfl rfl rfl hb5 (by rw [Nat.blt_eq]; omega) ?_
          intro w6 f7 hs8 hb5'
          replace FR := FR.put f7 (by intro i hi; simp only [List.mem_cons, List.mem_singleton, List.not_mem_nil, or_false] at hi; rcases hi with rfl; all_goals (first | (left; simp; done) | (right; omega)))
          replace G5 := G5.put f7 (by intro i hi; simp only [List.mem_cons, List.mem_singleton, List.not_mem_nil, or_false] at hi; rcases hi with rfl; all_goals (first | (left; simp; done) | (right; omega)))
          replace HG5 := HG5.put f7 (by intro i hi; simp only [List.mem_cons, List.mem_singleton, List.not_mem_nil, or_false] at hi; rcases hi with rfl; all_goals (first | (left; simp; done) | (right; omega)))
          replace hi5 := Nat.lt_of_lt_of_le hi5 f7.size
          replace hb5 := hb5'
          refine DL.nil ?_
          show DC _ _ _ _ _ _
          refine DC.region ?_
          refine DL.y rfl rfl (Y.move) ?_
          refine DL.y rfl rfl (Y.move) ?_
          refine DL.y rfl rfl (Y.convC (c := 10) F.us3 Tryz.underlying93 rfl (by decide)) ?_
          refine DL.y rfl rfl (Y.quoI (c := ((m / 10 : Nat) : Int)) rfl rfl (by decide) (by rw [show (10 : Int) = ((10 : Nat) : Int) from rfl, tdivN m 10 (by decide)]; exact wrap_u64 (by omega))) ?_
          refine DL.y rfl rfl (Y.assign) ?_
          refine DL.nil ?_
          refine ⟨(m / 10, i - 1, _, UInt8.ofNat (48 + m % 10) :: l), ⟨G5, by omega, by simp only [List.length_cons]; omega, by simpa using hcs, hb5, hT.push hs.1 (by omega), hs.2⟩, ?_, rfl, ?_⟩
          · show m / 10 + (i - 1) / 64 < m + i / 64; omega
          · show _ = Value.int .i64 ((i - 1 : Nat) : Int); first | rfl | (congr 1; omega)
        · refine DL.y rfl rfl (Y.move) ?_
          refine DL.y rfl rfl (Y.move) ?_
          refine DL.if rfl rfl (Y.gt rfl rfl) (fun c18 => ?_) (fun c18 => ?_)
          · have hs := hD.step hil hdl (by exact Or.inr (by omega))
            refine DL.y rfl rfl (Y.pickF rfl) ?_
            refine DL.nil ?_
            show DC _ _ _ _ _ _
            refine DC.condT rfl ?_
            refine DC.skip ?_
            show DC _ _ _ _ _ _
            refine DC.block ?_
            refine DC.seq ?_
            refine DC.region ?_
            refine DL.y rfl rfl (Y.move) ?_
            refine DL.y rfl rfl (Y.subI (c := ((i - 1 : Nat) : Int)) rfl rfl (by omega) (by omega) (by omega)) ?_
            refine DL.y rfl rfl (Y.assign) ?_
            refine DL.nil ?_
            show DC _ _ _ _ _ _
            refine DC.seq ?_
            refine DC.region ?_
            refine DL.y rfl rfl (Y.move) ?_
            refine DL.y rfl rfl (Y.move) ?_
            refine DL.y rfl rfl (Y.move) ?_
            refine DL.y rfl rfl (Y.convC (c := 10) F.us3 Tryz.underlying93 rfl (by decide)) ?_
            refine DL.y rfl rfl (Y.remC (c := ((m % 10 : Nat) : Int)) rfl rfl (by decide) (tmodN m 10 (by decide))) ?_
            refine DL.y rfl rfl (Y.strIxV (i := m % 10) Tryz.underlying9 rfl rfl rfl (dig36 _ (by omega))) ?_
            refine DL.y rfl rfl (Y.indexArr (i := i - 1) arr64 rfl rfl (by omega) (by omega)) ?_
            refine DL.store rfl F.co5 F.in5 rfl rfl rfl hb5 (by rw [Nat.blt_eq]; omega) ?_
            intro w9 f10 hs11 hb5'
            replace FR := FR.put f10 (by intro i hi; simp only [List.mem_cons, List.mem_singleton, List.not_mem_nil, or_false] at hi; rcases hi with rfl; all_goals (first | (left; simp; done) | (right; omega)))
            replace G5 := G5.put f10 (by intro i hi; simp only [List.mem_cons, List.mem_singleton, List.not_mem_nil, or_false] at hi; rcases hi with rfl; all_goals (first | (left; simp; done) | (right; omega)))
            replace HG5 := HG5.put f10 (by intro i hi; simp only [List.mem_cons, List.mem_singleton, List.not_mem_nil, or_false] at hi; rcases hi with rfl; all_goals (first | (left; simp; done) | (right; omega)))
            replace hi5 := Nat.lt_of_lt_of_le hi5 f10.size
            replace hb5 := hb5'
            refine DL.nil ?_
            show DC _ _ _ _ _ _
            refine DC.region ?_
            refine DL.y rfl rfl (Y.move) ?_
            refine DL.y rfl rfl (Y.move) ?_
            refine DL.y rfl rfl (Y.convC (c := 10) F.us3 Tryz.underlying93 rfl (by decide)) ?_
            refine DL.y rfl rfl (Y.quoI (c := ((m / 10 : Nat) : Int)) rfl rfl (by decide) (by rw [show (10 : Int) = ((10 : Nat) : Int) from rfl, tdivN m 10 (by decide)]; exact wrap_u64 (by omega))) ?_
            refine DL.y rfl rfl (Y.assign) ?_
            refine DL.nil ?_
            refine ⟨(m / 10, i - 1, _, UInt8.ofNat (48 + m % 10) :: l), ⟨G5, by omega, by simp only [List.length_cons]; omega, by simpa using hcs, hb5, hT.push hs.1 (by omega), hs.2⟩, ?_, rfl, ?_⟩
            · show m / 10 + (i - 1) / 64 < m + i / 64; omega
            · show _ = Value.int .i64 ((i - 1 : Nat) : Int); first | rfl | (congr 1; omega)
          · refine DL.y rfl rfl (Y.pickF rfl) ?_
            refine DL.nil ?_
            show DC _ _ _ _ _ _
            refine DC.condF rfl ?_
            refine DC.exit ?_
            show DC _ _ _ _ _ _
            refine DC.seq ?_
            refine DC.region ?_
            refine DL.y rfl rfl (Y.move) ?_
            refine DL.y rfl rfl (v := .slice (some ⟨b5, 0 + i * 1, none⟩) l.length l.length) (by have e : 64 - i = l.length := by { omega }; rw [← e]; exact Y.sliceArrL (k := .i64) arr64 rfl rfl (by omega)) ?_
            refine DL.y rfl rfl (Y.cellsStr (l := l) Tryz.underlying107 Tryz.underlying5 Tryz.underlying9 rfl (fun j hj => cell_of_blk hb5 (by rw [show 0 + i * 1 = i by omega]; exact hT j hj))) ?_
            refine DL.y rfl rfl (Y.assign) ?_
            refine DL.nil ?_
            show DC _ _ _ _ _ _
            refine DC.ret ?_
            exact FinQ.ret1 rfl (Ret.mk FR ⟨_, rfl, hD.done (by omega) (by omega)⟩)


theorem list_len_le {s : ByteArray} {n : Nat} (h : s.data.toList = decL n) (hn : n < 18446744073709551616) : s.size ≤ 20 := by
  rw [size_list, h]; exact decL_len 19 n (by omega)
/-- The text of a whole number. -/
def intL (z : Int) : List UInt8 := (if z < 0 then [45] else []) ++ decL z.natAbs
theorem intL_len {z : Int} (h : -9223372036854775808 ≤ z ∧ z ≤ 9223372036854775807) : (intL z).length ≤ 21 := by
  have := decL_len 19 z.natAbs (by omega)
  unfold intL
  rw [List.length_append]
  split <;> simp <;> omega

theorem FormatInt_any (z : Int) (hz : -9223372036854775808 ≤ z ∧ z ≤ 9223372036854775807) (w : World) : Calls Tryz.prog 184 #[.int .i64 z, .int .i64 10] w (Ret w [] fun v _ => ∃ s : ByteArray, v = .string s ∧ s.data.toList = intL z) := by
  refine calls_of Tryz.func184 rfl rfl rfl rfl ?_
  have FR := Fr.refl [] w
  refine DC.seq ?_
  refine DC.region ?_
  refine DL.y rfl rfl (Y.assign) ?_
  refine DL.nil ?_
  show DC _ _ _ _ _ _
  refine DC.seq ?_
  refine DC.seq ?_
  refine DC.region ?_
  refine DL.y rfl rfl (Y.move) ?_
  refine DL.if rfl rfl (Y.lt rfl rfl) (fun c6 => ?_) (fun c6 => ?_)
  · obtain ⟨m, rfl, hm0⟩ : ∃ m : Nat, z = -(m : Int) ∧ 0 < m := ⟨z.natAbs, by omega, by omega⟩
    refine DL.nil ?_
    show DC _ _ _ _ _ _
    refine DC.condT rfl ?_
    refine DC.seq ?_
    refine DC.region ?_
    refine DL.y rfl rfl (Y.move) ?_
    refine DL.y rfl rfl (Y.convII F.us2 Tryz.underlying93 rfl) ?_
    refine DL.y rfl rfl (Y.negC (c := (m : Int)) rfl (wrap_neg_u64 hm0 (by omega))) ?_
    refine DL.y rfl rfl (Y.move) ?_
    refine DL.call rfl rfl F.nm197 rfl (FormatUint_any m (by omega) _) ?_
    rintro _ w1 f2 ⟨sd, rfl, hsd⟩
    replace FR := FR.tr0 f2
    refine DL.catE rfl rfl rfl rfl (by have := list_len_le hsd (by omega); rw [show (⟨#[45]⟩ : ByteArray).size = 1 from rfl]; omega) (fun c12 h12 => ?_)
    refine DL.y rfl rfl (Y.assign) ?_
    refine DL.nil ?_
    show DC _ _ _ _ _ _
    refine DC.ret ?_
    exact FinQ.ret1 rfl (Ret.mk FR ⟨_, rfl, by rw [h12, hsd]; simp [intL, hm0]⟩)
  · obtain ⟨m, rfl⟩ : ∃ m : Nat, z = (m : Int) := ⟨z.toNat, by omega⟩
    refine DL.nil ?_
    show DC _ _ _ _ _ _
    refine DC.condF rfl ?_
    refine DC.skip ?_
    show DC _ _ _ _ _ _
    refine DC.seq ?_
    refine DC.region ?_
    refine DL.y rfl rfl (Y.move) ?_
    refine DL.y rfl rfl (Y.convC (c := (m : Int)) F.us2 Tryz.underlying93 rfl (wrap_u64 (by omega))) ?_
    refine DL.y rfl rfl (Y.move) ?_
    refine DL.call rfl rfl F.nm197 rfl (FormatUint_any m (by omega) _) ?_
    rintro _ w3 f4 ⟨sd, rfl, hsd⟩
    replace FR := FR.tr0 f4
    refine DL.y rfl rfl (Y.assign) ?_
    refine DL.nil ?_
    show DC _ _ _ _ _ _
    refine DC.ret ?_
    exact FinQ.ret1 rfl (Ret.mk FR ⟨_, rfl, by rw [hsd]; simp [intL, c6]⟩)

end Go.Proofs.YtmbleojlnaofjaaGreatDoor

