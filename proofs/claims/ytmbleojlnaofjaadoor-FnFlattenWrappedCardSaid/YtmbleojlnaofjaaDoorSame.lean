/- Same values are the same: spec.Cmp, spec.Same. -/
import Derived.Test.YtmbleojlnaofjaaDoorO3
import Derived.Test.YtmbleojlnaofjaaDoorF
import Derived.Test.YtmbleojlnaofjaaDoorRK
namespace Go.Proofs.YtmbleojlnaofjaaDoor
open Go Go.RowKit D
set_option linter.unusedVariables false
set_option linter.unusedSimpArgs false

theorem sign_zero (w : World) : Calls Tryd.prog 54 #[.int .i64 0] w (Ret w [] fun v _ => v = .int .i64 0) := by
  refine calls_of Tryd.func54 rfl rfl rfl rfl ?_
  have FR := Fr.refl [] w
  refine DC.seq ?_
  refine DC.region ?_
  refine DL.y rfl rfl (Y.assign) ?_
  refine DL.nil ?_
  show DC _ _ _ _ _ _
  refine DC.seq ?_
  refine DC.block ?_
  refine DC.seq ?_
  refine DC.region ?_
  refine DL.y rfl rfl (Y.move) ?_
  refine DL.if rfl rfl (Y.lt rfl rfl) (fun c5 => ?_) (fun c5 => ?_)
  · exfalso; omega
  · refine DL.y rfl rfl (Y.assign) ?_
    refine DL.nil ?_
    show DC _ _ _ _ _ _
    refine DC.condF rfl ?_
    refine DC.seq ?_
    refine DC.region ?_
    refine DL.y rfl rfl (Y.move) ?_
    refine DL.if rfl rfl (Y.gt rfl rfl) (fun c8 => ?_) (fun c8 => ?_)
    · exfalso; omega
    · refine DL.y rfl rfl (Y.assign) ?_
      refine DL.nil ?_
      show DC _ _ _ _ _ _
      refine DC.condF rfl ?_
      refine DC.skip ?_
      show DC _ _ _ _ _ _
      refine DC.seq ?_
      refine DC.region ?_
      refine DL.y rfl rfl (Y.assign) ?_
      refine DL.nil ?_
      show DC _ _ _ _ _ _
      refine DC.ret ?_
      exact FinQ.ret1 rfl (Ret.mk FR rfl)

theorem texts_same (s : ByteArray) (w : World) : Calls Tryd.prog 55 #[.string s, .string s] w (Ret w [] fun v _ => v = .int .i64 0) := by
  refine calls_of Tryd.func55 rfl rfl rfl rfl ?_
  have FR := Fr.refl [] w
  refine DC.seq ?_
  refine DC.region ?_
  refine DL.y rfl rfl (Y.assign) ?_
  refine DL.nil ?_
  show DC _ _ _ _ _ _
  refine DC.seq ?_
  refine DC.block ?_
  refine DC.seq ?_
  refine DC.region ?_
  refine DL.y rfl rfl (Y.move) ?_
  refine DL.y rfl rfl (Y.move) ?_
  refine DL.ifb rfl rfl (Y.slt rfl rfl) (fun c8 => ?_) (fun c8 => ?_)
  · exact absurd c8 (by rw [less_irr s.toList]; simp)
  · refine DL.y rfl rfl (Y.assign) ?_
    refine DL.nil ?_
    show DC _ _ _ _ _ _
    refine DC.condF rfl ?_
    refine DC.seq ?_
    refine DC.region ?_
    refine DL.y rfl rfl (Y.move) ?_
    refine DL.y rfl rfl (Y.move) ?_
    refine DL.ifb rfl rfl (Y.sgt rfl rfl) (fun c12 => ?_) (fun c12 => ?_)
    · exact absurd c12 (by simp)
    · refine DL.y rfl rfl (Y.assign) ?_
      refine DL.nil ?_
      show DC _ _ _ _ _ _
      refine DC.condF rfl ?_
      refine DC.skip ?_
      show DC _ _ _ _ _ _
      refine DC.seq ?_
      refine DC.region ?_
      refine DL.y rfl rfl (Y.assign) ?_
      refine DL.nil ?_
      show DC _ _ _ _ _ _
      refine DC.ret ?_
      exact FinQ.ret1 rfl (Ret.mk FR rfl)

theorem keys_same (keys : List ByteArray) (a b : Option Addr) (ca cb B : Nat) (w : World) (hA : RVK w B a keys) (hB : RVK w B b keys) (hn : keys.length ≤ 140737488351232) :
    Calls Tryd.prog 57 #[.slice a keys.length ca, .slice b keys.length cb] w (Ret w [] fun v _ => v = .int .i64 0) := by
  refine calls_of Tryd.func57 rfl rfl rfl rfl ?_
  have FR := Fr.refl [] w
  refine DC.seq ?_
  refine DC.region ?_
  refine DL.y rfl rfl (Y.assign) ?_
  refine DL.nil ?_
  show DC _ _ _ _ _ _
  refine DC.seq ?_
  refine DC.seq ?_
  refine DC.region ?_
  refine DL.y rfl rfl (Y.assign) ?_
  refine DL.nil ?_
  show DC _ _ _ _ _ _
  refine DC.block ?_
  refine DC.loop (σ := Nat) [(4, 30)] (fun k => [(5, .int .i64 (k : Int))]) (fun sg wl => Fr [] w wl ∧ (fun k w' => k ≤ keys.length) sg wl) (fun k => keys.length - k) (0) rfl ?_ ?_ ?_
  · exact rfl
  · exact ⟨Fr.refl _ _, Nat.zero_le _⟩
  · rintro k j w1 ⟨f2, hk0⟩
    replace FR := FR.tr0 f2
    replace hA := hA.fr f2 (by intro x hx; simp <;> omega)
    replace hB := hB.fr f2 (by intro x hx; simp <;> omega)
    have G3 := f2
    have HG3 := Fr.refl [] w1
    refine DC.seq ?_
    refine DC.seq ?_
    refine DC.region ?_
    refine DL.y rfl rfl (Y.move) ?_
    refine DL.y rfl rfl (Y.move) ?_
    refine DL.y rfl rfl (Y.lenS Tryd.underlying24 rfl) ?_
    refine DL.if rfl rfl (Y.lt rfl rfl) (fun c10 => ?_) (fun c10 => ?_)
    · have hk : k < keys.length := by omega
      obtain ⟨b1, o1, rfl, hb1, hkc1, hks1⟩ := hA k hk
      obtain ⟨b2, o2, rfl, hb2, hkc2, hks2⟩ := hB k hk
      refine DL.y rfl rfl (Y.move) ?_
      refine DL.y rfl rfl (Y.move) ?_
      refine DL.y rfl rfl (Y.move) ?_
      refine DL.y rfl rfl (Y.lenS Tryd.underlying24 rfl) ?_
      refine DL.if rfl rfl (Y.lt rfl rfl) (fun c15 => ?_) (fun c15 => ?_)
      · refine DL.y rfl rfl (Y.pickT rfl) ?_
        refine DL.nil ?_
        show DC _ _ _ _ _ _
        refine DC.condT rfl ?_
        refine DC.skip ?_
        show DC _ _ _ _ _ _
        refine DC.seq ?_
        refine DC.block ?_
        refine DC.seq ?_
        refine DC.quiet F.mixed (by kernel_rfl) ?_
        refine DQ.y rfl rfl (fun wq fq => Y.move) ?_
        refine DQ.y rfl rfl (fun wq fq => Y.move) ?_
        refine DQ.y rfl rfl (fun wq fq => Y.index F.sl24 rfl rfl (rfl) (hk)) ?_
        refine DQ.y rfl rfl (fun wq fq => Y.load F.sc9 rfl (fq.cell hkc1 (by simp))) ?_
        refine DQ.y rfl rfl (fun wq fq => Y.move) ?_
        refine DQ.y rfl rfl (fun wq fq => Y.move) ?_
        refine DQ.y rfl rfl (fun wq fq => Y.index F.sl24 rfl rfl (rfl) (hk)) ?_
        refine DQ.y rfl rfl (fun wq fq => Y.load F.sc9 rfl (fq.cell hkc2 (by simp))) ?_
        refine DQ.call rfl rfl F.nm55 rfl (fun wq fq => texts_same _ wq) ?_
        refine DQ.y rfl rfl (fun wq fq => Y.assign) ?_
        refine DQ.nil ?_
        intro w4 f5
        replace FR := FR.tr0 f5
        replace G3 := G3.tr0 f5
        replace HG3 := HG3.tr0 f5
        replace hA := hA.fr f5 (by intro x hx; simp <;> omega)
        replace hB := hB.fr f5 (by intro x hx; simp <;> omega)
        show DC _ _ _ _ _ _
        refine DC.seq ?_
        refine DC.region ?_
        refine DL.y rfl rfl (Y.move) ?_
        refine DL.if rfl rfl (Y.ne rfl rfl) (fun c29 => ?_) (fun c29 => ?_)
        · exfalso; omega
        · refine DL.nil ?_
          show DC _ _ _ _ _ _
          refine DC.condF rfl ?_
          refine DC.skip ?_
          show DC _ _ _ _ _ _
          refine DC.region ?_
          refine DL.y rfl rfl (Y.move) ?_
          refine DL.y rfl rfl (Y.addI (c := ((k + 1 : Nat) : Int)) rfl rfl (by omega) (by omega) (by omega)) ?_
          refine DL.y rfl rfl (Y.assign) ?_
          refine DL.nil ?_
          exact ⟨k + 1, ⟨G3, hk⟩, by show keys.length - (k + 1) < keys.length - k; omega, rfl⟩
      · exfalso; omega
    · refine DL.y rfl rfl (Y.move) ?_
      refine DL.skip rfl rfl ?_
      refine DL.skip rfl rfl ?_
      refine DL.skip rfl rfl ?_
      refine DL.skip rfl rfl ?_
      refine DL.y rfl rfl (Y.pickF rfl) ?_
      refine DL.nil ?_
      show DC _ _ _ _ _ _
      refine DC.condF rfl ?_
      refine DC.exit ?_
      show DC _ _ _ _ _ _
      refine DC.seq ?_
      refine DC.region ?_
      refine DL.y rfl rfl (Y.move) ?_
      refine DL.y rfl rfl (Y.lenS Tryd.underlying24 rfl) ?_
      refine DL.y rfl rfl (Y.move) ?_
      refine DL.y rfl rfl (Y.lenS Tryd.underlying24 rfl) ?_
      refine DL.y rfl rfl (Y.subI (c := 0) rfl rfl (by omega) (by omega) (by omega)) ?_
      refine DL.y rfl rfl (Y.assign) ?_
      refine DL.nil ?_
      show DC _ _ _ _ _ _
      refine DC.ret ?_
      exact FinQ.ret1 rfl (Ret.mk FR rfl)


def CmpC (m : Nat) : Prop := ∀ (v : V) (ca cb : Array Value) (B : Nat) (w : World), v.nodes ≤ m → RV w B v ca → RV w B v cb →
    Calls Tryd.prog 46 #[.agg ca, .agg cb] w (Ret w [] fun r _ => r = .int .i64 0)

theorem lists_same (m : Nat) (ih : CmpC m) (list : List V) (a b : Option Addr) (ca cb B : Nat) (w : World) (hm : V.nodesL list ≤ m) (hA : RVL w B a list) (hB : RVL w B b list) (hn : list.length ≤ 140737488351232) :
    Calls Tryd.prog 56 #[.slice a list.length ca, .slice b list.length cb] w (Ret w [] fun v _ => v = .int .i64 0) := by
  refine calls_of Tryd.func56 rfl rfl rfl rfl ?_
  have FR := Fr.refl [] w
  refine DC.seq ?_
  refine DC.region ?_
  refine DL.y rfl rfl (Y.assign) ?_
  refine DL.nil ?_
  show DC _ _ _ _ _ _
  refine DC.seq ?_
  refine DC.seq ?_
  refine DC.region ?_
  refine DL.y rfl rfl (Y.assign) ?_
  refine DL.nil ?_
  show DC _ _ _ _ _ _
  refine DC.block ?_
  refine DC.loop (σ := Nat) [(4, 30)] (fun k => [(5, .int .i64 (k : Int))]) (fun sg wl => Fr [] w wl ∧ (fun k w' => k ≤ list.length) sg wl) (fun k => list.length - k) (0) rfl ?_ ?_ ?_
  · exact rfl
  · exact ⟨Fr.refl _ _, Nat.zero_le _⟩
  · rintro k j w1 ⟨f2, hk0⟩
    replace FR := FR.tr0 f2
    replace hA := hA.fr f2 (by intro x hx; simp <;> omega)
    replace hB := hB.fr f2 (by intro x hx; simp <;> omega)
    have G3 := f2
    have HG3 := Fr.refl [] w1
    refine DC.seq ?_
    refine DC.seq ?_
    refine DC.region ?_
    refine DL.y rfl rfl (Y.move) ?_
    refine DL.y rfl rfl (Y.move) ?_
    refine DL.y rfl rfl (Y.lenS Tryd.underlying23 rfl) ?_
    refine DL.if rfl rfl (Y.lt rfl rfl) (fun c10 => ?_) (fun c10 => ?_)
    · have hk : k < list.length := by omega
      obtain ⟨b1, o1, cl1, rfl, hb1, hc1, hz1, hr1⟩ := hA k hk
      obtain ⟨b2, o2, cl2, rfl, hb2, hc2, hz2, hr2⟩ := hB k hk
      have hle : list[k].nodes ≤ m := by have := nodes_le hk; omega
      refine DL.y rfl rfl (Y.move) ?_
      refine DL.y rfl rfl (Y.move) ?_
      refine DL.y rfl rfl (Y.move) ?_
      refine DL.y rfl rfl (Y.lenS Tryd.underlying23 rfl) ?_
      refine DL.if rfl rfl (Y.lt rfl rfl) (fun c15 => ?_) (fun c15 => ?_)
      · refine DL.y rfl rfl (Y.pickT rfl) ?_
        refine DL.nil ?_
        show DC _ _ _ _ _ _
        refine DC.condT rfl ?_
        refine DC.skip ?_
        show DC _ _ _ _ _ _
        refine DC.seq ?_
        refine DC.block ?_
        refine DC.seq ?_
        refine DC.quiet F.mixed (by kernel_rfl) ?_
        refine DQ.y rfl rfl (fun wq fq => Y.move) ?_
        refine DQ.y rfl rfl (fun wq fq => Y.move) ?_
        refine DQ.y rfl rfl (fun wq fq => Y.index F.sl23 rfl rfl (rfl) (hk)) ?_
        refine DQ.y rfl rfl (fun wq fq => Y.loadAn hz1 F.ag26 rfl (hc1.fr fq (by simp))) ?_
        refine DQ.y rfl rfl (fun wq fq => Y.move) ?_
        refine DQ.y rfl rfl (fun wq fq => Y.move) ?_
        refine DQ.y rfl rfl (fun wq fq => Y.index F.sl23 rfl rfl (rfl) (hk)) ?_
        refine DQ.y rfl rfl (fun wq fq => Y.loadAn hz2 F.ag26 rfl (hc2.fr fq (by simp))) ?_
        refine DQ.call rfl rfl F.nm46 rfl (fun wq fq => ih list[k] cl1 cl2 B wq hle (hr1.fr fq (by intro x hx; simp)) (hr2.fr fq (by intro x hx; simp))) ?_
        refine DQ.y rfl rfl (fun wq fq => Y.assign) ?_
        refine DQ.nil ?_
        intro w4 f5
        replace FR := FR.tr0 f5
        replace G3 := G3.tr0 f5
        replace HG3 := HG3.tr0 f5
        replace hA := hA.fr f5 (by intro x hx; simp <;> omega)
        replace hB := hB.fr f5 (by intro x hx; simp <;> omega)
        show DC _ _ _ _ _ _
        refine DC.seq ?_
        refine DC.region ?_
        refine DL.y rfl rfl (Y.move) ?_
        refine DL.if rfl rfl (Y.ne rfl rfl) (fun c29 => ?_) (fun c29 => ?_)
        · exfalso; omega
        · refine DL.nil ?_
          show DC _ _ _ _ _ _
          refine DC.condF rfl ?_
          refine DC.skip ?_
          show DC _ _ _ _ _ _
          refine DC.region ?_
          refine DL.y rfl rfl (Y.move) ?_
          refine DL.y rfl rfl (Y.addI (c := ((k + 1 : Nat) : Int)) rfl rfl (by omega) (by omega) (by omega)) ?_
          refine DL.y rfl rfl (Y.assign) ?_
          refine DL.nil ?_
          exact ⟨k + 1, ⟨G3, hk⟩, by show list.length - (k + 1) < list.length - k; omega, rfl⟩
      · exfalso; omega
    · refine DL.y rfl rfl (Y.move) ?_
      refine DL.skip rfl rfl ?_
      refine DL.skip rfl rfl ?_
      refine DL.skip rfl rfl ?_
      refine DL.skip rfl rfl ?_
      refine DL.y rfl rfl (Y.pickF rfl) ?_
      refine DL.nil ?_
      show DC _ _ _ _ _ _
      refine DC.condF rfl ?_
      refine DC.exit ?_
      show DC _ _ _ _ _ _
      refine DC.seq ?_
      refine DC.region ?_
      refine DL.y rfl rfl (Y.move) ?_
      refine DL.y rfl rfl (Y.lenS Tryd.underlying23 rfl) ?_
      refine DL.y rfl rfl (Y.move) ?_
      refine DL.y rfl rfl (Y.lenS Tryd.underlying23 rfl) ?_
      refine DL.y rfl rfl (Y.subI (c := 0) rfl rfl (by omega) (by omega) (by omega)) ?_
      refine DL.y rfl rfl (Y.assign) ?_
      refine DL.nil ?_
      show DC _ _ _ _ _ _
      refine DC.ret ?_
      exact FinQ.ret1 rfl (Ret.mk FR rfl)

set_option maxHeartbeats 1000000 in
theorem cmp_step (m : Nat) (ih : CmpC m) : CmpC (m + 1) := by
  intro v ca cb B w hm hA hB
  obtain ⟨kind, half, text, list, keys, vals⟩ := v
  obtain ⟨la, lc, ka, kc, va, vc, rfl⟩ := hA.shape
  obtain ⟨lb, ld, kb, kd, vb, vd, rfl⟩ := hB.shape
  obtain ⟨bt, bl, bk, bv, bkind, bhalf⟩ := hA.bounds
  have hl : V.nodesL list ≤ m := by simp only [V.nodes] at hm; omega
  have hv : V.nodesL vals ≤ m := by simp only [V.nodes] at hm; omega
  refine calls_of Tryd.func46 rfl rfl rfl rfl ?_
  have FR := Fr.refl [] w
  refine DC.seq ?_
  refine DC.region ?_
  refine DL.boxA rfl rfl rfl ?_
  intro b2 w1 f2 lo2 hi2 hb2
  replace lo2 := Nat.le_trans FR.size lo2
  replace FR := FR.tr0 f2
  replace hA := hA.fr f2 (by intro x hx; simp <;> omega)
  replace hB := hB.fr f2 (by intro x hx; simp <;> omega)
  refine DL.boxA rfl rfl rfl ?_
  intro b3 w3 f4 lo3 hi3 hb3
  have lt_b2_b3 : b2 < b3 := Nat.lt_of_lt_of_le hi2 lo3
  replace lo3 := Nat.le_trans FR.size lo3
  replace FR := FR.tr0 f4
  replace hA := hA.fr f4 (by intro x hx; simp <;> omega)
  replace hB := hB.fr f4 (by intro x hx; simp <;> omega)
  replace hb2 := f4.blk0 hb2
  replace hi2 := Nat.lt_of_lt_of_le hi2 f4.size
  refine DL.y rfl rfl (Y.assign) ?_
  refine DL.nil ?_
  show DC _ _ _ _ _ _
  refine DC.seq ?_
  refine DC.block ?_
  refine DC.seq ?_
  refine DC.region ?_
  refine DL.y rfl rfl (Y.field F.fd26_0 rfl) ?_
  refine DL.y rfl rfl (Y.loadB F.sc22 rfl hb2 rfl) ?_
  refine DL.y rfl rfl (Y.field F.fd26_0 rfl) ?_
  refine DL.y rfl rfl (Y.loadB F.sc22 rfl hb3 rfl) ?_
  refine DL.if rfl rfl (Y.ne rfl rfl) (fun c11 => ?_) (fun c11 => ?_)
  · exact absurd rfl c11
  · refine DL.y rfl rfl (Y.assign) ?_
    refine DL.nil ?_
    show DC _ _ _ _ _ _
    refine DC.condF rfl ?_
    refine DC.seq ?_
    refine DC.region ?_
    refine DL.y rfl rfl (Y.field F.fd26_0 rfl) ?_
    refine DL.y rfl rfl (Y.loadB F.sc22 rfl hb2 rfl) ?_
    refine DL.if rfl rfl (Y.eq rfl rfl) (fun c21 => ?_) (fun c21 => ?_)
    · refine DL.y rfl rfl (Y.assign) ?_
      refine DL.nil ?_
      show DC _ _ _ _ _ _
      refine DC.condT rfl ?_
      refine DC.seq ?_
      refine DC.region ?_
      refine DL.y rfl rfl (Y.field F.fd26_1 rfl) ?_
      refine DL.y rfl rfl (Y.loadB F.sc3 rfl hb2 rfl) ?_
      refine DL.y rfl rfl (Y.field F.fd26_1 rfl) ?_
      refine DL.y rfl rfl (Y.loadB F.sc3 rfl hb3 rfl) ?_
      refine DL.y rfl rfl (Y.subI (c := 0) rfl rfl (by omega) (by omega) (by omega)) ?_
      refine DL.call rfl rfl F.nm54 rfl (sign_zero _) ?_
      rintro _ w5 f6 rfl
      replace FR := FR.tr0 f6
      replace hA := hA.fr f6 (by intro x hx; simp <;> omega)
      replace hB := hB.fr f6 (by intro x hx; simp <;> omega)
      replace hb2 := f6.blk0 hb2
      replace hi2 := Nat.lt_of_lt_of_le hi2 f6.size
      replace hb3 := f6.blk0 hb3
      replace hi3 := Nat.lt_of_lt_of_le hi3 f6.size
      refine DL.y rfl rfl (Y.assign) ?_
      refine DL.nil ?_
      show DC _ _ _ _ _ _
      refine DC.ret ?_
      exact FinQ.ret1 rfl (Ret.mk FR rfl)
    · refine DL.y rfl rfl (Y.assign) ?_
      refine DL.nil ?_
      show DC _ _ _ _ _ _
      refine DC.condF rfl ?_
      refine DC.seq ?_
      refine DC.region ?_
      refine DL.y rfl rfl (Y.field F.fd26_0 rfl) ?_
      refine DL.y rfl rfl (Y.loadB F.sc22 rfl hb2 rfl) ?_
      refine DL.if rfl rfl (Y.eq rfl rfl) (fun c31 => ?_) (fun c31 => ?_)
      · refine DL.y rfl rfl (Y.assign) ?_
        refine DL.nil ?_
        show DC _ _ _ _ _ _
        refine DC.condT rfl ?_
        refine DC.seq ?_
        refine DC.region ?_
        refine DL.y rfl rfl (Y.field F.fd26_2 rfl) ?_
        refine DL.y rfl rfl (Y.loadB F.sc9 rfl hb2 rfl) ?_
        refine DL.y rfl rfl (Y.field F.fd26_2 rfl) ?_
        refine DL.y rfl rfl (Y.loadB F.sc9 rfl hb3 rfl) ?_
        refine DL.call rfl rfl F.nm55 rfl (texts_same _ _) ?_
        rintro _ w7 f8 rfl
        replace FR := FR.tr0 f8
        replace hA := hA.fr f8 (by intro x hx; simp <;> omega)
        replace hB := hB.fr f8 (by intro x hx; simp <;> omega)
        replace hb2 := f8.blk0 hb2
        replace hi2 := Nat.lt_of_lt_of_le hi2 f8.size
        replace hb3 := f8.blk0 hb3
        replace hi3 := Nat.lt_of_lt_of_le hi3 f8.size
        refine DL.y rfl rfl (Y.assign) ?_
        refine DL.nil ?_
        show DC _ _ _ _ _ _
        refine DC.ret ?_
        exact FinQ.ret1 rfl (Ret.mk FR rfl)
      · refine DL.y rfl rfl (Y.assign) ?_
        refine DL.nil ?_
        show DC _ _ _ _ _ _
        refine DC.condF rfl ?_
        refine DC.seq ?_
        refine DC.region ?_
        refine DL.y rfl rfl (Y.field F.fd26_0 rfl) ?_
        refine DL.y rfl rfl (Y.loadB F.sc22 rfl hb2 rfl) ?_
        refine DL.if rfl rfl (Y.eq rfl rfl) (fun c40 => ?_) (fun c40 => ?_)
        · refine DL.y rfl rfl (Y.assign) ?_
          refine DL.nil ?_
          show DC _ _ _ _ _ _
          refine DC.condT rfl ?_
          refine DC.seq ?_
          refine DC.region ?_
          refine DL.y rfl rfl (Y.field F.fd26_3 rfl) ?_
          refine DL.y rfl rfl (Y.loadB F.sc23 rfl hb2 rfl) ?_
          refine DL.y rfl rfl (Y.field F.fd26_3 rfl) ?_
          refine DL.y rfl rfl (Y.loadB F.sc23 rfl hb3 rfl) ?_
          refine DL.call rfl rfl F.nm56 rfl (lists_same m ih list _ _ _ _ B _ hl hA.lists hB.lists bl) ?_
          rintro _ w9 f10 rfl
          replace FR := FR.tr0 f10
          replace hA := hA.fr f10 (by intro x hx; simp <;> omega)
          replace hB := hB.fr f10 (by intro x hx; simp <;> omega)
          replace hb2 := f10.blk0 hb2
          replace hi2 := Nat.lt_of_lt_of_le hi2 f10.size
          replace hb3 := f10.blk0 hb3
          replace hi3 := Nat.lt_of_lt_of_le hi3 f10.size
          refine DL.call rfl rfl F.nm54 rfl (sign_zero _) ?_
          rintro _ w11 f12 rfl
          replace FR := FR.tr0 f12
          replace hA := hA.fr f12 (by intro x hx; simp <;> omega)
          replace hB := hB.fr f12 (by intro x hx; simp <;> omega)
          replace hb2 := f12.blk0 hb2
          replace hi2 := Nat.lt_of_lt_of_le hi2 f12.size
          replace hb3 := f12.blk0 hb3
          replace hi3 := Nat.lt_of_lt_of_le hi3 f12.size
          refine DL.y rfl rfl (Y.assign) ?_
          refine DL.nil ?_
          show DC _ _ _ _ _ _
          refine DC.ret ?_
          exact FinQ.ret1 rfl (Ret.mk FR rfl)
        · refine DL.y rfl rfl (Y.assign) ?_
          refine DL.nil ?_
          show DC _ _ _ _ _ _
          refine DC.condF rfl ?_
          refine DC.seq ?_
          refine DC.region ?_
          refine DL.y rfl rfl (Y.field F.fd26_0 rfl) ?_
          refine DL.y rfl rfl (Y.loadB F.sc22 rfl hb2 rfl) ?_
          refine DL.if rfl rfl (Y.eq rfl rfl) (fun c50 => ?_) (fun c50 => ?_)
          · refine DL.y rfl rfl (Y.assign) ?_
            refine DL.nil ?_
            show DC _ _ _ _ _ _
            refine DC.condT rfl ?_
            refine DC.seq ?_
            refine DC.seq ?_
            refine DC.region ?_
            refine DL.y rfl rfl (Y.field F.fd26_4 rfl) ?_
            refine DL.y rfl rfl (Y.loadB F.sc24 rfl hb2 rfl) ?_
            refine DL.y rfl rfl (Y.field F.fd26_4 rfl) ?_
            refine DL.y rfl rfl (Y.loadB F.sc24 rfl hb3 rfl) ?_
            refine DL.call rfl rfl F.nm57 rfl (keys_same keys _ _ _ _ B _ hA.keys hB.keys bk) ?_
            rintro _ w13 f14 rfl
            replace FR := FR.tr0 f14
            replace hA := hA.fr f14 (by intro x hx; simp <;> omega)
            replace hB := hB.fr f14 (by intro x hx; simp <;> omega)
            replace hb2 := f14.blk0 hb2
            replace hi2 := Nat.lt_of_lt_of_le hi2 f14.size
            replace hb3 := f14.blk0 hb3
            replace hi3 := Nat.lt_of_lt_of_le hi3 f14.size
            refine DL.y rfl rfl (Y.assign) ?_
            refine DL.nil ?_
            show DC _ _ _ _ _ _
            refine DC.seq ?_
            refine DC.region ?_
            refine DL.y rfl rfl (Y.move) ?_
            refine DL.if rfl rfl (Y.ne rfl rfl) (fun c57 => ?_) (fun c57 => ?_)
            · exfalso; omega
            · refine DL.nil ?_
              show DC _ _ _ _ _ _
              refine DC.condF rfl ?_
              refine DC.skip ?_
              show DC _ _ _ _ _ _
              refine DC.seq ?_
              refine DC.region ?_
              refine DL.y rfl rfl (Y.field F.fd26_5 rfl) ?_
              refine DL.y rfl rfl (Y.loadB F.sc23 rfl hb2 rfl) ?_
              refine DL.y rfl rfl (Y.field F.fd26_5 rfl) ?_
              refine DL.y rfl rfl (Y.loadB F.sc23 rfl hb3 rfl) ?_
              refine DL.call rfl rfl F.nm56 rfl (lists_same m ih vals _ _ _ _ B _ hv hA.valss hB.valss bv) ?_
              rintro _ w15 f16 rfl
              replace FR := FR.tr0 f16
              replace hA := hA.fr f16 (by intro x hx; simp <;> omega)
              replace hB := hB.fr f16 (by intro x hx; simp <;> omega)
              replace hb2 := f16.blk0 hb2
              replace hi2 := Nat.lt_of_lt_of_le hi2 f16.size
              replace hb3 := f16.blk0 hb3
              replace hi3 := Nat.lt_of_lt_of_le hi3 f16.size
              refine DL.call rfl rfl F.nm54 rfl (sign_zero _) ?_
              rintro _ w17 f18 rfl
              replace FR := FR.tr0 f18
              replace hA := hA.fr f18 (by intro x hx; simp <;> omega)
              replace hB := hB.fr f18 (by intro x hx; simp <;> omega)
              replace hb2 := f18.blk0 hb2
              replace hi2 := Nat.lt_of_lt_of_le hi2 f18.size
              replace hb3 := f18.blk0 hb3
              replace hi3 := Nat.lt_of_lt_of_le hi3 f18.size
              refine DL.y rfl rfl (Y.assign) ?_
              refine DL.nil ?_
              show DC _ _ _ _ _ _
              refine DC.ret ?_
              exact FinQ.ret1 rfl (Ret.mk FR rfl)
          · refine DL.y rfl rfl (Y.assign) ?_
            refine DL.nil ?_
            show DC _ _ _ _ _ _
            refine DC.condF rfl ?_
            refine DC.skip ?_
            show DC _ _ _ _ _ _
            refine DC.seq ?_
            refine DC.region ?_
            refine DL.y rfl rfl (Y.assign) ?_
            refine DL.nil ?_
            show DC _ _ _ _ _ _
            refine DC.ret ?_
            exact FinQ.ret1 rfl (Ret.mk FR rfl)


theorem cmp_any : ∀ m, CmpC m
  | 0 => fun v ca cb B w hm => by have := nodes_pos v; omega
  | m + 1 => cmp_step m (cmp_any m)

theorem same_any (v : V) (ca cb : Array Value) (B : Nat) (w : World) (hA : RV w B v ca) (hB : RV w B v cb) : Calls Tryd.prog 31 #[.agg ca, .agg cb] w (Ret w [] fun r _ => r = .bool true) := by
  have sa := hA.size
  have sb := hB.size
  obtain ⟨kind, half, text, list, keys, vals⟩ := v
  obtain ⟨la, lc, ka, kc, va, vc, rfl⟩ := hA.shape
  obtain ⟨lb, ld, kb, kd, vb, vd, rfl⟩ := hB.shape
  refine calls_of Tryd.func31 rfl rfl rfl rfl ?_
  have FR := Fr.refl [] w
  refine DC.seq ?_
  refine DC.region ?_
  refine DL.boxA rfl rfl rfl ?_
  intro b2 w1 f2 lo2 hi2 hb2
  replace lo2 := Nat.le_trans FR.size lo2
  replace FR := FR.tr0 f2
  replace hA := hA.fr f2 (by intro x hx; simp <;> omega)
  replace hB := hB.fr f2 (by intro x hx; simp <;> omega)
  refine DL.boxA rfl rfl rfl ?_
  intro b3 w3 f4 lo3 hi3 hb3
  have lt_b2_b3 : b2 < b3 := Nat.lt_of_lt_of_le hi2 lo3
  replace lo3 := Nat.le_trans FR.size lo3
  replace FR := FR.tr0 f4
  replace hA := hA.fr f4 (by intro x hx; simp <;> omega)
  replace hB := hB.fr f4 (by intro x hx; simp <;> omega)
  replace hb2 := f4.blk0 hb2
  replace hi2 := Nat.lt_of_lt_of_le hi2 f4.size
  refine DL.y rfl rfl (Y.assign) ?_
  refine DL.nil ?_
  show DC _ _ _ _ _ _
  refine DC.seq ?_
  refine DC.region ?_
  refine DL.y rfl rfl (Y.loadW rfl hb2 F.ag26) ?_
  refine DL.y rfl rfl (Y.loadW rfl hb3 F.ag26) ?_
  refine DL.call rfl rfl F.nm46 rfl (cmp_any _ _ _ _ B _ (Nat.le_refl _) hA hB) ?_
  rintro _ w5 f6 rfl
  replace FR := FR.tr0 f6
  replace hA := hA.fr f6 (by intro x hx; simp <;> omega)
  replace hB := hB.fr f6 (by intro x hx; simp <;> omega)
  replace hb2 := f6.blk0 hb2
  replace hi2 := Nat.lt_of_lt_of_le hi2 f6.size
  replace hb3 := f6.blk0 hb3
  replace hi3 := Nat.lt_of_lt_of_le hi3 f6.size
  refine DL.if rfl rfl (Y.eq rfl rfl) (fun c8 => ?_) (fun c8 => ?_)
  · refine DL.y rfl rfl (Y.assign) ?_
    refine DL.nil ?_
    show DC _ _ _ _ _ _
    refine DC.ret ?_
    exact FinQ.ret1 rfl (Ret.mk FR rfl)
  · exfalso; omega

end Go.Proofs.YtmbleojlnaofjaaDoor
