/- The walk of laws.FnKeys. -/
import Derived.Test.YtmbleojlnaofjaaGreatDoorKeys7
namespace Go.Proofs.YtmbleojlnaofjaaGreatDoor
open Go Go.RowKit D Go.Deep
set_option linter.unusedVariables false
set_option linter.unusedSimpArgs false

theorem told_err (w : World) : Calls Tryz.prog 10 #[.agg errR, .agg #[.int .i64 0, .int .i64 0, .string ⟨#[]⟩, .slice none 0 0, .slice none 0 0, .slice none 0 0], .int .i64 1] w (Ret w [] fun r _ => r = .bool true) := by
  refine calls_of Tryz.func10 rfl rfl rfl rfl ?_
  have FR := Fr.refl [] w
  refine DC.seq ?_
  refine DC.region ?_
  refine DL.boxA rfl rfl rfl ?_
  intro b3 w1 f2 lo3 hi3 hb3
  replace lo3 := Nat.le_trans FR.size lo3
  replace FR := FR.tr0 f2
  refine DL.boxA rfl rfl rfl ?_
  intro b4 w3 f4 lo4 hi4 hb4
  have lt_b3_b4 : b3 < b4 := Nat.lt_of_lt_of_le hi3 lo4
  replace lo4 := Nat.le_trans FR.size lo4
  replace FR := FR.tr0 f4
  replace hb3 := f4.blk0 hb3
  replace hi3 := Nat.lt_of_lt_of_le hi3 f4.size
  refine DL.y rfl rfl (Y.assign) ?_
  refine DL.nil ?_
  show DC _ _ _ _ _ _
  refine DC.seq ?_
  refine DC.seq ?_
  refine DC.region ?_
  refine DL.y rfl rfl (Y.move) ?_
  refine DL.nil ?_
  show DC _ _ _ _ _ _
  refine DC.block ?_
  refine DC.seq ?_
  refine DC.region ?_
  refine DL.if rfl rfl (Y.eq rfl rfl) (fun c9 => ?_) (fun c9 => ?_)
  · refine DL.y rfl rfl (Y.assign) ?_
    refine DL.nil ?_
    show DC _ _ _ _ _ _
    refine DC.condT rfl ?_
    refine DC.seq ?_
    refine DC.region ?_
    refine DL.y rfl rfl (Y.field F.fd34_1 rfl) ?_
    refine DL.y rfl rfl (Y.loadB F.sc3 rfl hb3 rfl) ?_
    refine DL.if rfl rfl (Y.eq rfl rfl) (fun c12 => ?_) (fun c12 => ?_)
    · refine DL.y rfl rfl (Y.assign) ?_
      refine DL.nil ?_
      show DC _ _ _ _ _ _
      refine DC.ret ?_
      exact FinQ.ret1 rfl (Ret.mk FR rfl)
    · exfalso; omega
  · exfalso; omega


theorem or_fr2 {S : List Nat} {w w' : World} {B n : Nat} {cr : Array Value} {xs : List Value} {p q r s : Prop} (h : (p ∧ q ∧ ∃ sl, cr = arrC sl ∧ w.ownsRow B 26 6 sl n xs) ∨ (r ∧ s ∧ cr = #[.int .i64 0, .int .i64 0, .string ⟨#[]⟩, .slice none 0 0, .slice none 0 0, .slice none 0 0])) (f : Fr S w w') (hs : ∀ b ∈ S, ∀ sl, cr = arrC sl → sl.ownBlock ≠ some b) :
    (p ∧ q ∧ ∃ sl, cr = arrC sl ∧ w'.ownsRow B 26 6 sl n xs) ∨ (r ∧ s ∧ cr = #[.int .i64 0, .int .i64 0, .string ⟨#[]⟩, .slice none 0 0, .slice none 0 0, .slice none 0 0]) := by
  rcases h with ⟨h1, h2, sl, h3, ho⟩ | h
  · exact Or.inl ⟨h1, h2, sl, h3, ownsRow_fr ho f (fun b hb => hs b hb sl h3)⟩
  · exact Or.inr h
theorem or_ne {w : World} {B n b : Nat} {cr : Array Value} {xs : List Value} {p q r s : Prop} (h : (p ∧ q ∧ ∃ sl, cr = arrC sl ∧ w.ownsRow B 26 6 sl n xs) ∨ (r ∧ s ∧ cr = #[.int .i64 0, .int .i64 0, .string ⟨#[]⟩, .slice none 0 0, .slice none 0 0, .slice none 0 0])) (hb : w.heap.size ≤ b) : ∀ sl, cr = arrC sl → sl.ownBlock ≠ some b := by
  intro sl hsl
  rcases h with ⟨_, _, sl', h3, ho⟩ | ⟨_, _, h3⟩
  · have e : sl' = sl := by have := h3.symm.trans hsl; simpa [arrC] using this
    subst e; exact own_ne ho (Or.inr hb)
  · rw [h3] at hsl
    have := congrArg (fun a : Array Value => a[0]?) hsl
    simp [arrC] at this
theorem or_one {w : World} {B n : Nat} {cr : Array Value} {xs : List Value} {p q r s : Prop} (h : (p ∧ q ∧ ∃ sl, cr = arrC sl ∧ w.ownsRow B 26 6 sl n xs) ∨ (r ∧ s ∧ cr = #[.int .i64 0, .int .i64 0, .string ⟨#[]⟩, .slice none 0 0, .slice none 0 0, .slice none 0 0])) : cr.size = 6 ∧ cr.all (·.oneCell') = true := by
  rcases h with ⟨_, _, sl, rfl, ho⟩ | ⟨_, _, rfl⟩
  · exact ⟨rfl, arr_one ho⟩
  · exact ⟨rfl, by kernel_rfl⟩
theorem told_keys {w : World} {v : V} {cr : Array Value} {how : Int} {r : Value} {B1 B2 : Nat} (hok : (∀ l ∈ leaves v, l.ok) ∧ (leaves v).length ≤ 1000000) (h1 : ((how = 0 ∧ (v.kind = 5 ∨ v.kind = 6) ∧ ∃ sl, cr = arrC sl ∧ w.ownsRow B1 26 6 sl (leaves v).length (cellsL (leaves v))) ∨ (how = 1 ∧ ¬ (v.kind = 5 ∨ v.kind = 6) ∧ cr = #[.int .i64 0, .int .i64 0, .string ⟨#[]⟩, .slice none 0 0, .slice none 0 0, .slice none 0 0]))) (h2 : (((v.kind = 5 ∨ v.kind = 6) ∧ ∃ sl, r = .agg (arrR sl) ∧ w.ownsRow B2 26 6 sl (leaves v).length (cellsL (leaves v))) ∨ (¬ (v.kind = 5 ∨ v.kind = 6) ∧ r = .agg errR))) :
    Calls Tryz.prog 10 #[r, .agg cr, .int .i64 how] w (Ret w [] fun x _ => x = .bool true) := by
  rcases h1 with ⟨rfl, hk, sl, rfl, ho⟩ | ⟨rfl, hk, rfl⟩
  · rcases h2 with ⟨_, sl2, rfl, ho2⟩ | ⟨hk2, _⟩
    · exact told_any _ _ _ _ _ _ _ _ w.heap.size w (arrRV (n := 0) ho2 hok.2 hok.1) (arrRV (n := 0) ho hok.2 hok.1)
    · exact absurd hk hk2
  · rcases h2 with ⟨hk2, _⟩ | ⟨_, rfl⟩
    · exact absurd hk2 hk
    · exact told_err w

theorem fits_any (v : V) (cs : Array Value) (B bs : Nat) (w : World) (hR : RV w B v cs) (hB : B ≤ w.heap.size) (h2 : 2 ≤ B) (hT : Tabs w) (hbs : w.heap[bs]? = some (.cells cs 26 (0, 0))) :
    Calls Tryz.prog 8 #[.slice (some ⟨bs, 0, none⟩) 1 1] w (Ret w [] fun r _ => ∃ ok, r = .bool ok ∧ (ok = true → Good v ∧ v.nodes ≤ 400 ∧ v.bytes ≤ 2000)) := by
  have hbsl := lt_of_blk hbs
  have hcz := hR.size
  refine calls_of Tryz.func8 rfl rfl rfl rfl ?_
  have FR := Fr.refl [] w
  refine DC.seq ?_
  refine DC.region ?_
  refine DL.y rfl rfl (Y.assign) ?_
  refine DL.nil ?_
  show DC _ _ _ _ _ _
  refine DC.seq ?_
  refine DC.seq ?_
  refine DC.region ?_
  refine DL.y rfl rfl (Y.move) ?_
  refine DL.y rfl rfl (Y.lenS Tryz.underlying23 rfl) ?_
  refine DL.y rfl rfl (Y.move) ?_
  refine DL.nil ?_
  show DC _ _ _ _ _ _
  refine DC.block ?_
  refine DC.loop (σ := Nat) [(2, 2), (4, 4), (7, 14)] (fun k => [(7, .int .i64 (k : Int))]) (fun sg wl => Fr [] w wl ∧ (fun k wl => k ≤ 1 ∧ (k = 1 → Good v ∧ v.nodes ≤ 400 ∧ v.bytes ≤ 2000)) sg wl) (fun k => 1 - k) (0) rfl ?_ ?_ ?_
  · exact rfl
  · exact ⟨Fr.refl _ _, Nat.zero_le _, fun h => by omega⟩
  · rintro k j w1 ⟨f2, hk0, hgd⟩
    replace FR := FR.tr0 f2
    replace hR := hR.fr f2 (by intro x hx; simp <;> omega)
    replace hT := hT.fr f2 (by intro x hx; simp <;> omega)
    replace hbs := f2.blk0 hbs
    have G3 := f2
    have HG3 := Fr.refl [] w1
    refine DC.seq ?_
    refine DC.region ?_
    refine DL.if rfl rfl (Y.lt rfl rfl) (fun c8 => ?_) (fun c8 => ?_)
    · have hk : k < 1 := by omega
      obtain rfl : k = 0 := by omega
      refine DL.nil ?_
      show DC _ _ _ _ _ _
      refine DC.seq ?_
      refine DC.condT rfl ?_
      refine DC.skip ?_
      show DC _ _ _ _ _ _
      refine DC.seq ?_
      refine DC.block ?_
      refine DC.seq ?_
      refine DC.region ?_
      refine DL.y rfl rfl (Y.index F.sl23 rfl rfl (rfl) (hk)) ?_
      refine DL.y rfl rfl (Y.loadAn hcz F.ag26 rfl (.ofBlk hbs)) ?_
      refine DL.alloc rfl rfl F.z26 rfl ?_
      intro b4 w4 f5 lo4 hi4 hb4
      have lo4G3 := Nat.le_trans G3.size lo4
      have lo4HG3 := Nat.le_trans HG3.size lo4
      replace lo4 := Nat.le_trans FR.size lo4
      replace FR := FR.tr0 f5
      replace G3 := G3.tr0 f5
      replace HG3 := HG3.tr0 f5
      replace hR := hR.fr f5 (by intro x hx; simp <;> omega)
      replace hT := hT.fr f5 (by intro x hx; simp <;> omega)
      replace hbs := f5.blk0 hbs
      refine DL.storeA (cs := cs) rfl F.ag26 rfl rfl hcz (RV.one hR) hb4 rfl ?_
      intro w6 f7 hs8 hb4'
      replace FR := FR.put f7 (by intro i hi; simp only [List.mem_cons, List.mem_singleton, List.not_mem_nil, or_false] at hi; rcases hi with rfl; all_goals (first | (left; simp; done) | (right; omega)))
      replace G3 := G3.put f7 (by intro i hi; simp only [List.mem_cons, List.mem_singleton, List.not_mem_nil, or_false] at hi; rcases hi with rfl; all_goals (first | (left; simp; done) | (right; omega)))
      replace HG3 := HG3.put f7 (by intro i hi; simp only [List.mem_cons, List.mem_singleton, List.not_mem_nil, or_false] at hi; rcases hi with rfl; all_goals (first | (left; simp; done) | (right; omega)))
      replace hR := hR.fr f7 (by intro x hx; simp <;> omega)
      replace hT := hT.fr f7 (by intro x hx; simp <;> omega)
      replace hbs := f7.blk hbs (by simp only [List.mem_cons, List.not_mem_nil, or_false, not_or]; omega)
      replace hi4 := Nat.lt_of_lt_of_le hi4 f7.size
      replace hb4 := hb4'
      refine DL.nil ?_
      show DC _ _ _ _ _ _
      refine DC.seq ?_
      refine DC.region ?_
      refine DL.y rfl rfl (Y.loadAn hcz F.ag26 rfl (.ofBlk hb4)) ?_
      refine DL.call rfl rfl F.nm25 rfl (Fit_any _ _ B _ hR (by have := FR.size; omega) h2 hT) ?_
      rintro _ w9 f10 ⟨q, rfl, hqa⟩
      replace FR := FR.tr0 f10
      replace G3 := G3.tr0 f10
      replace HG3 := HG3.tr0 f10
      replace hR := hR.fr f10 (by intro x hx; simp <;> omega)
      replace hT := hT.fr f10 (by intro x hx; simp <;> omega)
      replace hbs := f10.blk0 hbs
      replace hi4 := Nat.lt_of_lt_of_le hi4 f10.size
      replace hb4 := f10.blk0 hb4
      rcases Bool.eq_false_or_eq_true q with hq | hq
      · subst hq
        refine DL.y rfl rfl (Y.not rfl) ?_
        refine DL.nil ?_
        show DC _ _ _ _ _ _
        refine DC.condF rfl ?_
        refine DC.skip ?_
        show DC _ _ _ _ _ _
        refine DC.region ?_
        refine DL.y rfl rfl (Y.addI (c := ((0 + 1 : Nat) : Int)) rfl rfl (by omega) (by omega) (by omega)) ?_
        refine DL.y rfl rfl (Y.move) ?_
        refine DL.nil ?_
        exact ⟨0 + 1, ⟨G3, by omega, fun _ => hqa rfl⟩, by show 1 - (0 + 1) < 1 - 0; omega, rfl⟩
      · subst hq
        refine DL.y rfl rfl (Y.not rfl) ?_
        refine DL.nil ?_
        show DC _ _ _ _ _ _
        refine DC.condT rfl ?_
        refine DC.seq ?_
        refine DC.region ?_
        refine DL.y rfl rfl (Y.assign) ?_
        refine DL.nil ?_
        show DC _ _ _ _ _ _
        refine DC.ret ?_
        exact FinQ.ret1 rfl (Ret.mk FR ⟨false, rfl, fun h => by cases h⟩)
    · refine DL.nil ?_
      show DC _ _ _ _ _ _
      refine DC.seq ?_
      refine DC.condF rfl ?_
      refine DC.exit ?_
      show DC _ _ _ _ _ _
      refine DC.seq ?_
      refine DC.region ?_
      refine DL.y rfl rfl (Y.assign) ?_
      refine DL.nil ?_
      show DC _ _ _ _ _ _
      refine DC.ret ?_
      exact FinQ.ret1 rfl (Ret.mk FR ⟨true, rfl, fun h => hgd (by omega)⟩)

set_option maxHeartbeats 1000000 in
theorem law_any (v : V) (ca : Array Value) (B : Nat) (w : World) (hR : RV w B v ca) (hB : B ≤ w.heap.size) (h2 : 2 ≤ B) (hT : Tabs w) : Calls Tryz.prog 3 #[.agg ca] w (Ret w [] fun r _ => r = .bool true) := by
  obtain ⟨kind, half, text, list, keys, vals⟩ := v
  obtain ⟨la, lc, ka, kc, va, vc, rfl⟩ := hR.shape
  refine calls_of Tryz.func3 rfl rfl rfl rfl ?_
  have FR := Fr.refl [] w
  refine DC.seq ?_
  refine DC.region ?_
  refine DL.boxA rfl rfl rfl ?_
  intro b1 w1 f2 lo1 hi1 hb1
  replace lo1 := Nat.le_trans FR.size lo1
  replace FR := FR.tr0 f2
  replace hR := hR.fr f2 (by intro x hx; simp <;> omega)
  replace hT := hT.fr f2 (by intro x hx; simp <;> omega)
  refine DL.y rfl rfl (Y.assign) ?_
  refine DL.nil ?_
  show DC _ _ _ _ _ _
  refine DC.seq ?_
  refine DC.seq ?_
  refine DC.region ?_
  refine DL.y rfl rfl (Y.loadW rfl hb1 F.ag26) ?_
  refine DL.call rfl rfl F.nm7 rfl (zzFits1_any _ _ B _ hR (by have := FR.size; omega)) ?_
  rintro _ w3 f4 ⟨r1, rfl⟩
  replace FR := FR.tr0 f4
  replace hR := hR.fr f4 (by intro x hx; simp <;> omega)
  replace hT := hT.fr f4 (by intro x hx; simp <;> omega)
  replace hb1 := f4.blk0 hb1
  replace hi1 := Nat.lt_of_lt_of_le hi1 f4.size
  rcases Bool.eq_false_or_eq_true r1 with hr1 | hr1
  · subst hr1
    refine DL.y rfl rfl (Y.not rfl) ?_
    refine DL.nil ?_
    show DC _ _ _ _ _ _
    refine DC.condF rfl ?_
    refine DC.skip ?_
    show DC _ _ _ _ _ _
    refine DC.seq ?_
    refine DC.seq ?_
    refine DC.region ?_
    refine DL.y rfl rfl (Y.loadW rfl hb1 F.ag26) ?_
    refine DL.buildSl1 rfl rfl (F.el23) rfl rfl rfl ?_
    intro b9 w5 f6 lo9 hi9 hb9
    have lt_b1_b9 : b1 < b9 := Nat.lt_of_lt_of_le hi1 lo9
    replace lo9 := Nat.le_trans FR.size lo9
    replace FR := FR.tr0 f6
    replace hR := hR.fr f6 (by intro x hx; simp <;> omega)
    replace hT := hT.fr f6 (by intro x hx; simp <;> omega)
    replace hb1 := f6.blk0 hb1
    replace hi1 := Nat.lt_of_lt_of_le hi1 f6.size
    refine DL.call rfl rfl F.nm8 rfl (fits_any _ _ B b9 _ hR (by have := FR.size; omega) h2 hT hb9) ?_
    rintro _ w7 f8 ⟨q2, rfl, hq2a⟩
    replace FR := FR.tr0 f8
    replace hR := hR.fr f8 (by intro x hx; simp <;> omega)
    replace hT := hT.fr f8 (by intro x hx; simp <;> omega)
    replace hb1 := f8.blk0 hb1
    replace hi1 := Nat.lt_of_lt_of_le hi1 f8.size
    replace hb9 := f8.blk0 hb9
    replace hi9 := Nat.lt_of_lt_of_le hi9 f8.size
    rcases Bool.eq_false_or_eq_true q2 with hq2 | hq2
    · obtain ⟨hG, hn, hby⟩ := hq2a hq2
      subst hq2
      refine DL.y rfl rfl (Y.not rfl) ?_
      refine DL.nil ?_
      show DC _ _ _ _ _ _
      refine DC.condF rfl ?_
      refine DC.skip ?_
      show DC _ _ _ _ _ _
      refine DC.seq ?_
      refine DC.region ?_
      refine DL.y rfl rfl (Y.loadW rfl hb1 F.ag26) ?_
      refine DL.call rfl rfl F.nm9 rfl (Call_keys _ _ B _ hR (by have := FR.size; omega) hG hn) ?_
      rintro _ w9 f10 ⟨cr, how, rfl, hor⟩
      replace FR := FR.tr0 f10
      replace hR := hR.fr f10 (by intro x hx; simp <;> omega)
      replace hT := hT.fr f10 (by intro x hx; simp <;> omega)
      replace hb1 := f10.blk0 hb1
      replace hi1 := Nat.lt_of_lt_of_le hi1 f10.size
      replace hb9 := f10.blk0 hb9
      replace hi9 := Nat.lt_of_lt_of_le hi9 f10.size
      refine DL.y rfl rfl (Y.move) ?_
      refine DL.y rfl rfl (Y.extract rfl rfl) ?_
      refine DL.y rfl rfl (Y.extract rfl rfl) ?_
      refine DL.alloc rfl rfl F.z26 rfl ?_
      intro b3 w11 f12 lo3 hi3 hb3
      have hne3 := or_ne hor lo3
      have lt_b1_b3 : b1 < b3 := Nat.lt_of_lt_of_le hi1 lo3
      have lt_b9_b3 : b9 < b3 := Nat.lt_of_lt_of_le hi9 lo3
      replace lo3 := Nat.le_trans FR.size lo3
      replace FR := FR.tr0 f12
      replace hR := hR.fr f12 (by intro x hx; simp <;> omega)
      replace hT := hT.fr f12 (by intro x hx; simp <;> omega)
      replace hb1 := f12.blk0 hb1
      replace hi1 := Nat.lt_of_lt_of_le hi1 f12.size
      replace hb9 := f12.blk0 hb9
      replace hi9 := Nat.lt_of_lt_of_le hi9 f12.size
      replace hor := or_fr2 hor f12 (by intro b hb; first | (simp at hb; done) | (simp only [List.mem_singleton] at hb; subst hb; exact hne3))
      obtain ⟨hcrs, hcr1⟩ := or_one hor
      refine DL.storeA (cs := cr) rfl F.ag26 rfl rfl hcrs hcr1 hb3 rfl ?_
      intro w13 f14 hs15 hb3'
      replace FR := FR.put f14 (by intro i hi; simp only [List.mem_cons, List.mem_singleton, List.not_mem_nil, or_false] at hi; rcases hi with rfl; all_goals (first | (left; simp; done) | (right; omega)))
      replace hR := hR.fr f14 (by intro x hx; simp <;> omega)
      replace hT := hT.fr f14 (by intro x hx; simp <;> omega)
      replace hb1 := f14.blk hb1 (by simp only [List.mem_cons, List.not_mem_nil, or_false, not_or]; omega)
      replace hi1 := Nat.lt_of_lt_of_le hi1 f14.size
      replace hb9 := f14.blk hb9 (by simp only [List.mem_cons, List.not_mem_nil, or_false, not_or]; omega)
      replace hi9 := Nat.lt_of_lt_of_le hi9 f14.size
      replace hor := or_fr2 hor f14 (by intro b hb; first | (simp at hb; done) | (simp only [List.mem_singleton] at hb; subst hb; exact hne3))
      replace hi3 := Nat.lt_of_lt_of_le hi3 f14.size
      replace hb3 := hb3'
      refine DL.y rfl rfl (Y.assign) ?_
      refine DL.nil ?_
      show DC _ _ _ _ _ _
      refine DC.seq ?_
      refine DC.seq ?_
      refine DC.region ?_
      refine DL.y rfl rfl (Y.move) ?_
      refine DL.if rfl rfl (Y.eq rfl rfl) (fun c18 => ?_) (fun c18 => ?_)
      · exact absurd c18 (by rcases hor with ⟨h, _⟩ | ⟨h, _⟩ <;> omega)
      · refine DL.nil ?_
        show DC _ _ _ _ _ _
        refine DC.condF rfl ?_
        refine DC.skip ?_
        show DC _ _ _ _ _ _
        refine DC.seq ?_
        refine DC.held F.mixed ?_
        intro w16 f17 hsw16
        replace FR := FR.tr0 f17
        replace hR := hR.fr f17 (by intro x hx; simp <;> omega)
        replace hT := hT.fr f17 (by intro x hx; simp <;> omega)
        replace hb1 := f17.blk0 hb1
        replace hi1 := Nat.lt_of_lt_of_le hi1 f17.size
        replace hb9 := f17.blk0 hb9
        replace hi9 := Nat.lt_of_lt_of_le hi9 f17.size
        replace hor := or_fr2 hor f17 (by intro b hb; first | (simp at hb; done) | (simp only [List.mem_singleton] at hb; subst hb; exact hne3))
        replace hi3 := Nat.lt_of_lt_of_le hi3 f17.size
        replace hb3 := f17.blk0 hb3
        refine DH.take 0 rfl (by kernel_rfl) (by kernel_rfl) (by kernel_rfl) rfl rfl (fun wq fq => Y.loadW rfl (fq.blk0 hb1) F.ag26) ?_
        refine DH.take 2 rfl (by kernel_rfl) (by kernel_rfl) (by kernel_rfl) rfl rfl (fun wq fq => Y.loadW rfl (fq.blk0 hb3) (by rw [hcrs]; exact F.ag26)) ?_
        refine DH.take 3 rfl (by kernel_rfl) (by kernel_rfl) (by kernel_rfl) rfl rfl (fun wq fq => Y.move) ?_
        refine DH.oneCall 1 rfl (by kernel_rfl) rfl rfl F.nm11 rfl (Keys_any _ _ B _ hR (by have := FR.size; omega) hG hn) ?_
        rintro r20 w18 f19 hor2
        replace FR := FR.tr0 f19
        replace hR := hR.fr f19 (by intro x hx; simp <;> omega)
        replace hT := hT.fr f19 (by intro x hx; simp <;> omega)
        replace hb1 := f19.blk0 hb1
        replace hi1 := Nat.lt_of_lt_of_le hi1 f19.size
        replace hb9 := f19.blk0 hb9
        replace hi9 := Nat.lt_of_lt_of_le hi9 f19.size
        replace hor := or_fr2 hor f19 (by intro b hb; first | (simp at hb; done) | (simp only [List.mem_singleton] at hb; subst hb; exact hne3))
        replace hi3 := Nat.lt_of_lt_of_le hi3 f19.size
        replace hb3 := f19.blk0 hb3
        refine DH.oneCall 4 rfl (by kernel_rfl) rfl rfl F.nm10 rfl (told_keys (leaves_ok hR hG hn) hor hor2) ?_
        rintro _ w20 f21 rfl
        replace FR := FR.tr0 f21
        replace hR := hR.fr f21 (by intro x hx; simp <;> omega)
        replace hT := hT.fr f21 (by intro x hx; simp <;> omega)
        replace hb1 := f21.blk0 hb1
        replace hi1 := Nat.lt_of_lt_of_le hi1 f21.size
        replace hb9 := f21.blk0 hb9
        replace hi9 := Nat.lt_of_lt_of_le hi9 f21.size
        replace hor := or_fr2 hor f21 (by intro b hb; first | (simp at hb; done) | (simp only [List.mem_singleton] at hb; subst hb; exact hne3))
        replace hi3 := Nat.lt_of_lt_of_le hi3 f21.size
        replace hb3 := f21.blk0 hb3
        refine DH.oneY 5 rfl (by kernel_rfl) rfl rfl (Y.assign) ?_
        refine DH.done (by kernel_rfl) ?_
        show DC _ _ _ _ _ _
        refine DC.ret ?_
        exact FinQ.ret1 rfl (Ret.mk FR rfl)
    · subst hq2
      refine DL.y rfl rfl (Y.not rfl) ?_
      refine DL.nil ?_
      show DC _ _ _ _ _ _
      refine DC.condT rfl ?_
      refine DC.seq ?_
      refine DC.region ?_
      refine DL.y rfl rfl (Y.assign) ?_
      refine DL.nil ?_
      show DC _ _ _ _ _ _
      refine DC.ret ?_
      exact FinQ.ret1 rfl (Ret.mk FR rfl)
  · subst hr1
    refine DL.y rfl rfl (Y.not rfl) ?_
    refine DL.nil ?_
    show DC _ _ _ _ _ _
    refine DC.condT rfl ?_
    refine DC.seq ?_
    refine DC.region ?_
    refine DL.y rfl rfl (Y.assign) ?_
    refine DL.nil ?_
    show DC _ _ _ _ _ _
    refine DC.ret ?_
    exact FinQ.ret1 rfl (Ret.mk FR rfl)

end Go.Proofs.YtmbleojlnaofjaaGreatDoor
