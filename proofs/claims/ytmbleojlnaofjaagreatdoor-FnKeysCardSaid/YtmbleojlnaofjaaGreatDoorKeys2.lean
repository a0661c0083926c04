/- The walks of spec.Vague, alone, Call for keys. -/
import Derived.Test.YtmbleojlnaofjaaGreatDoorKeys
namespace Go.Proofs.YtmbleojlnaofjaaGreatDoor
open Go Go.RowKit D
set_option linter.unusedVariables false
set_option linter.unusedSimpArgs false


def VagueC (m : Nat) : Prop := ∀ (v : V) (cs : Array Value) (B : Nat) (w : World), v.nodes ≤ m → RV w B v cs → B ≤ w.heap.size → Good v → Calls Tryz.prog 29 #[.agg cs] w (Ret w [] fun r _ => r = .bool false)

theorem vague_step (m : Nat) (ih : VagueC m) : VagueC (m + 1) := by
  intro v cs B w hm hR hB hG
  obtain ⟨kind, half, text, list, keys, vals⟩ := v
  obtain ⟨la, lc, ka, kc, va, vc, rfl⟩ := hR.shape
  obtain ⟨bt, bl, bk, bv, bkind, bhalf⟩ := hR.bounds
  obtain ⟨⟨hk1, _, _, _, _, _, _, _, _, _, _⟩, hgl, hgv⟩ := hG
  simp only [V.nodes] at hm
  refine calls_of Tryz.func29 rfl rfl rfl rfl ?_
  have FR := Fr.refl [] w
  refine DC.seq ?_
  refine DC.region ?_
  refine DL.boxA rfl rfl rfl ?_
  intro b1 w1 f2 lo1 hi1 hb1
  replace lo1 := Nat.le_trans FR.size lo1
  replace FR := FR.tr0 f2
  replace hR := hR.fr f2 (by intro x hx; simp <;> omega)
  refine DL.y rfl rfl (Y.assign) ?_
  refine DL.nil ?_
  show DC _ _ _ _ _ _
  refine DC.seq ?_
  refine DC.seq ?_
  refine DC.region ?_
  refine DL.y rfl rfl (Y.field F.fd26_3 rfl) ?_
  refine DL.y rfl rfl (Y.loadB F.sc23 rfl hb1 rfl) ?_
  refine DL.y rfl rfl (Y.lenS Tryz.underlying23 rfl) ?_
  refine DL.y rfl rfl (Y.move) ?_
  refine DL.nil ?_
  show DC _ _ _ _ _ _
  refine DC.block ?_
  refine DC.loop (σ := Nat) [(2, 2), (4, 4), (10, 16)] (fun k => [(10, .int .i64 (k : Int))]) (fun sg wl => Fr [] w1 wl ∧ (fun k w' => k ≤ list.length) sg wl) (fun k => list.length - k) (0) rfl ?_ ?_ ?_
  · exact rfl
  · exact ⟨Fr.refl _ _, Nat.zero_le _⟩
  · rintro k j w3 ⟨f4, hk0⟩
    replace FR := FR.tr0 f4
    replace hR := hR.fr f4 (by intro x hx; simp <;> omega)
    replace hb1 := f4.blk0 hb1
    replace hi1 := Nat.lt_of_lt_of_le hi1 f4.size
    have G5 := f4
    have HG5 := Fr.refl [] w3
    refine DC.seq ?_
    refine DC.region ?_
    refine DL.if rfl rfl (Y.lt rfl rfl) (fun c11 => ?_) (fun c11 => ?_)
    · have hk : k < list.length := by omega
      obtain ⟨ba, oa, cl, rfl, hba, hcl, hcs, hRi⟩ := hR.elem hk
      have hle : list[k].nodes ≤ m := by have := nodes_le hk; omega
      have hc1 := RV.one hRi
      refine DL.nil ?_
      show DC _ _ _ _ _ _
      refine DC.seq ?_
      refine DC.condT rfl ?_
      refine DC.skip ?_
      show DC _ _ _ _ _ _
      refine DC.seq ?_
      refine DC.block ?_
      refine DC.seq ?_
      refine DC.region ?_
      refine DL.y rfl rfl (Y.index F.sl23 rfl rfl (rfl) (hk)) ?_
      refine DL.y rfl rfl (Y.loadAn hcs F.ag26 rfl hcl) ?_
      refine DL.alloc rfl rfl F.z26 rfl ?_
      intro b4 w6 f7 lo4 hi4 hb4
      have lt_b1_b4 : b1 < b4 := Nat.lt_of_lt_of_le hi1 lo4
      have lo4G5 := Nat.le_trans G5.size lo4
      have lo4HG5 := Nat.le_trans HG5.size lo4
      replace lo4 := Nat.le_trans FR.size lo4
      replace FR := FR.tr0 f7
      replace G5 := G5.tr0 f7
      replace HG5 := HG5.tr0 f7
      replace hR := hR.fr f7 (by intro x hx; simp <;> omega)
      replace hb1 := f7.blk0 hb1
      replace hi1 := Nat.lt_of_lt_of_le hi1 f7.size
      replace hRi := hRi.fr f7 (by intro x hx; simp <;> omega)
      refine DL.storeA rfl F.ag26 rfl rfl hcs hc1 hb4 rfl ?_
      intro w8 f9 hs10 hb4'
      replace FR := FR.put f9 (by intro i hi; simp only [List.mem_cons, List.mem_singleton, List.not_mem_nil, or_false] at hi; rcases hi with rfl; all_goals (first | (left; simp; done) | (right; omega)))
      replace G5 := G5.put f9 (by intro i hi; simp only [List.mem_cons, List.mem_singleton, List.not_mem_nil, or_false] at hi; rcases hi with rfl; all_goals (first | (left; simp; done) | (right; omega)))
      replace HG5 := HG5.put f9 (by intro i hi; simp only [List.mem_cons, List.mem_singleton, List.not_mem_nil, or_false] at hi; rcases hi with rfl; all_goals (first | (left; simp; done) | (right; omega)))
      replace hR := hR.fr f9 (by intro x hx; simp <;> omega)
      replace hb1 := f9.blk hb1 (by simp only [List.mem_cons, List.not_mem_nil, or_false, not_or]; omega)
      replace hi1 := Nat.lt_of_lt_of_le hi1 f9.size
      replace hRi := hRi.fr f9 (by intro x hx; simp <;> omega)
      replace hi4 := Nat.lt_of_lt_of_le hi4 f9.size
      replace hb4 := hb4'
      refine DL.nil ?_
      show DC _ _ _ _ _ _
      refine DC.seq ?_
      refine DC.region ?_
      refine DL.y rfl rfl (Y.loadAn hcs F.ag26 rfl (.ofBlk hb4)) ?_
      refine DL.call rfl rfl F.nm29 rfl (ih _ _ B _ hle hRi (by have := FR.size; omega) (hgl k hk)) ?_
      rintro _ w11 f12 rfl
      replace FR := FR.tr0 f12
      replace G5 := G5.tr0 f12
      replace HG5 := HG5.tr0 f12
      replace hR := hR.fr f12 (by intro x hx; simp <;> omega)
      replace hb1 := f12.blk0 hb1
      replace hi1 := Nat.lt_of_lt_of_le hi1 f12.size
      replace hRi := hRi.fr f12 (by intro x hx; simp <;> omega)
      replace hi4 := Nat.lt_of_lt_of_le hi4 f12.size
      replace hb4 := f12.blk0 hb4
      refine DL.nil ?_
      show DC _ _ _ _ _ _
      refine DC.condF rfl ?_
      refine DC.skip ?_
      show DC _ _ _ _ _ _
      refine DC.region ?_
      refine DL.y rfl rfl (Y.addI (c := ((k + 1 : Nat) : Int)) rfl rfl (by omega) (by omega) (by omega)) ?_
      refine DL.y rfl rfl (Y.move) ?_
      refine DL.nil ?_
      exact ⟨k + 1, ⟨G5, hk⟩, by show list.length - (k + 1) < list.length - k; omega, rfl⟩
    · refine DL.nil ?_
      show DC _ _ _ _ _ _
      refine DC.seq ?_
      refine DC.condF rfl ?_
      refine DC.exit ?_
      show DC _ _ _ _ _ _
      refine DC.seq ?_
      refine DC.seq ?_
      refine DC.region ?_
      refine DL.y rfl rfl (Y.field F.fd26_5 rfl) ?_
      refine DL.y rfl rfl (Y.loadB F.sc23 rfl hb1 rfl) ?_
      refine DL.y rfl rfl (Y.lenS Tryz.underlying23 rfl) ?_
      refine DL.y rfl rfl (Y.move) ?_
      refine DL.nil ?_
      show DC _ _ _ _ _ _
      refine DC.block ?_
      refine DC.loop (σ := Nat) [(2, 2), (6, 6), (20, 26)] (fun k => [(20, .int .i64 (k : Int))]) (fun sg wl => Fr [] w3 wl ∧ (fun k w' => k ≤ vals.length) sg wl) (fun k => vals.length - k) (0) rfl ?_ ?_ ?_
      · exact rfl
      · exact ⟨Fr.refl _ _, Nat.zero_le _⟩
      · rintro k2 j w13 ⟨f14, hk0⟩
        replace FR := FR.tr0 f14
        replace G5 := G5.tr0 f14
        replace HG5 := HG5.tr0 f14
        replace hR := hR.fr f14 (by intro x hx; simp <;> omega)
        replace hb1 := f14.blk0 hb1
        replace hi1 := Nat.lt_of_lt_of_le hi1 f14.size
        have G15 := f14
        have HG15 := Fr.refl [] w13
        refine DC.seq ?_
        refine DC.region ?_
        refine DL.if rfl rfl (Y.lt rfl rfl) (fun c21 => ?_) (fun c21 => ?_)
        · have hk2 : k2 < vals.length := by omega
          obtain ⟨ba, oa, cl, rfl, hba, hcl, hcs, hRi⟩ := hR.valAt hk2
          have hle : vals[k2].nodes ≤ m := by have := nodes_le hk2; omega
          have hc1 := RV.one hRi
          refine DL.nil ?_
          show DC _ _ _ _ _ _
          refine DC.seq ?_
          refine DC.condT rfl ?_
          refine DC.skip ?_
          show DC _ _ _ _ _ _
          refine DC.seq ?_
          refine DC.block ?_
          refine DC.seq ?_
          refine DC.region ?_
          refine DL.y rfl rfl (Y.index F.sl23 rfl rfl (rfl) (hk2)) ?_
          refine DL.y rfl rfl (Y.loadAn hcs F.ag26 rfl hcl) ?_
          refine DL.alloc rfl rfl F.z26 rfl ?_
          intro b6 w16 f17 lo6 hi6 hb6
          have lt_b1_b6 : b1 < b6 := Nat.lt_of_lt_of_le hi1 lo6
          have lo6G5 := Nat.le_trans G5.size lo6
          have lo6HG5 := Nat.le_trans HG5.size lo6
          have lo6G15 := Nat.le_trans G15.size lo6
          have lo6HG15 := Nat.le_trans HG15.size lo6
          replace lo6 := Nat.le_trans FR.size lo6
          replace FR := FR.tr0 f17
          replace G5 := G5.tr0 f17
          replace HG5 := HG5.tr0 f17
          replace G15 := G15.tr0 f17
          replace HG15 := HG15.tr0 f17
          replace hR := hR.fr f17 (by intro x hx; simp <;> omega)
          replace hb1 := f17.blk0 hb1
          replace hi1 := Nat.lt_of_lt_of_le hi1 f17.size
          replace hRi := hRi.fr f17 (by intro x hx; simp <;> omega)
          refine DL.storeA rfl F.ag26 rfl rfl hcs hc1 hb6 rfl ?_
          intro w18 f19 hs20 hb6'
          replace FR := FR.put f19 (by intro i hi; simp only [List.mem_cons, List.mem_singleton, List.not_mem_nil, or_false] at hi; rcases hi with rfl; all_goals (first | (left; simp; done) | (right; omega)))
          replace G5 := G5.put f19 (by intro i hi; simp only [List.mem_cons, List.mem_singleton, List.not_mem_nil, or_false] at hi; rcases hi with rfl; all_goals (first | (left; simp; done) | (right; omega)))
          replace HG5 := HG5.put f19 (by intro i hi; simp only [List.mem_cons, List.mem_singleton, List.not_mem_nil, or_false] at hi; rcases hi with rfl; all_goals (first | (left; simp; done) | (right; omega)))
          replace G15 := G15.put f19 (by intro i hi; simp only [List.mem_cons, List.mem_singleton, List.not_mem_nil, or_false] at hi; rcases hi with rfl; all_goals (first | (left; simp; done) | (right; omega)))
          replace HG15 := HG15.put f19 (by intro i hi; simp only [List.mem_cons, List.mem_singleton, List.not_mem_nil, or_false] at hi; rcases hi with rfl; all_goals (first | (left; simp; done) | (right; omega)))
          replace hR := hR.fr f19 (by intro x hx; simp <;> omega)
          replace hb1 := f19.blk hb1 (by simp only [List.mem_cons, List.not_mem_nil, or_false, not_or]; omega)
          replace hi1 := Nat.lt_of_lt_of_le hi1 f19.size
          replace hRi := hRi.fr f19 (by intro x hx; simp <;> omega)
          replace hi6 := Nat.lt_of_lt_of_le hi6 f19.size
          replace hb6 := hb6'
          refine DL.nil ?_
          show DC _ _ _ _ _ _
          refine DC.seq ?_
          refine DC.region ?_
          refine DL.y rfl rfl (Y.loadAn hcs F.ag26 rfl (.ofBlk hb6)) ?_
          refine DL.call rfl rfl F.nm29 rfl (ih _ _ B _ hle hRi (by have := FR.size; omega) (hgv k2 hk2)) ?_
          rintro _ w21 f22 rfl
          replace FR := FR.tr0 f22
          replace G5 := G5.tr0 f22
          replace HG5 := HG5.tr0 f22
          replace G15 := G15.tr0 f22
          replace HG15 := HG15.tr0 f22
          replace hR := hR.fr f22 (by intro x hx; simp <;> omega)
          replace hb1 := f22.blk0 hb1
          replace hi1 := Nat.lt_of_lt_of_le hi1 f22.size
          replace hRi := hRi.fr f22 (by intro x hx; simp <;> omega)
          replace hi6 := Nat.lt_of_lt_of_le hi6 f22.size
          replace hb6 := f22.blk0 hb6
          refine DL.nil ?_
          show DC _ _ _ _ _ _
          refine DC.condF rfl ?_
          refine DC.skip ?_
          show DC _ _ _ _ _ _
          refine DC.region ?_
          refine DL.y rfl rfl (Y.addI (c := ((k2 + 1 : Nat) : Int)) rfl rfl (by omega) (by omega) (by omega)) ?_
          refine DL.y rfl rfl (Y.move) ?_
          refine DL.nil ?_
          exact ⟨k2 + 1, ⟨G15, hk2⟩, by show vals.length - (k2 + 1) < vals.length - k2; omega, rfl⟩
        · refine DL.nil ?_
          show DC _ _ _ _ _ _
          refine DC.seq ?_
          refine DC.condF rfl ?_
          refine DC.exit ?_
          show DC _ _ _ _ _ _
          refine DC.seq ?_
          refine DC.region ?_
          refine DL.y rfl rfl (Y.field F.fd26_0 rfl) ?_
          refine DL.y rfl rfl (Y.loadB F.sc22 rfl hb1 rfl) ?_
          refine DL.if rfl rfl (Y.eq rfl rfl) (fun c29 => ?_) (fun c29 => ?_)
          · exfalso; omega
          · refine DL.y rfl rfl (Y.assign) ?_
            refine DL.nil ?_
            show DC _ _ _ _ _ _
            refine DC.ret ?_
            exact FinQ.ret1 rfl (Ret.mk FR rfl)


theorem vague_any : ∀ m, VagueC m
  | 0 => fun v cs B w hm => by have := nodes_pos v; omega
  | m + 1 => vague_step m (vague_any m)


theorem arrRV0 (w : World) (B : Nat) : RV w B (.mk 5 0 ⟨#[]⟩ [] [] []) (arrC (.slice none 0 0)) :=
  .mk (fun _ => #[]) (fun _ => #[]) (by omega) (by omega) (by decide) (by simp) (by simp) (by simp) (by simp) (fun i hi => absurd hi (by simp)) (fun i hi => absurd hi (by simp)) (fun i hi => absurd hi (by simp)) (fun i hi => absurd hi (by simp)) (fun i hi => absurd hi (by simp))
theorem good_arr0 : Good (.mk 5 0 ⟨#[]⟩ [] [] []) :=
  .mk ⟨by omega, Or.inr rfl, Or.inr rfl, Or.inr rfl, Or.inr rfl, rfl, by omega, Or.inl rfl, by decide, fun i h => absurd h (by simp), fun i h => absurd h (by simp)⟩ (fun i h => absurd h (by simp)) (fun i h => absurd h (by simp))
theorem or_fr {S : List Nat} {w w' : World} {B n : Nat} {cr : Array Value} {xs : List Value} {p q r s : Prop} (h : (p ∧ q ∧ ∃ sl, cr = arrC sl ∧ w.ownsRow B 26 6 sl n xs) ∨ (r ∧ s ∧ cr = #[.int .i64 0, .int .i64 0, .string ⟨#[]⟩, .slice none 0 0, .slice none 0 0, .slice none 0 0])) (f : Fr S w w') (hs : ∀ b ∈ S, b < B) :
    (p ∧ q ∧ ∃ sl, cr = arrC sl ∧ w'.ownsRow B 26 6 sl n xs) ∨ (r ∧ s ∧ cr = #[.int .i64 0, .int .i64 0, .string ⟨#[]⟩, .slice none 0 0, .slice none 0 0, .slice none 0 0]) := by
  rcases h with ⟨h1, h2, sl, h3, ho⟩ | h
  · exact Or.inl ⟨h1, h2, sl, h3, ownsRow_fr ho f (fun b hb => own_ne ho (Or.inl (hs b hb)))⟩
  · exact Or.inr h

theorem alone_keys (v : V) (cs : Array Value) (B : Nat) (w : World) (hR : RV w B v cs) (hB : B ≤ w.heap.size) (hG : Good v) (hn : v.nodes ≤ 400) : Calls Tryz.prog 31 #[.string ⟨#[107, 101, 121, 115]⟩, .agg cs] w (Ret w [] fun r w' => ∃ cr how, r = .tuple #[.agg cr, .int .i64 how] ∧ ((how = 0 ∧ (v.kind = 5 ∨ v.kind = 6) ∧ ∃ sl, cr = arrC sl ∧ w'.ownsRow w.heap.size 26 6 sl (leaves v).length (cellsL (leaves v))) ∨ (how = 1 ∧ ¬ (v.kind = 5 ∨ v.kind = 6) ∧ cr = #[.int .i64 0, .int .i64 0, .string ⟨#[]⟩, .slice none 0 0, .slice none 0 0, .slice none 0 0]))) := by
  obtain ⟨kind, half, text, list, keys, vals⟩ := v
  obtain ⟨la, lc, ka, kc, va, vc, rfl⟩ := hR.shape
  refine calls_of Tryz.func31 rfl rfl rfl rfl ?_
  have FR := Fr.refl [] w
  refine DC.seq ?_
  refine DC.region ?_
  refine DL.boxA rfl rfl rfl ?_
  intro b3 w1 f2 lo3 hi3 hb3
  replace lo3 := Nat.le_trans FR.size lo3
  replace FR := FR.tr0 f2
  replace hR := hR.fr f2 (by intro x hx; simp <;> omega)
  refine DL.alloc rfl rfl F.z26 rfl ?_
  intro b4 w3 f4 lo4 hi4 hb4
  have lt_b3_b4 : b3 < b4 := Nat.lt_of_lt_of_le hi3 lo4
  replace lo4 := Nat.le_trans FR.size lo4
  replace FR := FR.tr0 f4
  replace hR := hR.fr f4 (by intro x hx; simp <;> omega)
  replace hb3 := f4.blk0 hb3
  replace hi3 := Nat.lt_of_lt_of_le hi3 f4.size
  refine DL.y rfl rfl (Y.assign) ?_
  refine DL.nil ?_
  show DC _ _ _ _ _ _
  refine DC.seq ?_
  refine DC.seq ?_
  refine DC.region ?_
  refine DL.y rfl rfl (Y.move) ?_
  refine DL.nil ?_
  show DC _ _ _ _ _ _
  refine DC.block ?_
  refine DC.seq ?_
  refine DC.region ?_
  refine DL.y rfl rfl (Y.seqc rfl rfl (c := false) (by decide)) ?_
  refine DL.y rfl rfl (Y.assign) ?_
  refine DL.nil ?_
  show DC _ _ _ _ _ _
  refine DC.condF rfl ?_
  refine DC.seq ?_
  refine DC.region ?_
  refine DL.y rfl rfl (Y.seqc rfl rfl (c := false) (by decide)) ?_
  refine DL.y rfl rfl (Y.assign) ?_
  refine DL.nil ?_
  show DC _ _ _ _ _ _
  refine DC.condF rfl ?_
  refine DC.seq ?_
  refine DC.region ?_
  refine DL.y rfl rfl (Y.seqc rfl rfl (c := true) (by decide)) ?_
  refine DL.y rfl rfl (Y.assign) ?_
  refine DL.nil ?_
  show DC _ _ _ _ _ _
  refine DC.condT rfl ?_
  refine DC.seq ?_
  refine DC.seq ?_
  refine DC.region ?_
  refine DL.y rfl rfl (Y.field F.fd26_0 rfl) ?_
  refine DL.y rfl rfl (Y.loadB F.sc22 rfl hb3 rfl) ?_
  refine DL.if rfl rfl (Y.ne rfl rfl) (fun c29 => ?_) (fun c29 => ?_)
  · refine DL.y rfl rfl (Y.move) ?_
    refine DL.y rfl rfl (Y.field F.fd26_0 rfl) ?_
    refine DL.y rfl rfl (Y.loadB F.sc22 rfl hb3 rfl) ?_
    refine DL.if rfl rfl (Y.ne rfl rfl) (fun c33 => ?_) (fun c33 => ?_)
    · refine DL.y rfl rfl (Y.pickT rfl) ?_
      refine DL.nil ?_
      show DC _ _ _ _ _ _
      refine DC.condT rfl ?_
      refine DC.seq ?_
      refine DC.region ?_
      refine DL.y rfl rfl (Y.build (cs := #[.int .i64 0, .int .i64 0, .string ⟨#[]⟩, .slice none 0 0, .slice none 0 0, .slice none 0 0]) (by kernel_rfl)) ?_
      refine DL.storeA rfl F.ag26 rfl rfl rfl (by kernel_rfl) hb4 rfl ?_
      intro w5 f6 hs7 hb4'
      replace FR := FR.put f6 (by intro i hi; simp only [List.mem_cons, List.mem_singleton, List.not_mem_nil, or_false] at hi; rcases hi with rfl; all_goals (first | (left; simp; done) | (right; omega)))
      replace hR := hR.fr f6 (by intro x hx; simp <;> omega)
      replace hb3 := f6.blk hb3 (by simp only [List.mem_cons, List.not_mem_nil, or_false, not_or]; omega)
      replace hi3 := Nat.lt_of_lt_of_le hi3 f6.size
      replace hi4 := Nat.lt_of_lt_of_le hi4 f6.size
      replace hb4 := hb4'
      refine DL.y rfl rfl (Y.assign) ?_
      refine DL.nil ?_
      show DC _ _ _ _ _ _
      refine DC.ret ?_
      refine FinQ.retCT rfl (cs := #[.int .i64 0, .int .i64 0, .string ⟨#[]⟩, .slice none 0 0, .slice none 0 0, .slice none 0 0]) F.ag26 (.ofBlk hb4) rfl (Ret.mk FR ⟨_, 1, rfl, Or.inr ⟨rfl, ?_, rfl⟩⟩)
      simp only [V.kind]; omega
    · refine DL.y rfl rfl (Y.pickT rfl) ?_
      refine DL.nil ?_
      show DC _ _ _ _ _ _
      refine DC.condF rfl ?_
      refine DC.skip ?_
      show DC _ _ _ _ _ _
      refine DC.seq ?_
      refine DC.region ?_
      refine DL.y rfl rfl (Y.loadW rfl hb3 F.ag26) ?_
      have hszp := FR.size
      have hb4c : b4 < w3.heap.size := hi4
      refine DL.call rfl rfl F.nm48 rfl (specKeys_any _ _ B _ hR (by have := FR.size; omega) hG hn) ?_
      rintro r37 w8 f9 hown
      replace FR := FR.tr0 f9
      replace hR := hR.fr f9 (by intro x hx; simp <;> omega)
      replace hb3 := f9.blk0 hb3
      replace hi3 := Nat.lt_of_lt_of_le hi3 f9.size
      replace hb4 := f9.blk0 hb4
      replace hi4 := Nat.lt_of_lt_of_le hi4 f9.size
      obtain ⟨a, c, hr37, _, _⟩ := own_cells hown
      obtain ⟨sn, hsn⟩ : ∃ sn, sn = (leaves (.mk kind half text list keys vals)).length := ⟨_, rfl⟩
      rw [← hsn] at hr37
      subst hr37
      refine DL.call rfl rfl F.nm30 rfl (Array_any _ _ _ _) ?_
      rintro _ w10 f11 rfl
      replace FR := FR.tr0 f11
      replace hR := hR.fr f11 (by intro x hx; simp <;> omega)
      replace hb3 := f11.blk0 hb3
      replace hi3 := Nat.lt_of_lt_of_le hi3 f11.size
      replace hb4 := f11.blk0 hb4
      replace hi4 := Nat.lt_of_lt_of_le hi4 f11.size
      replace hown := ownsRow_fr hown f11 (by intro b hb; first | (simp at hb; done) | (simp only [List.mem_singleton] at hb; subst hb; exact own_ne hown (by omega)))
      refine DL.storeA rfl F.ag26 rfl rfl rfl (by kernel_rfl) hb4 rfl ?_
      intro w12 f13 hs14 hb4'
      replace FR := FR.put f13 (by intro i hi; simp only [List.mem_cons, List.mem_singleton, List.not_mem_nil, or_false] at hi; rcases hi with rfl; all_goals (first | (left; simp; done) | (right; omega)))
      replace hR := hR.fr f13 (by intro x hx; simp <;> omega)
      replace hb3 := f13.blk hb3 (by simp only [List.mem_cons, List.not_mem_nil, or_false, not_or]; omega)
      replace hi3 := Nat.lt_of_lt_of_le hi3 f13.size
      replace hi4 := Nat.lt_of_lt_of_le hi4 f13.size
      replace hown := ownsRow_fr hown f13 (by intro b hb; first | (simp at hb; done) | (simp only [List.mem_singleton] at hb; subst hb; exact own_ne hown (by omega)))
      replace hb4 := hb4'
      refine DL.y rfl rfl (Y.assign) ?_
      refine DL.nil ?_
      show DC _ _ _ _ _ _
      refine DC.ret ?_
      refine FinQ.retCT rfl (cs := arrC (.slice a sn c)) F.ag26 (.ofBlk hb4) rfl (Ret.mk FR ⟨_, 0, rfl, Or.inl ⟨rfl, ?_, _, rfl, own_base hown hszp⟩⟩)
      simp only [V.kind]; omega
  · refine DL.y rfl rfl (Y.move) ?_
    refine DL.skip rfl rfl ?_
    refine DL.skip rfl rfl ?_
    refine DL.skip rfl rfl ?_
    refine DL.y rfl rfl (Y.pickF rfl) ?_
    refine DL.nil ?_
    show DC _ _ _ _ _ _
    refine DC.condF rfl ?_
    refine DC.skip ?_
    show DC _ _ _ _ _ _
    refine DC.seq ?_
    refine DC.region ?_
    refine DL.y rfl rfl (Y.loadW rfl hb3 F.ag26) ?_
    have hszp := FR.size
    have hb4c : b4 < w3.heap.size := hi4
    refine DL.call rfl rfl F.nm48 rfl (specKeys_any _ _ B _ hR (by have := FR.size; omega) hG hn) ?_
    rintro r37 w15 f16 hown
    replace FR := FR.tr0 f16
    replace hR := hR.fr f16 (by intro x hx; simp <;> omega)
    replace hb3 := f16.blk0 hb3
    replace hi3 := Nat.lt_of_lt_of_le hi3 f16.size
    replace hb4 := f16.blk0 hb4
    replace hi4 := Nat.lt_of_lt_of_le hi4 f16.size
    obtain ⟨a, c, hr37, _, _⟩ := own_cells hown
    obtain ⟨sn, hsn⟩ : ∃ sn, sn = (leaves (.mk kind half text list keys vals)).length := ⟨_, rfl⟩
    rw [← hsn] at hr37
    subst hr37
    refine DL.call rfl rfl F.nm30 rfl (Array_any _ _ _ _) ?_
    rintro _ w17 f18 rfl
    replace FR := FR.tr0 f18
    replace hR := hR.fr f18 (by intro x hx; simp <;> omega)
    replace hb3 := f18.blk0 hb3
    replace hi3 := Nat.lt_of_lt_of_le hi3 f18.size
    replace hb4 := f18.blk0 hb4
    replace hi4 := Nat.lt_of_lt_of_le hi4 f18.size
    replace hown := ownsRow_fr hown f18 (by intro b hb; first | (simp at hb; done) | (simp only [List.mem_singleton] at hb; subst hb; exact own_ne hown (by omega)))
    refine DL.storeA rfl F.ag26 rfl rfl rfl (by kernel_rfl) hb4 rfl ?_
    intro w19 f20 hs21 hb4'
    replace FR := FR.put f20 (by intro i hi; simp only [List.mem_cons, List.mem_singleton, List.not_mem_nil, or_false] at hi; rcases hi with rfl; all_goals (first | (left; simp; done) | (right; omega)))
    replace hR := hR.fr f20 (by intro x hx; simp <;> omega)
    replace hb3 := f20.blk hb3 (by simp only [List.mem_cons, List.not_mem_nil, or_false, not_or]; omega)
    replace hi3 := Nat.lt_of_lt_of_le hi3 f20.size
    replace hi4 := Nat.lt_of_lt_of_le hi4 f20.size
    replace hown := ownsRow_fr hown f20 (by intro b hb; first | (simp at hb; done) | (simp only [List.mem_singleton] at hb; subst hb; exact own_ne hown (by omega)))
    replace hb4 := hb4'
    refine DL.y rfl rfl (Y.assign) ?_
    refine DL.nil ?_
    show DC _ _ _ _ _ _
    refine DC.ret ?_
    refine FinQ.retCT rfl (cs := arrC (.slice a sn c)) F.ag26 (.ofBlk hb4) rfl (Ret.mk FR ⟨_, 0, rfl, Or.inl ⟨rfl, ?_, _, rfl, own_base hown hszp⟩⟩)
    simp only [V.kind]; omega

theorem Call_keys (v : V) (cs : Array Value) (B : Nat) (w : World) (hR : RV w B v cs) (hB : B ≤ w.heap.size) (hG : Good v) (hn : v.nodes ≤ 400) : Calls Tryz.prog 9 #[.string ⟨#[107, 101, 121, 115]⟩, .agg cs, .slice none 0 0] w (Ret w [] fun r w' => ∃ cr how, r = .tuple #[.agg cr, .int .i64 how] ∧ ((how = 0 ∧ (v.kind = 5 ∨ v.kind = 6) ∧ ∃ sl, cr = arrC sl ∧ w'.ownsRow w.heap.size 26 6 sl (leaves v).length (cellsL (leaves v))) ∨ (how = 1 ∧ ¬ (v.kind = 5 ∨ v.kind = 6) ∧ cr = #[.int .i64 0, .int .i64 0, .string ⟨#[]⟩, .slice none 0 0, .slice none 0 0, .slice none 0 0]))) := by
  have hGG := hG
  obtain ⟨kind, half, text, list, keys, vals⟩ := v
  obtain ⟨la, lc, ka, kc, va, vc, rfl⟩ := hR.shape
  refine calls_of Tryz.func9 rfl rfl rfl rfl ?_
  have FR := Fr.refl [] w
  refine DC.seq ?_
  refine DC.region ?_
  refine DL.boxA rfl rfl rfl ?_
  intro b4 w1 f2 lo4 hi4 hb4
  replace lo4 := Nat.le_trans FR.size lo4
  replace FR := FR.tr0 f2
  replace hR := hR.fr f2 (by intro x hx; simp <;> omega)
  refine DL.alloc rfl rfl F.z26 rfl ?_
  intro b6 w3 f4 lo6 hi6 hb6
  have lt_b4_b6 : b4 < b6 := Nat.lt_of_lt_of_le hi4 lo6
  replace lo6 := Nat.le_trans FR.size lo6
  replace FR := FR.tr0 f4
  replace hR := hR.fr f4 (by intro x hx; simp <;> omega)
  replace hb4 := f4.blk0 hb4
  replace hi4 := Nat.lt_of_lt_of_le hi4 f4.size
  refine DL.y rfl rfl (Y.assign) ?_
  refine DL.nil ?_
  show DC _ _ _ _ _ _
  refine DC.seq ?_
  refine DC.seq ?_
  refine DC.region ?_
  refine DL.y rfl rfl (Y.move) ?_
  refine DL.y rfl rfl (Y.seqc rfl rfl (c := false) (by decide)) ?_
  refine DL.nil ?_
  show DC _ _ _ _ _ _
  refine DC.condF rfl ?_
  refine DC.skip ?_
  show DC _ _ _ _ _ _
  refine DC.seq ?_
  refine DC.seq ?_
  refine DC.region ?_
  refine DL.y rfl rfl (Y.move) ?_
  refine DL.y rfl rfl (Y.seqc rfl rfl (c := false) (by decide)) ?_
  refine DL.nil ?_
  show DC _ _ _ _ _ _
  refine DC.condF rfl ?_
  refine DC.skip ?_
  show DC _ _ _ _ _ _
  refine DC.seq ?_
  refine DC.seq ?_
  refine DC.region ?_
  refine DL.y rfl rfl (Y.loadW rfl hb4 F.ag26) ?_
  refine DL.call rfl rfl F.nm29 rfl (vague_any _ _ _ B _ (Nat.le_refl _) hR (by have := FR.size; omega) hGG) ?_
  rintro _ w5 f6 rfl
  replace FR := FR.tr0 f6
  replace hR := hR.fr f6 (by intro x hx; simp <;> omega)
  replace hb4 := f6.blk0 hb4
  replace hi4 := Nat.lt_of_lt_of_le hi4 f6.size
  replace hb6 := f6.blk0 hb6
  replace hi6 := Nat.lt_of_lt_of_le hi6 f6.size
  refine DL.y rfl rfl (Y.move) ?_
  refine DL.y rfl rfl (Y.move) ?_
  refine DL.call rfl rfl F.nm30 rfl (Array_any _ _ _ _) ?_
  rintro _ w7 f8 rfl
  replace FR := FR.tr0 f8
  replace hR := hR.fr f8 (by intro x hx; simp <;> omega)
  replace hb4 := f8.blk0 hb4
  replace hi4 := Nat.lt_of_lt_of_le hi4 f8.size
  replace hb6 := f8.blk0 hb6
  replace hi6 := Nat.lt_of_lt_of_le hi6 f8.size
  refine DL.call rfl rfl F.nm29 rfl (vague_any _ (.mk 5 0 ⟨#[]⟩ [] [] []) _ 0 _ (Nat.le_refl _) (arrRV0 _ 0) (Nat.zero_le _) good_arr0) ?_
  rintro _ w9 f10 rfl
  replace FR := FR.tr0 f10
  replace hR := hR.fr f10 (by intro x hx; simp <;> omega)
  replace hb4 := f10.blk0 hb4
  replace hi4 := Nat.lt_of_lt_of_le hi4 f10.size
  replace hb6 := f10.blk0 hb6
  replace hi6 := Nat.lt_of_lt_of_le hi6 f10.size
  refine DL.y rfl rfl (Y.pickF rfl) ?_
  refine DL.nil ?_
  show DC _ _ _ _ _ _
  refine DC.condF rfl ?_
  refine DC.skip ?_
  show DC _ _ _ _ _ _
  refine DC.seq ?_
  refine DC.seq ?_
  refine DC.region ?_
  refine DL.y rfl rfl (Y.move) ?_
  refine DL.y rfl rfl (Y.lenS Tryz.underlying23 rfl) ?_
  refine DL.nil ?_
  show DC _ _ _ _ _ _
  refine DC.block ?_
  refine DC.seq ?_
  refine DC.region ?_
  refine DL.if rfl rfl (Y.eq rfl rfl) (fun c30 => ?_) (fun c30 => ?_)
  · refine DL.y rfl rfl (Y.assign) ?_
    refine DL.nil ?_
    show DC _ _ _ _ _ _
    refine DC.condT rfl ?_
    refine DC.seq ?_
    refine DC.region ?_
    refine DL.y rfl rfl (Y.move) ?_
    refine DL.y rfl rfl (Y.loadW rfl hb4 F.ag26) ?_
    have hszp := FR.size
    have hb6c : b6 < w9.heap.size := hi6
    refine DL.call rfl rfl F.nm31 rfl (alone_keys _ _ B _ hR (by have := FR.size; omega) hGG hn) ?_
    rintro r33 w11 f12 ⟨cr, how, rfl, hor⟩
    replace FR := FR.tr0 f12
    replace hR := hR.fr f12 (by intro x hx; simp <;> omega)
    replace hb4 := f12.blk0 hb4
    replace hi4 := Nat.lt_of_lt_of_le hi4 f12.size
    replace hb6 := f12.blk0 hb6
    replace hi6 := Nat.lt_of_lt_of_le hi6 f12.size
    obtain ⟨hcrs, hcr1⟩ : cr.size = 6 ∧ cr.all (·.oneCell') = true := by
      rcases hor with ⟨_, _, sl, rfl, ho⟩ | ⟨_, _, rfl⟩
      · obtain ⟨a, c, rfl, _, _⟩ := own_cells ho; exact ⟨rfl, by kernel_rfl⟩
      · exact ⟨rfl, by kernel_rfl⟩
    refine DL.y rfl rfl (Y.extract rfl rfl) ?_
    refine DL.y rfl rfl (Y.extract rfl rfl) ?_
    refine DL.storeA rfl F.ag26 rfl rfl hcrs hcr1 hb6 rfl ?_
    intro w13 f14 hs15 hb6'
    replace FR := FR.put f14 (by intro i hi; simp only [List.mem_cons, List.mem_singleton, List.not_mem_nil, or_false] at hi; rcases hi with rfl; all_goals (first | (left; simp; done) | (right; omega)))
    replace hR := hR.fr f14 (by intro x hx; simp <;> omega)
    replace hb4 := f14.blk hb4 (by simp only [List.mem_cons, List.not_mem_nil, or_false, not_or]; omega)
    replace hi4 := Nat.lt_of_lt_of_le hi4 f14.size
    replace hi6 := Nat.lt_of_lt_of_le hi6 f14.size
    replace hor := or_fr hor f14 (by intro b hb; first | (simp at hb; done) | (simp only [List.mem_singleton] at hb; omega))
    replace hb6 := hb6'
    refine DL.y rfl rfl (Y.assign) ?_
    refine DL.nil ?_
    show DC _ _ _ _ _ _
    refine DC.ret ?_
    refine FinQ.retCT rfl (cs := cr) (by rw [hcrs]; exact F.ag26) (.ofBlk hb6) rfl (Ret.mk FR ⟨_, how, rfl, ?_⟩)
    rcases hor with ⟨h1, h2, sl, h3, ho⟩ | h
    · exact Or.inl ⟨h1, h2, sl, h3, own_base ho hszp⟩
    · exact Or.inr h
  · exfalso; omega

end Go.Proofs.YtmbleojlnaofjaaGreatDoor
