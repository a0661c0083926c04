/- The walk of laws.FnHTMLBack. -/
import Derived.Test.YtmbleojlnaofjaaGreatDoorHtml5
import Derived.Test.YtmbleojlnaofjaaGreatDoorFit
namespace Go.Proofs.YtmbleojlnaofjaaGreatDoor
open Go Go.RowKit D
set_option linter.unusedVariables false
set_option linter.unusedSimpArgs false


theorem FormatHTML_te (s : ByteArray) (hs : s.size ≤ 4096) (w : World) : Calls Tryz.prog 20 #[.agg (strC s)] w (Ret w [] fun v _ => ∃ te : ByteArray, te.data.toList = escL s.data.toList ∧ v = .agg (strR te)) :=
  (FormatHTML_any s hs w).mono fun e w' h => Ret.imp (fun r w1 hf hp => ⟨_, rfl, hp⟩) h
theorem not_sign {sg : ByteArray} {z : Int} {tb : UInt8} (hsg : sg = (⟨#[60, 62, 39, 34]⟩ : ByteArray)) (hz : z = (tb.toNat : Int)) (h60 : ¬ tb = 60) (h62 : ¬ tb = 62) (h39 : ¬ tb = 39) (h34 : ¬ tb = 34) (hx : ∃ (j : Nat) (h : j < sg.size), (sg[j].toNat : Int) = z) : False := by
  obtain ⟨j, h, he⟩ := hx
  subst hsg hz
  have h4 : j < 4 := h
  have key : ∀ c : UInt8, ((c.toNat : Nat) : Int) = (tb.toNat : Int) → tb = c := fun c hc => UInt8.toNat_inj.1 (by omega)
  rcases (show j = 0 ∨ j = 1 ∨ j = 2 ∨ j = 3 by omega) with rfl | rfl | rfl | rfl
  · exact h60 (key 60 he)
  · exact h62 (key 62 he)
  · exact h39 (key 39 he)
  · exact h34 (key 34 he)
theorem sign_ext : ∀ q : Nat, q < 5 → signs.extract ((q : Int).toNat) (((q : Int) + 1).toNat) = ⟨#[sgT q]⟩
  | 0, _ => by decide +kernel
  | 1, _ => by decide +kernel
  | 2, _ => by decide +kernel
  | 3, _ => by decide +kernel
  | 4, _ => by decide +kernel
  | q + 5, h => by omega
theorem sel_yes {κ : Option Nat} {q n : Nat} {c : UInt8} {t1 : ByteArray} (hq : q < 5) (hκ : decide (κ = some q) = true) (hsome : ∀ j, κ = some j → j < 5 ∧ j ≠ 3 ∧ c = sgT j ∧ (nmT j).size = n ∧ 4 ≤ n) :
    (nmT q).size = selN κ (q + 1) ∧ signs.extract ((q : Int).toNat) (((q : Int) + 1).toNat) = selC κ c t1 (q + 1) := by
  have hk : κ = some q := of_decide_eq_true hκ
  obtain ⟨_, _, hc, _, _⟩ := hsome q hk
  subst hk
  rw [sign_ext q hq, ← hc]
  simp [selN, selC]
theorem sel_no {κ : Option Nat} {q : Nat} {c : UInt8} {t1 : ByteArray} (hκ : decide (κ = some q) = false) : selN κ q = selN κ (q + 1) ∧ selC κ c t1 q = selC κ c t1 (q + 1) := by
  have hk : ¬ κ = some q := of_decide_eq_false hκ
  cases κ with
  | none => exact ⟨rfl, rfl⟩
  | some j =>
    have hj : ¬ j = q := fun h => hk (by rw [h])
    have e : (j < q) = (j < q + 1) := propext ⟨fun h => by omega, fun h => by omega⟩
    simp only [selN, selC, e, and_self]
theorem sel_end {κ : Option Nat} {n i : Nat} {c tb : UInt8} {te : ByteArray} (htb : te.data.toList[i]? = some tb) (hsome : ∀ j, κ = some j → j < 5 ∧ j ≠ 3 ∧ c = sgT j ∧ (nmT j).size = n ∧ 4 ≤ n) (hnone : κ = none → tb = c ∧ ¬ tb = 38 ∧ n = 1) :
    selN κ 5 = n ∧ selC κ c (te.extract ((i : Int).toNat) (((i : Int) + 1).toNat)) 5 = ⟨#[c]⟩ ∧ (n = 1 → ¬ (⟨#[c]⟩ : ByteArray) = ⟨#[38]⟩) := by
  cases κ with
  | none =>
    obtain ⟨h1, h2, h3⟩ := hnone rfl
    subst h1
    refine ⟨h3.symm, ?_, fun _ h => h2 (by have := congrArg (fun b : ByteArray => b.data.toList) h; simpa using this)⟩
    show (te.extract ((i : Int).toNat) (((i : Int) + 1).toNat)) = _
    obtain ⟨hl, he⟩ := List.getElem?_eq_some_iff.1 htb
    refine ba_ext ?_
    have e1 : ((i : Int) + 1).toNat = i + 1 := by omega
    rw [Int.toNat_natCast, e1, ext_list _ _ _ (by rw [Lib.size_eq]; omega), List.take_succ_eq_append_getElem hl, List.drop_append_of_le_length (by rw [List.length_take]; omega), List.drop_of_length_le (by rw [List.length_take]; omega), he]
    rfl
  | some j =>
    obtain ⟨h1, h2, h3, h4, h5⟩ := hsome j rfl
    refine ⟨by simp [selN, h1, h4], by simp [selC, h1], fun h => by omega⟩
theorem back_step {s back cc : ByteArray} {m : Nat} (hm : m < s.size) (hb : back.data.toList = s.data.toList.take m) (hc : cc = ⟨#[s[m]]⟩) : (back ++ cc).data.toList = s.data.toList.take (m + 1) := by
  have hl : m < s.data.toList.length := by simpa using hm
  rw [List.take_succ_eq_append_getElem hl, ← hb, hc, ByteArray.data_append, Array.toList_append]
  rfl
theorem esc_step {s : ByteArray} {m i n : Nat} (hm : m < s.size) (hi : i = (escL (s.data.toList.take m)).length) (hn : n = (escB s[m]).length) : i + n = (escL (s.data.toList.take (m + 1))).length := by
  rw [escL_succ hm, List.length_append, ← hi, ← hn]

set_option maxHeartbeats 1000000 in
theorem law_any (s : ByteArray) (hs : s.size ≤ 140737488351232) (w : World) (hT : Tabs w) : Calls Tryz.prog 5 #[.string s] w (Ret w [] fun v _ => v = .bool true) := by
  have hsl := Lib.size_eq s
  refine calls_of Tryz.func5 rfl rfl rfl rfl ?_
  have FR := Fr.refl [] w
  refine DC.seq ?_
  refine DC.region ?_
  refine DL.y rfl rfl (Y.assign) ?_
  refine DL.nil ?_
  show DC _ _ _ _ _ _
  refine DC.seq ?_
  refine DC.seq ?_
  refine DC.region ?_
  refine DL.y rfl rfl (Y.move) ?_
  refine DL.y rfl rfl (Y.lenStr Tryz.underlying9 rfl) ?_
  refine DL.if rfl rfl (Y.gt rfl rfl) (fun c13 => ?_) (fun c13 => ?_)
  · refine DL.nil ?_
    show DC _ _ _ _ _ _
    refine DC.condT rfl ?_
    refine DC.seq ?_
    refine DC.region ?_
    refine DL.y rfl rfl (Y.assign) ?_
    refine DL.nil ?_
    show DC _ _ _ _ _ _
    refine DC.ret ?_
    exact FinQ.ret1 rfl (Ret.mk FR rfl)
  · refine DL.nil ?_
    show DC _ _ _ _ _ _
    refine DC.condF rfl ?_
    refine DC.skip ?_
    show DC _ _ _ _ _ _
    refine DC.seq ?_
    refine DC.seq ?_
    refine DC.region ?_
    refine DL.y rfl rfl (Y.move) ?_
    refine DL.y rfl rfl (Y.lenStr Tryz.underlying9 rfl) ?_
    refine DL.if rfl rfl (Y.gt rfl rfl) (fun c16 => ?_) (fun c16 => ?_)
    · refine DL.y rfl rfl (Y.move) ?_
      refine DL.skip rfl rfl ?_
      refine DL.skip rfl rfl ?_
      refine DL.skip rfl rfl ?_
      refine DL.y rfl rfl (Y.pickT rfl) ?_
      refine DL.y rfl rfl (Y.move) ?_
      refine DL.skip rfl rfl ?_
      refine DL.skip rfl rfl ?_
      refine DL.y rfl rfl (Y.pickT rfl) ?_
      refine DL.nil ?_
      show DC _ _ _ _ _ _
      refine DC.condT rfl ?_
      refine DC.seq ?_
      refine DC.region ?_
      refine DL.y rfl rfl (Y.assign) ?_
      refine DL.nil ?_
      show DC _ _ _ _ _ _
      refine DC.ret ?_
      exact FinQ.ret1 rfl (Ret.mk FR rfl)
    · have hs4 : s.size ≤ 4096 := by omega
      refine DL.y rfl rfl (Y.move) ?_
      refine DL.y rfl rfl (Y.move) ?_
      obtain ⟨r1, h1⟩ : ∃ r, Lib.validD s.data.toList = r := ⟨_, rfl⟩
      refine DL.call rfl rfl F.nm17 rfl (h1 ▸ valid_any s _ (by omega) hT) ?_
      rintro _ w1 f2 rfl
      replace FR := FR.tr0 f2
      replace hT := hT.fr f2 (by intro x hx; simp <;> omega)
      refine (Bool.eq_false_or_eq_true r1).elim (fun hr1 => ?_) (fun hr1 => ?_)
      · subst hr1
        refine DL.y rfl rfl (Y.not rfl) ?_
        refine DL.y rfl rfl (Y.pickF rfl) ?_
        refine DL.y rfl rfl (Y.move) ?_
        refine DL.y rfl rfl (Y.move) ?_
        refine DL.call rfl rfl F.nm18 rfl (among_any s 39 hs _) ?_
        rintro _ w3 f4 ⟨r2, rfl, h39⟩
        replace FR := FR.tr0 f4
        replace hT := hT.fr f4 (by intro x hx; simp <;> omega)
        refine (Bool.eq_false_or_eq_true r2).elim (fun hr2 => ?_) (fun hr2 => ?_)
        · subst hr2
          refine DL.y rfl rfl (Y.pickF rfl) ?_
          refine DL.nil ?_
          show DC _ _ _ _ _ _
          refine DC.condT rfl ?_
          refine DC.seq ?_
          refine DC.region ?_
          refine DL.y rfl rfl (Y.assign) ?_
          refine DL.nil ?_
          show DC _ _ _ _ _ _
          refine DC.ret ?_
          exact FinQ.ret1 rfl (Ret.mk FR rfl)
        · have no39 : ∀ (m : Nat) (hm : m < s.size), ¬ s[m] = 39 := fun m hm h => by
            have := h39.2 ⟨m, hm, by rw [h]; rfl⟩
            rw [hr2] at this; cases this
          subst hr2
          refine DL.y rfl rfl (Y.pickF rfl) ?_
          refine DL.nil ?_
          show DC _ _ _ _ _ _
          refine DC.condF rfl ?_
          refine DC.skip ?_
          show DC _ _ _ _ _ _
          refine DC.seq ?_
          refine DC.region ?_
          refine DL.y rfl rfl (Y.move) ?_
          refine DL.call rfl rfl F.nm16 rfl (Str_any _ _) ?_
          rintro _ w5 f6 rfl
          replace FR := FR.tr0 f6
          replace hT := hT.fr f6 (by intro x hx; simp <;> omega)
          refine DL.call rfl rfl F.nm20 rfl (FormatHTML_te s hs4 _) ?_
          rintro _ w7 f8 ⟨te, hte, rfl⟩
          replace FR := FR.tr0 f8
          replace hT := hT.fr f8 (by intro x hx; simp <;> omega)
          have htl := Lib.size_eq te
          refine DL.call rfl rfl F.nm19 rfl (text_any _ _) ?_
          rintro _ w9 f10 rfl
          replace FR := FR.tr0 f10
          replace hT := hT.fr f10 (by intro x hx; simp <;> omega)
          refine DL.y rfl rfl (Y.move) ?_
          refine DL.y rfl rfl (Y.extract rfl rfl) ?_
          refine DL.y rfl rfl (Y.extract rfl rfl) ?_
          refine DL.y rfl rfl (Y.assign) ?_
          refine DL.y rfl rfl (Y.assign) ?_
          refine DL.nil ?_
          show DC _ _ _ _ _ _
          refine DC.seq ?_
          refine DC.seq ?_
          refine DC.region ?_
          refine DL.y rfl rfl (Y.move) ?_
          refine DL.y rfl rfl (Y.not rfl) ?_
          refine DL.nil ?_
          show DC _ _ _ _ _ _
          refine DC.condF rfl ?_
          refine DC.skip ?_
          show DC _ _ _ _ _ _
          refine DC.seq ?_
          refine DC.region ?_
          refine DL.y rfl rfl (Y.assign) ?_
          refine DL.nil ?_
          show DC _ _ _ _ _ _
          refine DC.seq ?_
          refine DC.region ?_
          refine DL.buildSlC (cs := nmC) rfl rfl Tryz.underlying24 (by kernel_rfl) ?_
          intro b35 w11 f12 lo35 hi35 hb35
          replace lo35 := Nat.le_trans FR.size lo35
          replace FR := FR.tr0 f12
          replace hT := hT.fr f12 (by intro x hx; simp <;> omega)
          refine DL.y rfl rfl (Y.assign) ?_
          refine DL.nil ?_
          show DC _ _ _ _ _ _
          refine DC.seq ?_
          refine DC.seq ?_
          refine DC.region ?_
          refine DL.y rfl rfl (Y.assign) ?_
          refine DL.nil ?_
          show DC _ _ _ _ _ _
          refine DC.block ?_
          refine DC.loopE (σ := Nat × Nat × ByteArray) [(2, 2), (5, 5), (7, 10), (36, 83)] [(0, .string s), (3, .string te), (6, .slice (some ⟨b35, 0, none⟩) 5 5)] (fun (_, i, back) => [(5, .string back), (7, .int .i64 (i : Int))]) (fun sg wl => Fr [] w11 wl ∧ (fun (m, i, back) wl => m ≤ s.size ∧ i = (escL (s.data.toList.take m)).length ∧ back.data.toList = s.data.toList.take m) sg wl) (fun (m, _, _) => s.size - m) ((0, 0, ⟨#[]⟩)) rfl ?_ ?_ ?_ ?_
          · exact ⟨rfl, rfl, rfl⟩
          · exact ⟨rfl, rfl⟩
          · exact ⟨Fr.refl _ _, Nat.zero_le _, by simp [escL], by simp⟩
          · rintro e0 ⟨m, i, back⟩ j w13 ⟨f14, hm0, hi0, hback⟩
            replace FR := FR.tr0 f14
            replace hT := hT.fr f14 (by intro x hx; simp <;> omega)
            replace hb35 := f14.blk0 hb35
            replace hi35 := Nat.lt_of_lt_of_le hi35 f14.size
            have G15 := f14
            have HG15 := Fr.refl [] w13
            refine DC.seq ?_
            refine DC.seq ?_
            refine DC.region ?_
            refine DL.y rfl rfl (Y.move) ?_
            refine DL.y rfl rfl (Y.move) ?_
            refine DL.y rfl rfl (Y.lenStr Tryz.underlying9 rfl) ?_
            refine DL.if rfl rfl (Y.lt rfl rfl) (fun c39 => ?_) (fun c39 => ?_)
            · have hm : m < s.size := by
                rcases Nat.lt_or_ge m s.size with h | h
                · exact h
                · exfalso
                  have e : s.data.toList.take m = s.data.toList := List.take_of_length_le (by omega)
                  rw [e, ← hte] at hi0; omega
              obtain ⟨c, hc⟩ : ∃ c, c = s[m] := ⟨_, rfl⟩
              obtain ⟨κ, tb, n, R⟩ := round_all hte hi0 hm (no39 m hm) hs4
              rw [← hc] at R
              have hin := R.hle
              have hn1 := R.hpos
              have hte3 := R.hte
              refine DL.nil ?_
              show DC _ _ _ _ _ _
              refine DC.condT rfl ?_
              refine DC.skip ?_
              show DC _ _ _ _ _ _
              refine DC.block ?_
              refine DC.seq ?_
              refine DC.seq ?_
              refine DC.region ?_
              refine DL.y rfl rfl (Y.move) ?_
              refine DL.y rfl rfl (Y.move) ?_
              refine DL.y rfl rfl (Y.strIxV (i := i) Tryz.underlying9 rfl rfl rfl R.htb) ?_
              refine DL.call rfl rfl F.nm18 rfl (among_any _ _ (by decide) _) ?_
              rintro _ w16 f17 ⟨r3, rfl, h3⟩
              replace FR := FR.tr0 f17
              replace G15 := G15.tr0 f17
              replace HG15 := HG15.tr0 f17
              replace hT := hT.fr f17 (by intro x hx; simp <;> omega)
              replace hb35 := f17.blk0 hb35
              replace hi35 := Nat.lt_of_lt_of_le hi35 f17.size
              refine (Bool.eq_false_or_eq_true r3).elim (fun hr3 => ?_) (fun hr3 => ?_)
              · exact (not_sign rfl rfl R.hn60 R.hn62 R.hn39 R.hn34 (h3.1 hr3)).elim
              · subst hr3
                refine DL.nil ?_
                show DC _ _ _ _ _ _
                refine DC.condF rfl ?_
                refine DC.skip ?_
                show DC _ _ _ _ _ _
                refine DC.seq ?_
                refine DC.region ?_
                refine DL.y rfl rfl (Y.assign) ?_
                refine DL.nil ?_
                show DC _ _ _ _ _ _
                refine DC.seq ?_
                refine DC.region ?_
                refine DL.y rfl rfl (Y.move) ?_
                refine DL.y rfl rfl (Y.move) ?_
                refine DL.y rfl rfl (Y.move) ?_
                refine DL.y rfl rfl (Y.addI rfl rfl (rfl) (by omega) (by omega)) ?_
                refine DL.y rfl rfl (Y.strLH Tryz.underlying9 rfl rfl rfl (by omega) (by omega) (by omega)) ?_
                refine DL.y rfl rfl (Y.assign) ?_
                refine DL.nil ?_
                show DC _ _ _ _ _ _
                refine DC.seq ?_
                refine DC.seq ?_
                refine DC.region ?_
                refine DL.y rfl rfl (Y.assign) ?_
                refine DL.nil ?_
                show DC _ _ _ _ _ _
                refine DC.block ?_
                refine DC.loopE (σ := Nat × Nat × ByteArray) [(8, 10), (49, 71)] [(0, .string s), (3, .string te), (6, .slice (some ⟨b35, 0, none⟩) 5 5), (5, .string back), (7, .int .i64 (i : Int))] (fun (q, nn, cc) => [(8, .int .i64 (nn : Int)), (9, .string cc), (10, .int .i64 (q : Int))]) (fun sg wl => Fr [] w16 wl ∧ (fun (q, nn, cc) wl => q ≤ 5 ∧ nn = selN κ q ∧ cc = selC κ c (te.extract ((i : Int).toNat) (((i : Int) + 1).toNat)) q) sg wl) (fun (q, _, _) => 5 - q) ((0, 1, (te.extract ((i : Int).toNat) (((i : Int) + 1).toNat)))) rfl ?_ ?_ ?_ ?_
                · exact ⟨rfl, rfl, rfl, rfl, rfl⟩
                · exact ⟨rfl, rfl, rfl⟩
                · exact ⟨Fr.refl _ _, Nat.zero_le _, (by cases κ <;> rfl), (by cases κ <;> rfl)⟩
                · rintro e0 ⟨q, nn, cc⟩ j w18 ⟨f19, hq0, hnn, hcc⟩
                  replace FR := FR.tr0 f19
                  replace G15 := G15.tr0 f19
                  replace HG15 := HG15.tr0 f19
                  replace hT := hT.fr f19 (by intro x hx; simp <;> omega)
                  replace hb35 := f19.blk0 hb35
                  replace hi35 := Nat.lt_of_lt_of_le hi35 f19.size
                  have G20 := f19
                  have HG20 := Fr.refl [] w18
                  refine DC.seq ?_
                  refine DC.seq ?_
                  refine DC.region ?_
                  refine DL.y rfl rfl (Y.move) ?_
                  refine DL.y rfl rfl (Y.move) ?_
                  refine DL.y rfl rfl (Y.lenS Tryz.underlying24 rfl) ?_
                  refine DL.if rfl rfl (Y.lt rfl rfl) (fun c52 => ?_) (fun c52 => ?_)
                  · have hq5 : q < 5 := by omega
                    refine DL.nil ?_
                    show DC _ _ _ _ _ _
                    refine DC.condT rfl ?_
                    refine DC.skip ?_
                    show DC _ _ _ _ _ _
                    refine DC.seq ?_
                    refine DC.block ?_
                    refine DC.seq ?_
                    refine DC.quiet F.mixed (by kernel_rfl) ?_
                    refine DQ.y rfl rfl (fun wq fq => Y.move) ?_
                    refine DQ.y rfl rfl (fun wq fq => Y.move) ?_
                    refine DQ.y rfl rfl (fun wq fq => Y.strL Tryz.underlying9 rfl rfl (by omega) (by omega)) ?_
                    refine DQ.y rfl rfl (fun wq fq => Y.move) ?_
                    refine DQ.y rfl rfl (fun wq fq => Y.move) ?_
                    refine DQ.y rfl rfl (fun wq fq => Y.index F.sl24 rfl rfl (rfl) (hq5)) ?_
                    refine DQ.y rfl rfl (fun wq fq => Y.loadB F.sc9 rfl (fq.blk0 hb35) (nm_at q hq5)) ?_
                    refine DQ.call rfl rfl F.nm21 rfl (fun wq fq => R.hbeg q hq5 wq) ?_
                    refine DQ.nil ?_
                    intro w21 f22
                    replace FR := FR.tr0 f22
                    replace G15 := G15.tr0 f22
                    replace HG15 := HG15.tr0 f22
                    replace G20 := G20.tr0 f22
                    replace HG20 := HG20.tr0 f22
                    replace hT := hT.fr f22 (by intro x hx; simp <;> omega)
                    replace hb35 := f22.blk0 hb35
                    replace hi35 := Nat.lt_of_lt_of_le hi35 f22.size
                    show DC _ _ _ _ _ _
                    refine DC.cond rfl (fun c62 => ?_) (fun c62 => ?_)
                    · have hsel := sel_yes (t1 := (te.extract ((i : Int).toNat) (((i : Int) + 1).toNat))) hq5 c62 R.hsome
                      refine DC.still F.mixed (by kernel_rfl) ?_
                      intro w23 f24 hsw23
                      replace FR := FR.tr0 f24
                      replace G15 := G15.tr0 f24
                      replace HG15 := HG15.tr0 f24
                      replace G20 := G20.tr0 f24
                      replace HG20 := HG20.tr0 f24
                      replace hT := hT.fr f24 (by intro x hx; simp <;> omega)
                      replace hb35 := f24.blk0 hb35
                      replace hi35 := Nat.lt_of_lt_of_le hi35 f24.size
                      refine DS.y rfl rfl (Y.move) ?_
                      refine DS.y rfl rfl (Y.move) ?_
                      refine DS.y rfl rfl (Y.index F.sl24 rfl rfl (rfl) (hq5)) ?_
                      refine DS.y rfl rfl (Y.loadB F.sc9 rfl hb35 (nm_at q hq5)) ?_
                      refine DS.y rfl rfl (Y.lenStr Tryz.underlying9 rfl) ?_
                      refine DS.y rfl rfl (Y.move) ?_
                      refine DS.y rfl rfl (Y.move) ?_
                      refine DS.y rfl rfl (Y.addI rfl rfl (rfl) (by omega) (by omega)) ?_
                      refine DS.y rfl rfl (Y.strLH Tryz.underlying9 rfl rfl rfl (by omega) (by omega) (by show (q : Int) + 1 ≤ 5; omega)) ?_
                      refine DS.y rfl rfl (Y.assign) ?_
                      refine DS.y rfl rfl (Y.assign) ?_
                      refine DS.nil ?_
                      show DC _ _ _ _ _ _
                      refine DC.region ?_
                      refine DL.y rfl rfl (Y.move) ?_
                      refine DL.y rfl rfl (Y.addI (c := ((q + 1 : Nat) : Int)) rfl rfl (by omega) (by omega) (by omega)) ?_
                      refine DL.y rfl rfl (Y.assign) ?_
                      refine DL.nil ?_
                      exact ⟨(q + 1, (nmT q).size, signs.extract ((q : Int).toNat) (((q : Int) + 1).toNat)), ⟨G20, by omega, hsel.1, hsel.2⟩, by show 5 - (q + 1) < 5 - q; omega, rfl, rfl, rfl⟩
                    · have hsel := sel_no (c := c) (t1 := (te.extract ((i : Int).toNat) (((i : Int) + 1).toNat))) c62
                      refine DC.skip ?_
                      show DC _ _ _ _ _ _
                      refine DC.region ?_
                      refine DL.y rfl rfl (Y.move) ?_
                      refine DL.y rfl rfl (Y.addI (c := ((q + 1 : Nat) : Int)) rfl rfl (by omega) (by omega) (by omega)) ?_
                      refine DL.y rfl rfl (Y.assign) ?_
                      refine DL.nil ?_
                      exact ⟨(q + 1, nn, cc), ⟨G20, by omega, hnn.trans hsel.1, hcc.trans hsel.2⟩, by show 5 - (q + 1) < 5 - q; omega, rfl, rfl, rfl⟩
                  · have hq5 : q = 5 := by omega
                    rw [hq5] at hnn hcc
                    obtain ⟨hf1, hf2, h38⟩ := sel_end R.htb R.hsome R.hnone
                    rw [hf1] at hnn
                    rw [hf2] at hcc
                    have hbsz : back.size = m := by rw [Lib.size_eq, hback, List.length_take]; omega
                    have hcsz : cc.size = 1 := by rw [hcc]; rfl
                    refine DL.nil ?_
                    show DC _ _ _ _ _ _
                    refine DC.condF rfl ?_
                    refine DC.exit ?_
                    show DC _ _ _ _ _ _
                    refine DC.seq ?_
                    refine DC.seq ?_
                    refine DC.region ?_
                    refine DL.y rfl rfl (Y.move) ?_
                    refine DL.if rfl rfl (Y.eq rfl rfl) (fun c73 => ?_) (fun c73 => ?_)
                    · refine DL.y rfl rfl (Y.move) ?_
                      refine DL.y rfl rfl (Y.move) ?_
                      refine DL.if rfl rfl (Y.seq rfl rfl) (fun c76 => ?_) (fun c76 => ?_)
                      · exact absurd (hcc ▸ c76) (h38 (by omega))
                      · refine DL.y rfl rfl (Y.pickT rfl) ?_
                        refine DL.nil ?_
                        show DC _ _ _ _ _ _
                        refine DC.condF rfl ?_
                        refine DC.skip ?_
                        show DC _ _ _ _ _ _
                        refine DC.seq ?_
                        refine DC.region ?_
                        refine DL.y rfl rfl (Y.move) ?_
                        refine DL.y rfl rfl (Y.move) ?_
                        refine DL.y rfl rfl (Y.cat rfl rfl (by omega)) ?_
                        refine DL.y rfl rfl (Y.assign) ?_
                        refine DL.nil ?_
                        show DC _ _ _ _ _ _
                        refine DC.region ?_
                        refine DL.y rfl rfl (Y.move) ?_
                        refine DL.y rfl rfl (Y.move) ?_
                        refine DL.y rfl rfl (Y.addI (c := ((i + n : Nat) : Int)) rfl rfl (by omega) (by omega) (by omega)) ?_
                        refine DL.y rfl rfl (Y.assign) ?_
                        refine DL.nil ?_
                        exact ⟨(m + 1, i + n, back ++ cc), ⟨G15, hm, esc_step hm hi0 (hc ▸ R.hn), back_step hm hback (hc ▸ hcc)⟩, by show s.size - (m + 1) < s.size - m; omega, rfl, rfl⟩
                    · refine DL.y rfl rfl (Y.move) ?_
                      refine DL.skip rfl rfl ?_
                      refine DL.skip rfl rfl ?_
                      refine DL.y rfl rfl (Y.pickF rfl) ?_
                      refine DL.nil ?_
                      show DC _ _ _ _ _ _
                      refine DC.condF rfl ?_
                      refine DC.skip ?_
                      show DC _ _ _ _ _ _
                      refine DC.seq ?_
                      refine DC.region ?_
                      refine DL.y rfl rfl (Y.move) ?_
                      refine DL.y rfl rfl (Y.move) ?_
                      refine DL.y rfl rfl (Y.cat rfl rfl (by omega)) ?_
                      refine DL.y rfl rfl (Y.assign) ?_
                      refine DL.nil ?_
                      show DC _ _ _ _ _ _
                      refine DC.region ?_
                      refine DL.y rfl rfl (Y.move) ?_
                      refine DL.y rfl rfl (Y.move) ?_
                      refine DL.y rfl rfl (Y.addI (c := ((i + n : Nat) : Int)) rfl rfl (by omega) (by omega) (by omega)) ?_
                      refine DL.y rfl rfl (Y.assign) ?_
                      refine DL.nil ?_
                      exact ⟨(m + 1, i + n, back ++ cc), ⟨G15, hm, esc_step hm hi0 (hc ▸ R.hn), back_step hm hback (hc ▸ hcc)⟩, by show s.size - (m + 1) < s.size - m; omega, rfl, rfl⟩
            · have hbk : back = s := by
                rcases Nat.lt_or_ge m s.size with h | h
                · exfalso
                  obtain ⟨κ, tb, n, R⟩ := round_all hte hi0 h (no39 m h) hs4
                  have := (List.getElem?_eq_some_iff.1 R.htb).1
                  omega
                · exact ba_ext (by rw [hback, List.take_of_length_le (by omega)])
              refine DL.nil ?_
              show DC _ _ _ _ _ _
              refine DC.condF rfl ?_
              refine DC.exit ?_
              show DC _ _ _ _ _ _
              refine DC.seq ?_
              refine DC.region ?_
              refine DL.y rfl rfl (Y.move) ?_
              refine DL.y rfl rfl (Y.move) ?_
              refine DL.if rfl rfl (Y.seq rfl rfl) (fun c86 => ?_) (fun c86 => ?_)
              · refine DL.y rfl rfl (Y.assign) ?_
                refine DL.nil ?_
                show DC _ _ _ _ _ _
                refine DC.ret ?_
                exact FinQ.ret1 rfl (Ret.mk FR rfl)
              · exact absurd hbk c86
      · subst hr1
        refine DL.y rfl rfl (Y.not rfl) ?_
        refine DL.y rfl rfl (Y.pickF rfl) ?_
        refine DL.y rfl rfl (Y.move) ?_
        refine DL.skip rfl rfl ?_
        refine DL.skip rfl rfl ?_
        refine DL.y rfl rfl (Y.pickT rfl) ?_
        refine DL.nil ?_
        show DC _ _ _ _ _ _
        refine DC.condT rfl ?_
        refine DC.seq ?_
        refine DC.region ?_
        refine DL.y rfl rfl (Y.assign) ?_
        refine DL.nil ?_
        show DC _ _ _ _ _ _
        refine DC.ret ?_
        exact FinQ.ret1 rfl (Ret.mk FR rfl)

end Go.Proofs.YtmbleojlnaofjaaGreatDoor
