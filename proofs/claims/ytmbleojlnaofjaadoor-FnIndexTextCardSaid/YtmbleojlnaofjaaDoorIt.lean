/- The walks of laws.FnIndexText and of what it calls. -/
import Derived.Test.YtmbleojlnaofjaaDoorTxt
import Derived.Test.YtmbleojlnaofjaaDoorO4
import Derived.Test.YtmbleojlnaofjaaDoorFits
namespace Go.Proofs.YtmbleojlnaofjaaDoor
open Go Go.RowKit D
set_option linter.unusedVariables false
set_option linter.unusedSimpArgs false


/-- The index that clampIndex gives for -1 and n. -/
def clampI (i : Int) (n : Nat) : Int := if i < 0 then (if i + n < -1 then -1 else if i + n < n then i + n else n) else (if i < n then i else n)
/-- The rune at a place, counted from the end below nought. -/
def idxR (s : ByteArray) (i : Int) : Option Nat := if i < 0 then (if i + (runesOf s).length < 0 then none else (runesOf s)[(i + (runesOf s).length).toNat]?) else (runesOf s)[i.toNat]?
def idxV : Option Nat → Value
  | none => .nilIface
  | some r => .iface 9 (.string (Utf8.encode (r : Int)))
def idxC : Option Nat → Value
  | none => .agg nulR
  | some r => .agg (strR (Utf8.encode (r : Int)))
theorem idx_none {s : ByteArray} {i : Int} (h : ¬ (0 ≤ clampI i (runesOf s).length ∧ clampI i (runesOf s).length < (runesOf s).length)) : idxR s i = none := by
  unfold clampI at h
  unfold idxR
  split
  · rename_i hi
    rw [if_pos hi] at h
    split
    · rfl
    · rename_i hj
      rw [if_neg (by omega), if_pos (by omega)] at h
      omega
  · rename_i hi
    rw [if_neg hi] at h
    by_cases hl : i < (runesOf s).length
    · rw [if_pos hl] at h; omega
    · exact List.getElem?_eq_none (by omega)
theorem idx_some {s : ByteArray} {i : Int} (h0 : 0 ≤ clampI i (runesOf s).length) (h1 : clampI i (runesOf s).length < (runesOf s).length) (k : Nat) (hk : (k : Int) = clampI i (runesOf s).length) (hl : k < (runesOf s).length) : idxR s i = some (runesOf s)[k] := by
  unfold clampI at h0 h1 hk
  unfold idxR
  split
  · rename_i hi
    rw [if_pos hi] at h0 h1 hk
    split
    · rename_i hj
      by_cases h3 : i + (runesOf s).length < -1
      · rw [if_pos h3] at h0; omega
      · rw [if_neg h3, if_pos (by omega)] at h0; omega
    · rename_i hj
      rw [if_neg (by omega), if_pos (by omega)] at hk
      rw [show (i + (runesOf s).length).toNat = k by omega]
      exact List.getElem?_eq_getElem hl
  · rename_i hi
    rw [if_neg hi] at h0 h1 hk
    by_cases h3 : i < (runesOf s).length
    · rw [if_pos h3] at hk
      rw [show i.toNat = k by omega]
      exact List.getElem?_eq_getElem hl
    · rw [if_neg h3] at h1; omega
theorem Tabs.two {w : World} (h : Tabs w) : 2 ≤ w.heap.size := World.block_lt_of_cell? w _ (h.2 0 (by decide)).1
theorem fit_size {s : ByteArray} (h : (strV s).bytes ≤ 2000) : s.size ≤ 2000 := by
  simp only [strV, V.bytes, V.bytesL, bytesK, List.map_nil, List.sum_nil] at h
  omega

theorem clamp_any (i : Int) (n : Nat) (hi : -9223372036854775808 ≤ i ∧ i ≤ 9223372036854775807) (hn : n ≤ 140737488351232) (w : World) : Calls Tryd.prog 53 #[.int .i64 i, .int .i64 (-1), .int .i64 n] w (Ret w [] fun v _ => v = .int .i64 (clampI i n)) := by
  refine calls_of Tryd.func53 rfl rfl rfl rfl ?_
  have FR := Fr.refl [] w
  refine DC.seq ?_
  refine DC.region ?_
  refine DL.y rfl rfl (Y.assign) ?_
  refine DL.nil ?_
  show DC _ _ _ _ _ _
  refine DC.seq ?_
  refine DC.seq ?_
  refine DC.region ?_
  refine DL.y rfl rfl (Y.move) ?_
  refine DL.if rfl rfl (Y.lt rfl rfl) (fun c8 => ?_) (fun c8 => ?_)
  · refine DL.nil ?_
    show DC _ _ _ _ _ _
    refine DC.condT rfl ?_
    refine DC.region ?_
    refine DL.y rfl rfl (Y.move) ?_
    refine DL.y rfl rfl (Y.move) ?_
    refine DL.y rfl rfl (Y.addI rfl rfl (rfl) (by omega) (by omega)) ?_
    refine DL.y rfl rfl (Y.assign) ?_
    refine DL.nil ?_
    show DC _ _ _ _ _ _
    refine DC.seq ?_
    refine DC.region ?_
    refine DL.y rfl rfl (Y.move) ?_
    refine DL.y rfl rfl (Y.move) ?_
    refine DL.if rfl rfl (Y.lt rfl rfl) (fun c14 => ?_) (fun c14 => ?_)
    · refine DL.nil ?_
      show DC _ _ _ _ _ _
      refine DC.condT rfl ?_
      refine DC.seq ?_
      refine DC.region ?_
      refine DL.y rfl rfl (Y.move) ?_
      refine DL.y rfl rfl (Y.assign) ?_
      refine DL.nil ?_
      show DC _ _ _ _ _ _
      refine DC.ret ?_
      refine FinQ.ret1 rfl (Ret.mk FR ?_)
      show Value.int .i64 _ = Value.int .i64 _
      simp only [clampI, if_pos c8, if_pos c14]
    · refine DL.nil ?_
      show DC _ _ _ _ _ _
      refine DC.condF rfl ?_
      refine DC.seq ?_
      refine DC.region ?_
      refine DL.y rfl rfl (Y.move) ?_
      refine DL.y rfl rfl (Y.move) ?_
      refine DL.if rfl rfl (Y.lt rfl rfl) (fun c18 => ?_) (fun c18 => ?_)
      · refine DL.nil ?_
        show DC _ _ _ _ _ _
        refine DC.condT rfl ?_
        refine DC.seq ?_
        refine DC.region ?_
        refine DL.y rfl rfl (Y.move) ?_
        refine DL.y rfl rfl (Y.assign) ?_
        refine DL.nil ?_
        show DC _ _ _ _ _ _
        refine DC.ret ?_
        refine FinQ.ret1 rfl (Ret.mk FR ?_)
        show Value.int .i64 _ = Value.int .i64 _
        simp only [clampI, if_pos c8, if_neg c14, if_pos c18]
      · refine DL.nil ?_
        show DC _ _ _ _ _ _
        refine DC.condF rfl ?_
        refine DC.seq ?_
        refine DC.region ?_
        refine DL.y rfl rfl (Y.move) ?_
        refine DL.y rfl rfl (Y.assign) ?_
        refine DL.nil ?_
        show DC _ _ _ _ _ _
        refine DC.ret ?_
        refine FinQ.ret1 rfl (Ret.mk FR ?_)
        show Value.int .i64 _ = Value.int .i64 _
        simp only [clampI, if_pos c8, if_neg c14, if_neg c18]
  · refine DL.nil ?_
    show DC _ _ _ _ _ _
    refine DC.condF rfl ?_
    refine DC.skip ?_
    show DC _ _ _ _ _ _
    refine DC.seq ?_
    refine DC.region ?_
    refine DL.y rfl rfl (Y.move) ?_
    refine DL.y rfl rfl (Y.move) ?_
    refine DL.if rfl rfl (Y.lt rfl rfl) (fun c14 => ?_) (fun c14 => ?_)
    · exfalso; omega
    · refine DL.nil ?_
      show DC _ _ _ _ _ _
      refine DC.condF rfl ?_
      refine DC.seq ?_
      refine DC.region ?_
      refine DL.y rfl rfl (Y.move) ?_
      refine DL.y rfl rfl (Y.move) ?_
      refine DL.if rfl rfl (Y.lt rfl rfl) (fun c18 => ?_) (fun c18 => ?_)
      · refine DL.nil ?_
        show DC _ _ _ _ _ _
        refine DC.condT rfl ?_
        refine DC.seq ?_
        refine DC.region ?_
        refine DL.y rfl rfl (Y.move) ?_
        refine DL.y rfl rfl (Y.assign) ?_
        refine DL.nil ?_
        show DC _ _ _ _ _ _
        refine DC.ret ?_
        refine FinQ.ret1 rfl (Ret.mk FR ?_)
        show Value.int .i64 _ = Value.int .i64 _
        simp only [clampI, if_neg c8, if_neg c14, if_pos c18]
      · refine DL.nil ?_
        show DC _ _ _ _ _ _
        refine DC.condF rfl ?_
        refine DC.seq ?_
        refine DC.region ?_
        refine DL.y rfl rfl (Y.move) ?_
        refine DL.y rfl rfl (Y.assign) ?_
        refine DL.nil ?_
        show DC _ _ _ _ _ _
        refine DC.ret ?_
        refine FinQ.ret1 rfl (Ret.mk FR ?_)
        show Value.int .i64 _ = Value.int .i64 _
        simp only [clampI, if_neg c8, if_neg c14, if_neg c18]

theorem indexString_any (s : ByteArray) (i : Int) (hs : s.size ≤ 2000) (hi : -9223372036854775808 ≤ i ∧ i ≤ 9223372036854775807) (w : World) : Calls Tryd.prog 44 #[.string s, .int .i64 i] w (Ret w [] fun v _ => v = idxV (idxR s i)) := by
  have hlen := runesL_length s s.size 0
  have hlen : (runesOf s).length ≤ s.size := hlen
  refine calls_of Tryd.func44 rfl rfl rfl rfl ?_
  have FR := Fr.refl [] w
  refine DC.seq ?_
  refine DC.region ?_
  refine DL.y rfl rfl (Y.assign) ?_
  refine DL.nil ?_
  show DC _ _ _ _ _ _
  refine DC.seq ?_
  refine DC.region ?_
  refine DL.y rfl rfl (Y.move) ?_
  refine DL.runes rfl rfl Tryd.underlying9 Tryd.underlying31 Tryd.underlying21 rfl (by omega) ?_
  intro b9 w1 cs9 cap9 f2 lo9 hi9 hb9 hcs9 hcap9
  replace lo9 := Nat.le_trans FR.size lo9
  replace FR := FR.tr0 f2
  refine DL.y rfl rfl (Y.lenS Tryd.underlying31 rfl) ?_
  refine DL.y rfl rfl (Y.assign) ?_
  refine DL.nil ?_
  show DC _ _ _ _ _ _
  refine DC.seq ?_
  refine DC.region ?_
  refine DL.y rfl rfl (Y.move) ?_
  refine DL.y rfl rfl (Y.move) ?_
  refine DL.call rfl rfl F.nm53 rfl (clamp_any i _ hi (by omega) _) ?_
  rintro _ w3 f4 rfl
  replace FR := FR.tr0 f4
  replace hb9 := f4.blk0 hb9
  replace hi9 := Nat.lt_of_lt_of_le hi9 f4.size
  obtain ⟨J, hJ⟩ : ∃ J, clampI i (runesOf s).length = J := ⟨_, rfl⟩
  rw [hJ]
  refine DL.y rfl rfl (Y.assign) ?_
  refine DL.nil ?_
  show DC _ _ _ _ _ _
  refine DC.seq ?_
  refine DC.seq ?_
  refine DC.region ?_
  refine DL.y rfl rfl (Y.move) ?_
  refine DL.if rfl rfl (Y.le rfl rfl) (fun c15 => ?_) (fun c15 => ?_)
  · refine DL.y rfl rfl (Y.move) ?_
    refine DL.y rfl rfl (Y.move) ?_
    refine DL.y rfl rfl (Y.move) ?_
    refine DL.if rfl rfl (Y.lt rfl rfl) (fun c19 => ?_) (fun c19 => ?_)
    · obtain ⟨jn, rfl⟩ : ∃ jn : Nat, J = jn := ⟨J.toNat, by omega⟩
      refine DL.y rfl rfl (Y.pickT rfl) ?_
      refine DL.nil ?_
      show DC _ _ _ _ _ _
      refine DC.condT rfl ?_
      refine DC.seq ?_
      refine DC.region ?_
      refine DL.y rfl rfl (Y.move) ?_
      refine DL.rangeStr rfl rfl Tryd.underlying9 rfl ?_
      intro b22 w5 f6 lo22 hi22 hb22
      have lt_b9_b22 : b9 < b22 := Nat.lt_of_lt_of_le hi9 lo22
      replace lo22 := Nat.le_trans FR.size lo22
      replace FR := FR.tr0 f6
      replace hb9 := f6.blk0 hb9
      replace hi9 := Nat.lt_of_lt_of_le hi9 f6.size
      refine DL.nil ?_
      show DC _ _ _ _ _ _
      refine DC.block ?_
      refine DC.loop (σ := Nat × Nat × Nat) [(1, 1), (4, 4), (7, 7), (23, 32)] (fun (k, _, _) => [(1, .int .i64 ((jn : Int) - (k : Int)))]) (fun sg wl => Fr [b22] w5 wl ∧ (fun (k, p, f) w' => k ≤ jn ∧ w'.heap[b22]? = some (.stringIter s p) ∧ runesL s f p = (runesOf s).drop k ∧ s.size ≤ f + p) sg wl) (fun (k, _, _) => jn - k) ((0, 0, s.size)) rfl ?_ ?_ ?_
      · exact (by show Value.int .i64 _ = Value.int .i64 _; simp)
      · exact ⟨Fr.refl _ _, Nat.zero_le _, hb22, rfl, Nat.le_refl _⟩
      · rintro ⟨k, p, f⟩ j w7 ⟨f8, hk0, hb22, hrd, hsf⟩
        replace FR := FR.put f8 (by intro i hi; simp only [List.mem_cons, List.mem_singleton, List.not_mem_nil, or_false] at hi; rcases hi with rfl; all_goals (first | (left; simp; done) | (right; omega)))
        replace hb9 := f8.blk hb9 (by simp only [List.mem_cons, List.not_mem_nil, or_false, not_or]; omega)
        replace hi9 := Nat.lt_of_lt_of_le hi9 f8.size
        replace hi22 := Nat.lt_of_lt_of_le hi22 f8.size
        have G9 := f8
        have HG9 := Fr.refl [b22] w7
        refine DC.seq ?_
        refine DC.region ?_
        have hp : p < s.size := by
          rcases Nat.lt_or_ge p s.size with h | h
          · exact h
          · exfalso
            rw [runesL_end s f p h] at hrd
            have := congrArg List.length hrd
            simp only [List.length_nil, List.length_drop] at this
            omega
        obtain ⟨f9, rfl, hst, hsz9⟩ := runesL_step hsf hp
        have hkl : k < (runesOf s).length := by omega
        rw [hst, List.drop_eq_getElem_cons hkl] at hrd
        obtain ⟨hr1, hr2⟩ := List.cons.inj hrd
        refine DL.nextStr rfl rfl rfl hb22 hp ?_
        intro w10 f11 hz hb22'
        replace FR := FR.put f11 (by intro i hi; simp only [List.mem_cons, List.mem_singleton, List.not_mem_nil, or_false] at hi; rcases hi with rfl; all_goals (first | (left; simp; done) | (right; omega)))
        replace G9 := G9.put f11 (by intro i hi; simp only [List.mem_cons, List.mem_singleton, List.not_mem_nil, or_false] at hi; rcases hi with rfl; all_goals (first | (left; simp; done) | (right; omega)))
        replace HG9 := HG9.put f11 (by intro i hi; simp only [List.mem_cons, List.mem_singleton, List.not_mem_nil, or_false] at hi; rcases hi with rfl; all_goals (first | (left; simp; done) | (right; omega)))
        replace hb9 := f11.blk hb9 (by simp only [List.mem_cons, List.not_mem_nil, or_false, not_or]; omega)
        replace hi9 := Nat.lt_of_lt_of_le hi9 f11.size
        replace hi22 := Nat.lt_of_lt_of_le hi22 f11.size
        replace hb22 := hb22'
        refine DL.y rfl rfl (Y.extract rfl rfl) ?_
        refine DL.nil ?_
        show DC _ _ _ _ _ _
        refine DC.seq ?_
        refine DC.condT rfl ?_
        refine DC.skip ?_
        show DC _ _ _ _ _ _
        refine DC.block ?_
        refine DC.seq ?_
        refine DC.region ?_
        refine DL.y rfl rfl (Y.extract rfl rfl) ?_
        refine DL.y rfl rfl (Y.assign) ?_
        refine DL.nil ?_
        show DC _ _ _ _ _ _
        refine DC.seq ?_
        refine DC.region ?_
        refine DL.y rfl rfl (Y.move) ?_
        refine DL.y rfl rfl (Y.subI (c := (jn : Int) - ((k + 1 : Nat) : Int)) rfl rfl (by omega) (by omega) (by omega)) ?_
        refine DL.y rfl rfl (Y.assign) ?_
        refine DL.nil ?_
        show DC _ _ _ _ _ _
        refine DC.seq ?_
        refine DC.region ?_
        refine DL.y rfl rfl (Y.move) ?_
        refine DL.if rfl rfl (Y.lt rfl rfl) (fun c29 => ?_) (fun c29 => ?_)
        · refine DL.nil ?_
          show DC _ _ _ _ _ _
          refine DC.condT rfl ?_
          refine DC.seq ?_
          refine DC.region ?_
          refine DL.y rfl rfl (Y.move) ?_
          refine DL.y rfl rfl (Y.runeStr F.us21 Tryd.underlying9 rfl) ?_
          refine DL.y rfl rfl (Y.mkI F.if9) ?_
          refine DL.y rfl rfl (Y.assign) ?_
          refine DL.nil ?_
          show DC _ _ _ _ _ _
          refine DC.ret ?_
          refine FinQ.ret1 rfl (Ret.mk FR ?_)
          show Value.iface 9 (.string (Utf8.encode ((Utf8.decode s p).1 : Int))) = _
          rw [idx_some (by rw [hJ]; omega) (by rw [hJ]; omega) k (by rw [hJ]; omega) hkl, hr1]
          rfl
        · refine DL.nil ?_
          show DC _ _ _ _ _ _
          refine DC.condF rfl ?_
          refine DC.skip ?_
          exact ⟨(k + 1, p + (Utf8.decode s p).2, f9), ⟨G9, by omega, hb22, hr2, hsz9⟩, by show jn - (k + 1) < jn - k; omega, rfl⟩
    · refine DL.y rfl rfl (Y.pickT rfl) ?_
      refine DL.nil ?_
      show DC _ _ _ _ _ _
      refine DC.condF rfl ?_
      refine DC.skip ?_
      show DC _ _ _ _ _ _
      refine DC.seq ?_
      refine DC.region ?_
      refine DL.y rfl rfl (Y.assign) ?_
      refine DL.nil ?_
      show DC _ _ _ _ _ _
      refine DC.ret ?_
      refine FinQ.ret1 rfl (Ret.mk FR ?_)
      show Value.nilIface = _
      rw [idx_none (by rw [hJ]; omega)]
      rfl
  · refine DL.y rfl rfl (Y.move) ?_
    refine DL.skip rfl rfl ?_
    refine DL.skip rfl rfl ?_
    refine DL.skip rfl rfl ?_
    refine DL.y rfl rfl (Y.pickF rfl) ?_
    refine DL.nil ?_
    show DC _ _ _ _ _ _
    refine DC.condF rfl ?_
    refine DC.skip ?_
    show DC _ _ _ _ _ _
    refine DC.seq ?_
    refine DC.region ?_
    refine DL.y rfl rfl (Y.assign) ?_
    refine DL.nil ?_
    show DC _ _ _ _ _ _
    refine DC.ret ?_
    refine FinQ.ret1 rfl (Ret.mk FR ?_)
    show Value.nilIface = _
    rw [idx_none (by rw [hJ]; omega)]
    rfl

theorem zzIndex_any (s : ByteArray) (i : Int) (hs : s.size ≤ 2000) (hi : -9223372036854775808 ≤ i ∧ i ≤ 9223372036854775807) (w : World) : Calls Tryd.prog 29 #[.string s, .int .i64 i] w (Ret w [] fun v _ => v = idxV (idxR s i)) := by
  refine calls_of Tryd.func29 rfl rfl rfl rfl ?_
  have FR := Fr.refl [] w
  refine DC.seq ?_
  refine DC.region ?_
  refine DL.y rfl rfl (Y.assign) ?_
  refine DL.nil ?_
  show DC _ _ _ _ _ _
  refine DC.seq ?_
  refine DC.region ?_
  refine DL.y rfl rfl (Y.move) ?_
  refine DL.y rfl rfl (Y.move) ?_
  refine DL.call rfl rfl F.nm44 rfl (indexString_any _ _ hs hi _) ?_
  rintro _ w1 f2 rfl
  replace FR := FR.tr0 f2
  refine DL.y rfl rfl (Y.assign) ?_
  refine DL.nil ?_
  show DC _ _ _ _ _ _
  refine DC.ret ?_
  exact FinQ.ret1 rfl (Ret.mk FR rfl)


theorem result_idx (o : Option Nat) (w : World) : Calls Tryd.prog 28 #[idxV o] w (Ret w [] fun v _ => v = idxC o) := by
  cases o with
  | none => exact result_nil w
  | some r => exact result_txt _ w
theorem idxC_one (o : Option Nat) : ∃ cs, idxC o = .agg cs ∧ cs.size = 7 ∧ cs.all (·.oneCell') = true := by
  cases o with
  | none => exact ⟨_, rfl, rfl, by kernel_rfl⟩
  | some r => exact ⟨_, rfl, rfl, by kernel_rfl⟩

theorem IndexText_any (s : ByteArray) (i : Int) (hs : s.size ≤ 2000) (hi : -9223372036854775808 ≤ i ∧ i ≤ 9223372036854775807) (w : World) : Calls Tryd.prog 13 #[.string s, .int .i64 i] w (Ret w [] fun v _ => v = idxC (idxR s i)) := by
  obtain ⟨cc, hcc, hcz, hco⟩ := idxC_one (idxR s i)
  refine calls_of Tryd.func13 rfl rfl rfl rfl ?_
  have FR := Fr.refl [] w
  refine DC.seq ?_
  refine DC.region ?_
  refine DL.alloc rfl rfl F.z34 rfl ?_
  intro b4 w1 f2 lo4 hi4 hb4
  replace lo4 := Nat.le_trans FR.size lo4
  replace FR := FR.tr0 f2
  refine DL.nil ?_
  show DC _ _ _ _ _ _
  refine DC.seq ?_
  refine DC.region ?_
  refine DL.y rfl rfl (Y.move) ?_
  refine DL.y rfl rfl (Y.move) ?_
  refine DL.call rfl rfl F.nm29 rfl (zzIndex_any _ _ hs hi _) ?_
  rintro _ w3 f4 rfl
  replace FR := FR.tr0 f4
  replace hb4 := f4.blk0 hb4
  replace hi4 := Nat.lt_of_lt_of_le hi4 f4.size
  refine DL.call rfl rfl F.nm28 rfl (hcc ▸ result_idx _ _) ?_
  rintro _ w5 f6 rfl
  replace FR := FR.tr0 f6
  replace hb4 := f6.blk0 hb4
  replace hi4 := Nat.lt_of_lt_of_le hi4 f6.size
  refine DL.storeA rfl F.ag34 rfl rfl hcz hco hb4 rfl ?_
  intro w7 f8 hs9 hb4'
  replace FR := FR.put f8 (by intro i hi; simp only [List.mem_cons, List.mem_singleton, List.not_mem_nil, or_false] at hi; rcases hi with rfl; all_goals (first | (left; simp; done) | (right; omega)))
  replace hi4 := Nat.lt_of_lt_of_le hi4 f8.size
  replace hb4 := hb4'
  refine DL.nil ?_
  show DC _ _ _ _ _ _
  refine DC.ret ?_
  exact FinQ.retC rfl (cs := cc) (by rw [hcz]; exact F.ag34) (.ofBlk hb4) (Ret.mk FR hcc.symm)

theorem law_any (s : ByteArray) (i : Int) (hs : s.size ≤ 140737488351232) (hi : -9223372036854775808 ≤ i ∧ i ≤ 9223372036854775807) (w : World) (hT : Tabs w) : Calls Tryd.prog 4 #[.string s, .int .i64 i] w (Ret w [] fun v _ => v = .bool true) := by
  have h2 := Tabs.two hT
  refine calls_of Tryd.func4 rfl rfl rfl rfl ?_
  have FR := Fr.refl [] w
  refine DC.seq ?_
  refine DC.region ?_
  refine DL.y rfl rfl (Y.assign) ?_
  refine DL.nil ?_
  show DC _ _ _ _ _ _
  refine DC.seq ?_
  refine DC.seq ?_
  refine DC.region ?_
  refine DL.y rfl rfl (Y.move) ?_
  refine DL.y rfl rfl (Y.lenStr Tryd.underlying9 rfl) ?_
  refine DL.if rfl rfl (Y.gt rfl rfl) (fun c11 => ?_) (fun c11 => ?_)
  · refine DL.nil ?_
    show DC _ _ _ _ _ _
    refine DC.condT rfl ?_
    refine DC.seq ?_
    refine DC.region ?_
    refine DL.y rfl rfl (Y.assign) ?_
    refine DL.nil ?_
    show DC _ _ _ _ _ _
    refine DC.ret ?_
    exact FinQ.ret1 rfl (Ret.mk FR rfl)
  · refine DL.nil ?_
    show DC _ _ _ _ _ _
    refine DC.condF rfl ?_
    refine DC.skip ?_
    show DC _ _ _ _ _ _
    refine DC.seq ?_
    refine DC.region ?_
    refine DL.y rfl rfl (Y.move) ?_
    refine DL.call rfl rfl F.nm10 rfl (Str_any _ _) ?_
    rintro _ w1 f2 rfl
    replace FR := FR.tr0 f2
    replace hT := hT.fr f2 (by intro x hx; simp <;> omega)
    refine DL.alloc rfl rfl F.z26 rfl ?_
    intro b5 w3 f4 lo5 hi5 hb5
    replace lo5 := Nat.le_trans FR.size lo5
    replace FR := FR.tr0 f4
    replace hT := hT.fr f4 (by intro x hx; simp <;> omega)
    refine DL.storeA rfl F.ag26 rfl rfl rfl (by kernel_rfl) hb5 rfl ?_
    intro w5 f6 hs7 hb5'
    replace FR := FR.put f6 (by intro i hi; simp only [List.mem_cons, List.mem_singleton, List.not_mem_nil, or_false] at hi; rcases hi with rfl; all_goals (first | (left; simp; done) | (right; omega)))
    replace hT := hT.fr f6 (by intro x hx; simp <;> omega)
    replace hi5 := Nat.lt_of_lt_of_le hi5 f6.size
    replace hb5 := hb5'
    refine DL.nil ?_
    show DC _ _ _ _ _ _
    refine DC.seq ?_
    refine DC.seq ?_
    refine DC.region ?_
    refine DL.y rfl rfl (Y.loadW rfl hb5 F.ag26) ?_
    refine DL.call rfl rfl F.nm11 rfl (Fit_any _ _ 2 _ (strRV _ 2 s hs) (by have := FR.size; omega) (by omega) hT) ?_
    rintro _ w8 f9 ⟨r, rfl, hfit⟩
    replace FR := FR.tr0 f9
    replace hT := hT.fr f9 (by intro x hx; simp <;> omega)
    replace hi5 := Nat.lt_of_lt_of_le hi5 f9.size
    replace hb5 := f9.blk0 hb5
    rcases Bool.eq_false_or_eq_true r with hr | hr
    · have hs2 := fit_size (hfit hr).2.2
      have hlen : (runesOf s).length ≤ s.size := runesL_length s s.size 0
      subst hr
      refine DL.y rfl rfl (Y.not rfl) ?_
      refine DL.nil ?_
      show DC _ _ _ _ _ _
      refine DC.condF rfl ?_
      refine DC.skip ?_
      show DC _ _ _ _ _ _
      refine DC.seq ?_
      refine DC.region ?_
      refine DL.y rfl rfl (Y.move) ?_
      refine DL.runes rfl rfl Tryd.underlying9 Tryd.underlying31 Tryd.underlying21 rfl (by omega) ?_
      intro b18 w10 cs18 cap18 f11 lo18 hi18 hb18 hcs18 hcap18
      have lt_b5_b18 : b5 < b18 := Nat.lt_of_lt_of_le hi5 lo18
      replace lo18 := Nat.le_trans FR.size lo18
      replace FR := FR.tr0 f11
      replace hT := hT.fr f11 (by intro x hx; simp <;> omega)
      replace hi5 := Nat.lt_of_lt_of_le hi5 f11.size
      replace hb5 := f11.blk0 hb5
      refine DL.y rfl rfl (Y.assign) ?_
      refine DL.nil ?_
      show DC _ _ _ _ _ _
      refine DC.seq ?_
      refine DC.region ?_
      refine DL.y rfl rfl (Y.move) ?_
      refine DL.y rfl rfl (Y.lenS Tryd.underlying31 rfl) ?_
      refine DL.y rfl rfl (Y.assign) ?_
      refine DL.nil ?_
      show DC _ _ _ _ _ _
      refine DC.seq ?_
      refine DC.region ?_
      refine DL.alloc rfl rfl F.z26 rfl ?_
      intro b8 w12 f13 lo8 hi8 hb8
      have lt_b5_b8 : b5 < b8 := Nat.lt_of_lt_of_le hi5 lo8
      have lt_b18_b8 : b18 < b8 := Nat.lt_of_lt_of_le hi18 lo8
      replace lo8 := Nat.le_trans FR.size lo8
      replace FR := FR.tr0 f13
      replace hT := hT.fr f13 (by intro x hx; simp <;> omega)
      replace hi5 := Nat.lt_of_lt_of_le hi5 f13.size
      replace hb5 := f13.blk0 hb5
      replace hb18 := f13.blk0 hb18
      replace hi18 := Nat.lt_of_lt_of_le hi18 f13.size
      refine DL.nil ?_
      show DC _ _ _ _ _ _
      refine DC.seq ?_
      refine DC.block ?_
      refine DC.seq ?_
      refine DC.region ?_
      refine DL.y rfl rfl (Y.move) ?_
      refine DL.if rfl rfl (Y.ge rfl rfl) (fun c23 => ?_) (fun c23 => ?_)
      · refine DL.y rfl rfl (Y.move) ?_
        refine DL.y rfl rfl (Y.move) ?_
        refine DL.y rfl rfl (Y.move) ?_
        refine DL.if rfl rfl (Y.lt rfl rfl) (fun c27 => ?_) (fun c27 => ?_)
        · have hix : (i).toNat < (runesOf s).length := by omega
          obtain ⟨r, hr⟩ : ∃ r, (runesOf s)[(i).toNat] = r := ⟨_, rfl⟩
          have hrc := hcs18 _ hix
          rw [hr] at hrc
          have hrc := cell_of_blk (o := 0 + (i).toNat * 1) hb18 (by rw [show 0 + (i).toNat * 1 = (i).toNat by omega]; exact hrc)
          have hidx : idxR s i = some r := by
            unfold idxR
            rw [if_neg (by omega), List.getElem?_eq_getElem hix, hr]
          have hez : (Utf8.encode (r : Int)).size ≤ 140737488351232 := by have := encode_size_le (r : Int); omega
          refine DL.y rfl rfl (Y.pickT rfl) ?_
          refine DL.y rfl rfl (Y.assign) ?_
          refine DL.nil ?_
          show DC _ _ _ _ _ _
          refine DC.condT rfl ?_
          refine DC.region ?_
          refine DL.y rfl rfl (Y.move) ?_
          refine DL.y rfl rfl (Y.move) ?_
          refine DL.y rfl rfl (Y.move) ?_
          refine DL.y rfl rfl (Y.addI rfl rfl (rfl) (by omega) (by omega)) ?_
          refine DL.y rfl rfl (Y.slice1 F.sl31 rfl rfl rfl (by omega) (by omega) (by omega)) ?_
          refine DL.y rfl rfl (Y.rune1Str Tryd.underlying31 Tryd.underlying21 Tryd.underlying9 rfl hrc) ?_
          refine DL.call rfl rfl F.nm10 rfl (Str_any _ _) ?_
          rintro _ w14 f15 rfl
          replace FR := FR.tr0 f15
          replace hT := hT.fr f15 (by intro x hx; simp <;> omega)
          replace hi5 := Nat.lt_of_lt_of_le hi5 f15.size
          replace hb5 := f15.blk0 hb5
          replace hb18 := f15.blk0 hb18
          replace hi18 := Nat.lt_of_lt_of_le hi18 f15.size
          replace hb8 := f15.blk0 hb8
          replace hi8 := Nat.lt_of_lt_of_le hi8 f15.size
          refine DL.storeA rfl F.ag26 rfl rfl rfl (by kernel_rfl) hb8 rfl ?_
          intro w16 f17 hs18 hb8'
          replace FR := FR.put f17 (by intro i hi; simp only [List.mem_cons, List.mem_singleton, List.not_mem_nil, or_false] at hi; rcases hi with rfl; all_goals (first | (left; simp; done) | (right; omega)))
          replace hT := hT.fr f17 (by intro x hx; simp <;> omega)
          replace hi5 := Nat.lt_of_lt_of_le hi5 f17.size
          replace hb5 := f17.blk hb5 (by simp only [List.mem_cons, List.not_mem_nil, or_false, not_or]; omega)
          replace hb18 := f17.blk hb18 (by simp only [List.mem_cons, List.not_mem_nil, or_false, not_or]; omega)
          replace hi18 := Nat.lt_of_lt_of_le hi18 f17.size
          replace hi8 := Nat.lt_of_lt_of_le hi8 f17.size
          replace hb8 := hb8'
          refine DL.nil ?_
          show DC _ _ _ _ _ _
          refine DC.seq ?_
          refine DC.quiet F.mixed (by kernel_rfl) ?_
          refine DQ.y rfl rfl (fun wq fq => Y.move) ?_
          refine DQ.y rfl rfl (fun wq fq => Y.move) ?_
          refine DQ.call rfl rfl F.nm13 rfl (fun wq fq => hidx ▸ IndexText_any s i hs2 hi wq) ?_
          refine DQ.y rfl rfl (fun wq fq => Y.loadW rfl (fq.blk0 hb8) F.ag26) ?_
          refine DQ.call rfl rfl F.nm12 rfl (fun wq fq => given_any _ _ _ _ _ _ _ _ 0 wq (strRV _ 0 _ hez) (strRV _ 0 _ hez)) ?_
          refine DQ.y rfl rfl (fun wq fq => Y.assign) ?_
          refine DQ.nil ?_
          intro w19 f20
          replace FR := FR.tr0 f20
          replace hT := hT.fr f20 (by intro x hx; simp <;> omega)
          replace hi5 := Nat.lt_of_lt_of_le hi5 f20.size
          replace hb5 := f20.blk0 hb5
          replace hb18 := f20.blk0 hb18
          replace hi18 := Nat.lt_of_lt_of_le hi18 f20.size
          replace hi8 := Nat.lt_of_lt_of_le hi8 f20.size
          replace hb8 := f20.blk0 hb8
          show DC _ _ _ _ _ _
          refine DC.ret ?_
          exact FinQ.ret1 rfl (Ret.mk FR rfl)
        · refine DL.y rfl rfl (Y.pickT rfl) ?_
          refine DL.y rfl rfl (Y.assign) ?_
          refine DL.nil ?_
          show DC _ _ _ _ _ _
          refine DC.condF rfl ?_
          refine DC.seq ?_
          refine DC.region ?_
          refine DL.y rfl rfl (Y.move) ?_
          refine DL.if rfl rfl (Y.lt rfl rfl) (fun c38 => ?_) (fun c38 => ?_)
          · exfalso; omega
          · refine DL.y rfl rfl (Y.move) ?_
            refine DL.skip rfl rfl ?_
            refine DL.skip rfl rfl ?_
            refine DL.skip rfl rfl ?_
            refine DL.skip rfl rfl ?_
            refine DL.y rfl rfl (Y.pickF rfl) ?_
            refine DL.y rfl rfl (Y.assign) ?_
            refine DL.nil ?_
            show DC _ _ _ _ _ _
            refine DC.condF rfl ?_
            refine DC.skip ?_
            show DC _ _ _ _ _ _
            refine DC.seq ?_
            refine DC.quiet F.mixed (by kernel_rfl) ?_
            have hidx : idxR s i = none := by
              unfold idxR
              by_cases hneg : i < 0
              · rw [if_pos hneg, if_pos (by omega)]
              · rw [if_neg hneg]; exact List.getElem?_eq_none (by omega)
            refine DQ.y rfl rfl (fun wq fq => Y.move) ?_
            refine DQ.y rfl rfl (fun wq fq => Y.move) ?_
            refine DQ.call rfl rfl F.nm13 rfl (fun wq fq => hidx ▸ IndexText_any s i hs2 hi wq) ?_
            refine DQ.y rfl rfl (fun wq fq => Y.loadW rfl (fq.blk0 hb8) F.ag26) ?_
            refine DQ.call rfl rfl F.nm12 rfl (fun wq fq => given_any _ _ _ _ _ _ _ _ 0 wq (nulRV _ 0) (nulRV _ 0)) ?_
            refine DQ.y rfl rfl (fun wq fq => Y.assign) ?_
            refine DQ.nil ?_
            intro w21 f22
            replace FR := FR.tr0 f22
            replace hT := hT.fr f22 (by intro x hx; simp <;> omega)
            replace hi5 := Nat.lt_of_lt_of_le hi5 f22.size
            replace hb5 := f22.blk0 hb5
            replace hb18 := f22.blk0 hb18
            replace hi18 := Nat.lt_of_lt_of_le hi18 f22.size
            replace hb8 := f22.blk0 hb8
            replace hi8 := Nat.lt_of_lt_of_le hi8 f22.size
            show DC _ _ _ _ _ _
            refine DC.ret ?_
            exact FinQ.ret1 rfl (Ret.mk FR rfl)
      · refine DL.y rfl rfl (Y.move) ?_
        refine DL.skip rfl rfl ?_
        refine DL.skip rfl rfl ?_
        refine DL.skip rfl rfl ?_
        refine DL.y rfl rfl (Y.pickF rfl) ?_
        refine DL.y rfl rfl (Y.assign) ?_
        refine DL.nil ?_
        show DC _ _ _ _ _ _
        refine DC.condF rfl ?_
        refine DC.seq ?_
        refine DC.region ?_
        refine DL.y rfl rfl (Y.move) ?_
        refine DL.if rfl rfl (Y.lt rfl rfl) (fun c38 => ?_) (fun c38 => ?_)
        · refine DL.y rfl rfl (Y.move) ?_
          refine DL.y rfl rfl (Y.move) ?_
          refine DL.y rfl rfl (Y.move) ?_
          refine DL.y rfl rfl (Y.negI (c := -((runesOf s).length : Int)) rfl (by omega) (by omega) (by omega)) ?_
          refine DL.if rfl rfl (Y.ge rfl rfl) (fun c43 => ?_) (fun c43 => ?_)
          · have hix : (((runesOf s).length : Int) + i).toNat < (runesOf s).length := by omega
            obtain ⟨r, hr⟩ : ∃ r, (runesOf s)[(((runesOf s).length : Int) + i).toNat] = r := ⟨_, rfl⟩
            have hrc := hcs18 _ hix
            rw [hr] at hrc
            have hrc := cell_of_blk (o := 0 + (((runesOf s).length : Int) + i).toNat * 1) hb18 (by rw [show 0 + (((runesOf s).length : Int) + i).toNat * 1 = (((runesOf s).length : Int) + i).toNat by omega]; exact hrc)
            have hidx : idxR s i = some r := by
              unfold idxR
              rw [if_pos (by omega), if_neg (by omega), show (i + ((runesOf s).length : Int)).toNat = (((runesOf s).length : Int) + i).toNat by omega, List.getElem?_eq_getElem hix, hr]
            have hez : (Utf8.encode (r : Int)).size ≤ 140737488351232 := by have := encode_size_le (r : Int); omega
            refine DL.y rfl rfl (Y.pickT rfl) ?_
            refine DL.y rfl rfl (Y.assign) ?_
            refine DL.nil ?_
            show DC _ _ _ _ _ _
            refine DC.condT rfl ?_
            refine DC.region ?_
            refine DL.y rfl rfl (Y.move) ?_
            refine DL.y rfl rfl (Y.move) ?_
            refine DL.y rfl rfl (Y.move) ?_
            refine DL.y rfl rfl (Y.addI (c := ((runesOf s).length : Int) + i) rfl rfl (by omega) (by omega) (by omega)) ?_
            refine DL.y rfl rfl (Y.move) ?_
            refine DL.y rfl rfl (Y.move) ?_
            refine DL.y rfl rfl (Y.addI (c := ((runesOf s).length : Int) + i) rfl rfl (by omega) (by omega) (by omega)) ?_
            refine DL.y rfl rfl (Y.addI rfl rfl (rfl) (by omega) (by omega)) ?_
            refine DL.y rfl rfl (Y.slice1 F.sl31 rfl rfl rfl (by omega) (by omega) (by omega)) ?_
            refine DL.y rfl rfl (Y.rune1Str Tryd.underlying31 Tryd.underlying21 Tryd.underlying9 rfl hrc) ?_
            refine DL.call rfl rfl F.nm10 rfl (Str_any _ _) ?_
            rintro _ w23 f24 rfl
            replace FR := FR.tr0 f24
            replace hT := hT.fr f24 (by intro x hx; simp <;> omega)
            replace hi5 := Nat.lt_of_lt_of_le hi5 f24.size
            replace hb5 := f24.blk0 hb5
            replace hb18 := f24.blk0 hb18
            replace hi18 := Nat.lt_of_lt_of_le hi18 f24.size
            replace hb8 := f24.blk0 hb8
            replace hi8 := Nat.lt_of_lt_of_le hi8 f24.size
            refine DL.storeA rfl F.ag26 rfl rfl rfl (by kernel_rfl) hb8 rfl ?_
            intro w25 f26 hs27 hb8'
            replace FR := FR.put f26 (by intro i hi; simp only [List.mem_cons, List.mem_singleton, List.not_mem_nil, or_false] at hi; rcases hi with rfl; all_goals (first | (left; simp; done) | (right; omega)))
            replace hT := hT.fr f26 (by intro x hx; simp <;> omega)
            replace hi5 := Nat.lt_of_lt_of_le hi5 f26.size
            replace hb5 := f26.blk hb5 (by simp only [List.mem_cons, List.not_mem_nil, or_false, not_or]; omega)
            replace hb18 := f26.blk hb18 (by simp only [List.mem_cons, List.not_mem_nil, or_false, not_or]; omega)
            replace hi18 := Nat.lt_of_lt_of_le hi18 f26.size
            replace hi8 := Nat.lt_of_lt_of_le hi8 f26.size
            replace hb8 := hb8'
            refine DL.nil ?_
            show DC _ _ _ _ _ _
            refine DC.seq ?_
            refine DC.quiet F.mixed (by kernel_rfl) ?_
            refine DQ.y rfl rfl (fun wq fq => Y.move) ?_
            refine DQ.y rfl rfl (fun wq fq => Y.move) ?_
            refine DQ.call rfl rfl F.nm13 rfl (fun wq fq => hidx ▸ IndexText_any s i hs2 hi wq) ?_
            refine DQ.y rfl rfl (fun wq fq => Y.loadW rfl (fq.blk0 hb8) F.ag26) ?_
            refine DQ.call rfl rfl F.nm12 rfl (fun wq fq => given_any _ _ _ _ _ _ _ _ 0 wq (strRV _ 0 _ hez) (strRV _ 0 _ hez)) ?_
            refine DQ.y rfl rfl (fun wq fq => Y.assign) ?_
            refine DQ.nil ?_
            intro w28 f29
            replace FR := FR.tr0 f29
            replace hT := hT.fr f29 (by intro x hx; simp <;> omega)
            replace hi5 := Nat.lt_of_lt_of_le hi5 f29.size
            replace hb5 := f29.blk0 hb5
            replace hb18 := f29.blk0 hb18
            replace hi18 := Nat.lt_of_lt_of_le hi18 f29.size
            replace hi8 := Nat.lt_of_lt_of_le hi8 f29.size
            replace hb8 := f29.blk0 hb8
            show DC _ _ _ _ _ _
            refine DC.ret ?_
            exact FinQ.ret1 rfl (Ret.mk FR rfl)
          · refine DL.y rfl rfl (Y.pickT rfl) ?_
            refine DL.y rfl rfl (Y.assign) ?_
            refine DL.nil ?_
            show DC _ _ _ _ _ _
            refine DC.condF rfl ?_
            refine DC.skip ?_
            show DC _ _ _ _ _ _
            refine DC.seq ?_
            refine DC.quiet F.mixed (by kernel_rfl) ?_
            have hidx : idxR s i = none := by
              unfold idxR
              by_cases hneg : i < 0
              · rw [if_pos hneg, if_pos (by omega)]
              · rw [if_neg hneg]; exact List.getElem?_eq_none (by omega)
            refine DQ.y rfl rfl (fun wq fq => Y.move) ?_
            refine DQ.y rfl rfl (fun wq fq => Y.move) ?_
            refine DQ.call rfl rfl F.nm13 rfl (fun wq fq => hidx ▸ IndexText_any s i hs2 hi wq) ?_
            refine DQ.y rfl rfl (fun wq fq => Y.loadW rfl (fq.blk0 hb8) F.ag26) ?_
            refine DQ.call rfl rfl F.nm12 rfl (fun wq fq => given_any _ _ _ _ _ _ _ _ 0 wq (nulRV _ 0) (nulRV _ 0)) ?_
            refine DQ.y rfl rfl (fun wq fq => Y.assign) ?_
            refine DQ.nil ?_
            intro w30 f31
            replace FR := FR.tr0 f31
            replace hT := hT.fr f31 (by intro x hx; simp <;> omega)
            replace hi5 := Nat.lt_of_lt_of_le hi5 f31.size
            replace hb5 := f31.blk0 hb5
            replace hb18 := f31.blk0 hb18
            replace hi18 := Nat.lt_of_lt_of_le hi18 f31.size
            replace hb8 := f31.blk0 hb8
            replace hi8 := Nat.lt_of_lt_of_le hi8 f31.size
            show DC _ _ _ _ _ _
            refine DC.ret ?_
            exact FinQ.ret1 rfl (Ret.mk FR rfl)
        · exfalso; omega
    · subst hr
      refine DL.y rfl rfl (Y.not rfl) ?_
      refine DL.nil ?_
      show DC _ _ _ _ _ _
      refine DC.condT rfl ?_
      refine DC.seq ?_
      refine DC.region ?_
      refine DL.y rfl rfl (Y.assign) ?_
      refine DL.nil ?_
      show DC _ _ _ _ _ _
      refine DC.ret ?_
      exact FinQ.ret1 rfl (Ret.mk FR rfl)

end Go.Proofs.YtmbleojlnaofjaaDoor
