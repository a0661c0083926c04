/- The walks of laws.FnTrimStr and of what it calls; the plain law of trimming. -/
import Derived.Test.YtmbleojlnaofjaaDoorTxt
import Derived.Test.YtmbleojlnaofjaaDoorValid
import Derived.Test.YtmbleojlnaofjaaDoorShelfT
namespace Go.Proofs.YtmbleojlnaofjaaDoor
open Go Go.RowKit D
set_option linter.unusedVariables false
set_option linter.unusedSimpArgs false


def trimP (s t : ByteArray) : ByteArray := ⟨(Lib.trimPrefix s.data.toList t.data.toList).toArray⟩
def trimS (s t : ByteArray) : ByteArray := ⟨(Lib.trimSuffix s.data.toList t.data.toList).toArray⟩
theorem trimP_any (s t : ByteArray) (w : World) : Calls Tryd.prog 59 #[.string s, .string t] w (Ret w [] fun v _ => v = .string (trimP s t)) := by
  refine (Any.strings_TrimPrefix Tryd.laysTrimP s t w).mono fun e w' h => ?_
  obtain ⟨rfl, rfl⟩ := h
  exact Ret.mk (Fr.refl _ _) rfl
theorem trimS_any (s t : ByteArray) (w : World) (hs : s.size ≤ 9223372036854775807) : Calls Tryd.prog 58 #[.string s, .string t] w (Ret w [] fun v _ => v = .string (trimS s t)) := by
  refine (Any.strings_TrimSuffix Tryd.laysTrimS s t w hs).mono fun e w' h => ?_
  obtain ⟨rfl, rfl⟩ := h
  exact Ret.mk (Fr.refl _ _) rfl

/-! ### The plain law: pieces of a text -/
theorem size_len (s : ByteArray) : s.size = s.data.toList.length := Lib.size_eq s
theorem ext_list (s : ByteArray) (i j : Nat) (hj : j ≤ s.size) : (s.extract i j).data.toList = (s.data.toList.take j).drop i := by
  have hs := size_len s
  rw [ByteArray.data_extract, Array.toList_extract, List.extract_eq_take_drop, List.drop_take]
theorem ba_ext {a b : ByteArray} (h : a.data.toList = b.data.toList) : a = b := ByteArray.ext (Array.toList_inj.1 h)
theorem begins_eq (s t : ByteArray) : Lib.hasPrefix s.data.toList t.data.toList = (decide ((t.size : Int) ≤ (s.size : Int)) && decide (s.extract 0 ((t.size : Int).toNat) = t)) := by
  have hs := size_len s; have ht := size_len t
  rw [Bool.eq_iff_iff]
  simp only [Lib.hasPrefix, List.isPrefixOf_iff_prefix, Bool.and_eq_true, decide_eq_true_eq, Int.toNat_natCast]
  constructor
  · intro h
    have hl := h.length_le
    have hle : t.size ≤ s.size := by omega
    refine ⟨by omega, ba_ext ?_⟩
    rw [ext_list s 0 t.size hle, List.drop_zero, ht]
    exact (List.prefix_iff_eq_take.1 h).symm
  · rintro ⟨h1, h2⟩
    have hle : t.size ≤ s.size := by omega
    rw [List.prefix_iff_eq_take, ← ht, ← List.drop_zero (l := s.data.toList.take t.size), ← ext_list s 0 t.size hle, h2]
theorem ends_eq (s t : ByteArray) : Lib.hasSuffix s.data.toList t.data.toList = (decide ((t.size : Int) ≤ (s.size : Int)) && decide (s.extract (((s.size : Int) - (t.size : Int)).toNat) s.size = t)) := by
  have hs := size_len s; have ht := size_len t
  rw [Bool.eq_iff_iff]
  simp only [Lib.hasSuffix, List.isSuffixOf_iff_suffix, Bool.and_eq_true, decide_eq_true_eq]
  constructor
  · intro h
    have hl := h.length_le
    have hle : t.size ≤ s.size := by omega
    refine ⟨by omega, ba_ext ?_⟩
    rw [ext_list s _ s.size (Nat.le_refl _), hs, List.take_length, ht]
    rw [show (((s.data.toList.length : Int) - (t.data.toList.length : Int)).toNat) = s.data.toList.length - t.data.toList.length by omega]
    exact (List.suffix_iff_eq_drop.1 h).symm
  · rintro ⟨h1, h2⟩
    rw [List.suffix_iff_eq_drop, ← ht, ← hs]
    have h3 : (s.extract (((s.size : Int) - (t.size : Int)).toNat) s.size).data.toList = t.data.toList := by rw [h2]
    rw [ext_list s _ s.size (Nat.le_refl _), hs, List.take_length] at h3
    rw [hs, show s.data.toList.length - t.size = (((s.data.toList.length : Int) - (t.size : Int)).toNat) by omega, h3]
theorem trimP_yes (s t : ByteArray) (h : Lib.hasPrefix s.data.toList t.data.toList = true) : s.extract ((t.size : Int).toNat) s.size = trimP s t := by
  have hs := size_len s; have ht := size_len t
  refine ba_ext ?_
  rw [ext_list s _ s.size (Nat.le_refl _), hs, List.take_length]
  simp only [trimP, Lib.trimPrefix, h, if_true, Int.toNat_natCast, ht]
theorem trimP_no (s t : ByteArray) (h : Lib.hasPrefix s.data.toList t.data.toList = false) : s = trimP s t := by
  refine ba_ext ?_
  simp [trimP, Lib.trimPrefix, h]
theorem trimS_yes (s t : ByteArray) (h : Lib.hasSuffix s.data.toList t.data.toList = true) : s.extract 0 (((s.size : Int) - (t.size : Int)).toNat) = trimS s t := by
  have hs := size_len s; have ht := size_len t
  refine ba_ext ?_
  rw [ext_list s _ _ (by omega), List.drop_zero]
  simp only [trimS, Lib.trimSuffix, h, if_true]
  rw [show (((s.size : Int) - (t.size : Int)).toNat) = s.data.toList.length - t.data.toList.length by omega]
theorem trimS_no (s t : ByteArray) (h : Lib.hasSuffix s.data.toList t.data.toList = false) : s = trimS s t := by
  refine ba_ext ?_
  simp [trimS, Lib.trimSuffix, h]
theorem trimP_size (s t : ByteArray) : (trimP s t).size ≤ s.size := by
  rw [size_len, size_len]
  simp only [trimP, Lib.trimPrefix]
  split
  · simp
  · exact Nat.le_refl _
theorem trimS_size (s t : ByteArray) : (trimS s t).size ≤ s.size := by
  rw [size_len, size_len]
  simp only [trimS, Lib.trimSuffix]
  split
  · simp
  · exact Nat.le_refl _

theorem begins_any (s t : ByteArray) (hs : s.size ≤ 140737488351232) (ht : t.size ≤ 140737488351232) (w : World) : Calls Tryd.prog 33 #[.string s, .string t] w (Ret w [] fun v _ => v = .bool (Lib.hasPrefix s.data.toList t.data.toList)) := by
  refine calls_of Tryd.func33 rfl rfl rfl rfl ?_
  have FR := Fr.refl [] w
  refine DC.seq ?_
  refine DC.region ?_
  refine DL.y rfl rfl (Y.assign) ?_
  refine DL.nil ?_
  show DC _ _ _ _ _ _
  refine DC.seq ?_
  refine DC.region ?_
  refine DL.y rfl rfl (Y.move) ?_
  refine DL.y rfl rfl (Y.lenStr Tryd.underlying9 rfl) ?_
  refine DL.y rfl rfl (Y.move) ?_
  refine DL.y rfl rfl (Y.lenStr Tryd.underlying9 rfl) ?_
  refine DL.if rfl rfl (Y.ge rfl rfl) (fun c9 => ?_) (fun c9 => ?_)
  · refine DL.y rfl rfl (Y.move) ?_
    refine DL.y rfl rfl (Y.move) ?_
    refine DL.y rfl rfl (Y.move) ?_
    refine DL.y rfl rfl (Y.lenStr Tryd.underlying9 rfl) ?_
    refine DL.y rfl rfl (Y.strH Tryd.underlying9 rfl rfl (by omega) (by omega)) ?_
    refine DL.y rfl rfl (Y.move) ?_
    refine DL.if rfl rfl (Y.seq rfl rfl) (fun c16 => ?_) (fun c16 => ?_)
    · refine DL.y rfl rfl (Y.pickT rfl) ?_
      refine DL.y rfl rfl (Y.assign) ?_
      refine DL.nil ?_
      show DC _ _ _ _ _ _
      refine DC.ret ?_
      refine FinQ.ret1 rfl (Ret.mk FR ?_)
      show Value.bool true = Value.bool _
      rw [begins_eq, decide_eq_true c9, decide_eq_true c16]; rfl
    · refine DL.y rfl rfl (Y.pickT rfl) ?_
      refine DL.y rfl rfl (Y.assign) ?_
      refine DL.nil ?_
      show DC _ _ _ _ _ _
      refine DC.ret ?_
      refine FinQ.ret1 rfl (Ret.mk FR ?_)
      show Value.bool false = Value.bool _
      rw [begins_eq, decide_eq_true c9, decide_eq_false c16]; rfl
  · refine DL.y rfl rfl (Y.move) ?_
    refine DL.skip rfl rfl ?_
    refine DL.skip rfl rfl ?_
    refine DL.skip rfl rfl ?_
    refine DL.skip rfl rfl ?_
    refine DL.skip rfl rfl ?_
    refine DL.skip rfl rfl ?_
    refine DL.y rfl rfl (Y.pickF rfl) ?_
    refine DL.y rfl rfl (Y.assign) ?_
    refine DL.nil ?_
    show DC _ _ _ _ _ _
    refine DC.ret ?_
    refine FinQ.ret1 rfl (Ret.mk FR ?_)
    show Value.bool false = Value.bool _
    rw [begins_eq, decide_eq_false c9]; rfl

theorem ends_any (s t : ByteArray) (hs : s.size ≤ 140737488351232) (ht : t.size ≤ 140737488351232) (w : World) : Calls Tryd.prog 34 #[.string s, .string t] w (Ret w [] fun v _ => v = .bool (Lib.hasSuffix s.data.toList t.data.toList)) := by
  refine calls_of Tryd.func34 rfl rfl rfl rfl ?_
  have FR := Fr.refl [] w
  refine DC.seq ?_
  refine DC.region ?_
  refine DL.y rfl rfl (Y.assign) ?_
  refine DL.nil ?_
  show DC _ _ _ _ _ _
  refine DC.seq ?_
  refine DC.region ?_
  refine DL.y rfl rfl (Y.move) ?_
  refine DL.y rfl rfl (Y.lenStr Tryd.underlying9 rfl) ?_
  refine DL.y rfl rfl (Y.move) ?_
  refine DL.y rfl rfl (Y.lenStr Tryd.underlying9 rfl) ?_
  refine DL.if rfl rfl (Y.ge rfl rfl) (fun c9 => ?_) (fun c9 => ?_)
  · refine DL.y rfl rfl (Y.move) ?_
    refine DL.y rfl rfl (Y.move) ?_
    refine DL.y rfl rfl (Y.move) ?_
    refine DL.y rfl rfl (Y.lenStr Tryd.underlying9 rfl) ?_
    refine DL.y rfl rfl (Y.move) ?_
    refine DL.y rfl rfl (Y.lenStr Tryd.underlying9 rfl) ?_
    refine DL.y rfl rfl (Y.subI (c := (s.size : Int) - (t.size : Int)) rfl rfl (by omega) (by omega) (by omega)) ?_
    refine DL.y rfl rfl (Y.strL Tryd.underlying9 rfl rfl (by omega) (by omega)) ?_
    refine DL.y rfl rfl (Y.move) ?_
    refine DL.if rfl rfl (Y.seq rfl rfl) (fun c19 => ?_) (fun c19 => ?_)
    · refine DL.y rfl rfl (Y.pickT rfl) ?_
      refine DL.y rfl rfl (Y.assign) ?_
      refine DL.nil ?_
      show DC _ _ _ _ _ _
      refine DC.ret ?_
      refine FinQ.ret1 rfl (Ret.mk FR ?_)
      show Value.bool true = Value.bool _
      rw [ends_eq, decide_eq_true c9, decide_eq_true c19]; rfl
    · refine DL.y rfl rfl (Y.pickT rfl) ?_
      refine DL.y rfl rfl (Y.assign) ?_
      refine DL.nil ?_
      show DC _ _ _ _ _ _
      refine DC.ret ?_
      refine FinQ.ret1 rfl (Ret.mk FR ?_)
      show Value.bool false = Value.bool _
      rw [ends_eq, decide_eq_true c9, decide_eq_false c19]; rfl
  · refine DL.y rfl rfl (Y.move) ?_
    refine DL.skip rfl rfl ?_
    refine DL.skip rfl rfl ?_
    refine DL.skip rfl rfl ?_
    refine DL.skip rfl rfl ?_
    refine DL.skip rfl rfl ?_
    refine DL.skip rfl rfl ?_
    refine DL.skip rfl rfl ?_
    refine DL.skip rfl rfl ?_
    refine DL.skip rfl rfl ?_
    refine DL.y rfl rfl (Y.pickF rfl) ?_
    refine DL.y rfl rfl (Y.assign) ?_
    refine DL.nil ?_
    show DC _ _ _ _ _ _
    refine DC.ret ?_
    refine FinQ.ret1 rfl (Ret.mk FR ?_)
    show Value.bool false = Value.bool _
    rw [ends_eq, decide_eq_false c9]; rfl


theorem pre_le {s t : ByteArray} (h : Lib.hasPrefix s.data.toList t.data.toList = true) : t.size ≤ s.size := by
  rw [begins_eq] at h
  simp only [Bool.and_eq_true, decide_eq_true_eq] at h
  omega
theorem suf_le {s t : ByteArray} (h : Lib.hasSuffix s.data.toList t.data.toList = true) : t.size ≤ s.size := by
  rw [ends_eq] at h
  simp only [Bool.and_eq_true, decide_eq_true_eq] at h
  omega

theorem shortened_any (s t : ByteArray) (hs : s.size ≤ 140737488351232) (ht : t.size ≤ 140737488351232) (w : World) : Calls Tryd.prog 17 #[.string s, .string t, .bool true, .bool true] w (Ret w [] fun v _ => v = .string (trimS (trimP s t) t)) := by
  refine calls_of Tryd.func17 rfl rfl rfl rfl ?_
  have FR := Fr.refl [] w
  refine DC.seq ?_
  refine DC.region ?_
  refine DL.y rfl rfl (Y.assign) ?_
  refine DL.nil ?_
  show DC _ _ _ _ _ _
  refine DC.seq ?_
  refine DC.seq ?_
  refine DC.region ?_
  refine DL.y rfl rfl (Y.move) ?_
  refine DL.y rfl rfl (Y.move) ?_
  refine DL.y rfl rfl (Y.move) ?_
  refine DL.y rfl rfl (Y.move) ?_
  obtain ⟨r1, h1⟩ : ∃ r, Lib.hasPrefix s.data.toList t.data.toList = r := ⟨_, rfl⟩
  refine DL.call rfl rfl F.nm33 rfl (h1 ▸ begins_any _ _ hs ht _) ?_
  rintro _ w1 f2 rfl
  replace FR := FR.tr0 f2
  rcases Bool.eq_false_or_eq_true r1 with hr1 | hr1
  · subst hr1
    refine DL.y rfl rfl (Y.pickT rfl) ?_
    refine DL.nil ?_
    show DC _ _ _ _ _ _
    refine DC.condT rfl ?_
    refine DC.region ?_
    refine DL.y rfl rfl (Y.move) ?_
    refine DL.y rfl rfl (Y.move) ?_
    refine DL.y rfl rfl (Y.lenStr Tryd.underlying9 rfl) ?_
    have hle := pre_le h1
    refine DL.y rfl rfl (Y.strL Tryd.underlying9 rfl rfl (by omega) (by omega)) ?_
    refine DL.y rfl rfl (Y.assign) ?_
    refine DL.nil ?_
    show DC _ _ _ _ _ _
    refine DC.seq ?_
    refine DC.seq ?_
    refine DC.region ?_
    refine DL.y rfl rfl (Y.move) ?_
    refine DL.y rfl rfl (Y.move) ?_
    refine DL.y rfl rfl (Y.move) ?_
    refine DL.y rfl rfl (Y.move) ?_
    have e1 := trimP_yes s t h1
    have hs1 : (s.extract ((t.size : Int).toNat) s.size).size ≤ 140737488351232 := by rw [e1]; exact Nat.le_trans (trimP_size s t) hs
    obtain ⟨r2, h2⟩ : ∃ r, Lib.hasSuffix (s.extract ((t.size : Int).toNat) s.size).data.toList t.data.toList = r := ⟨_, rfl⟩
    refine DL.call rfl rfl F.nm34 rfl (h2 ▸ ends_any (s.extract ((t.size : Int).toNat) s.size) _ hs1 ht _) ?_
    rintro _ w3 f4 rfl
    replace FR := FR.tr0 f4
    rcases Bool.eq_false_or_eq_true r2 with hr2 | hr2
    · subst hr2
      refine DL.y rfl rfl (Y.pickT rfl) ?_
      refine DL.nil ?_
      show DC _ _ _ _ _ _
      refine DC.condT rfl ?_
      refine DC.region ?_
      refine DL.y rfl rfl (Y.move) ?_
      refine DL.y rfl rfl (Y.move) ?_
      refine DL.y rfl rfl (Y.lenStr Tryd.underlying9 rfl) ?_
      refine DL.y rfl rfl (Y.move) ?_
      refine DL.y rfl rfl (Y.lenStr Tryd.underlying9 rfl) ?_
      have hle2 := suf_le h2
      refine DL.y rfl rfl (Y.subI (c := ((s.extract ((t.size : Int).toNat) s.size).size : Int) - (t.size : Int)) rfl rfl (by omega) (by omega) (by omega)) ?_
      refine DL.y rfl rfl (Y.strH Tryd.underlying9 rfl rfl (by omega) (by omega)) ?_
      refine DL.y rfl rfl (Y.assign) ?_
      refine DL.nil ?_
      show DC _ _ _ _ _ _
      refine DC.seq ?_
      refine DC.region ?_
      refine DL.y rfl rfl (Y.move) ?_
      refine DL.y rfl rfl (Y.assign) ?_
      refine DL.nil ?_
      show DC _ _ _ _ _ _
      refine DC.ret ?_
      refine FinQ.ret1 rfl (Ret.mk FR ?_)
      have e2 := trimS_yes (s.extract ((t.size : Int).toNat) s.size) t h2
      exact congrArg Value.string (e2.trans (congrArg (trimS · t) e1))
    · subst hr2
      refine DL.y rfl rfl (Y.pickT rfl) ?_
      refine DL.nil ?_
      show DC _ _ _ _ _ _
      refine DC.condF rfl ?_
      refine DC.skip ?_
      show DC _ _ _ _ _ _
      refine DC.seq ?_
      refine DC.region ?_
      refine DL.y rfl rfl (Y.move) ?_
      refine DL.y rfl rfl (Y.assign) ?_
      refine DL.nil ?_
      show DC _ _ _ _ _ _
      refine DC.ret ?_
      refine FinQ.ret1 rfl (Ret.mk FR ?_)
      have e2 := trimS_no (s.extract ((t.size : Int).toNat) s.size) t h2
      exact congrArg Value.string (e2.trans (congrArg (trimS · t) e1))
  · subst hr1
    refine DL.y rfl rfl (Y.pickT rfl) ?_
    refine DL.nil ?_
    show DC _ _ _ _ _ _
    refine DC.condF rfl ?_
    refine DC.skip ?_
    show DC _ _ _ _ _ _
    refine DC.seq ?_
    refine DC.seq ?_
    refine DC.region ?_
    refine DL.y rfl rfl (Y.move) ?_
    refine DL.y rfl rfl (Y.move) ?_
    refine DL.y rfl rfl (Y.move) ?_
    refine DL.y rfl rfl (Y.move) ?_
    have e1 := trimP_no s t h1
    have hs1 : s.size ≤ 140737488351232 := by rw [e1]; exact Nat.le_trans (trimP_size s t) hs
    obtain ⟨r2, h2⟩ : ∃ r, Lib.hasSuffix s.data.toList t.data.toList = r := ⟨_, rfl⟩
    refine DL.call rfl rfl F.nm34 rfl (h2 ▸ ends_any s _ hs1 ht _) ?_
    rintro _ w5 f6 rfl
    replace FR := FR.tr0 f6
    rcases Bool.eq_false_or_eq_true r2 with hr2 | hr2
    · subst hr2
      refine DL.y rfl rfl (Y.pickT rfl) ?_
      refine DL.nil ?_
      show DC _ _ _ _ _ _
      refine DC.condT rfl ?_
      refine DC.region ?_
      refine DL.y rfl rfl (Y.move) ?_
      refine DL.y rfl rfl (Y.move) ?_
      refine DL.y rfl rfl (Y.lenStr Tryd.underlying9 rfl) ?_
      refine DL.y rfl rfl (Y.move) ?_
      refine DL.y rfl rfl (Y.lenStr Tryd.underlying9 rfl) ?_
      have hle2 := suf_le h2
      refine DL.y rfl rfl (Y.subI (c := (s.size : Int) - (t.size : Int)) rfl rfl (by omega) (by omega) (by omega)) ?_
      refine DL.y rfl rfl (Y.strH Tryd.underlying9 rfl rfl (by omega) (by omega)) ?_
      refine DL.y rfl rfl (Y.assign) ?_
      refine DL.nil ?_
      show DC _ _ _ _ _ _
      refine DC.seq ?_
      refine DC.region ?_
      refine DL.y rfl rfl (Y.move) ?_
      refine DL.y rfl rfl (Y.assign) ?_
      refine DL.nil ?_
      show DC _ _ _ _ _ _
      refine DC.ret ?_
      refine FinQ.ret1 rfl (Ret.mk FR ?_)
      have e2 := trimS_yes s t h2
      exact congrArg Value.string (e2.trans (congrArg (trimS · t) e1))
    · subst hr2
      refine DL.y rfl rfl (Y.pickT rfl) ?_
      refine DL.nil ?_
      show DC _ _ _ _ _ _
      refine DC.condF rfl ?_
      refine DC.skip ?_
      show DC _ _ _ _ _ _
      refine DC.seq ?_
      refine DC.region ?_
      refine DL.y rfl rfl (Y.move) ?_
      refine DL.y rfl rfl (Y.assign) ?_
      refine DL.nil ?_
      show DC _ _ _ _ _ _
      refine DC.ret ?_
      refine FinQ.ret1 rfl (Ret.mk FR ?_)
      have e2 := trimS_no s t h2
      exact congrArg Value.string (e2.trans (congrArg (trimS · t) e1))

theorem funcTrim_any (s t : ByteArray) (hs : s.size ≤ 140737488351232) (ht : t.size ≤ 140737488351232) (w : World) : Calls Tryd.prog 47 #[.iface 9 (.string s), .iface 9 (.string t)] w (Ret w [] fun v _ => v = .iface 9 (.string (trimS (trimP s t) t))) := by
  refine calls_of Tryd.func47 rfl rfl rfl rfl ?_
  have FR := Fr.refl [] w
  refine DC.seq ?_
  refine DC.region ?_
  refine DL.y rfl rfl (Y.assign) ?_
  refine DL.nil ?_
  show DC _ _ _ _ _ _
  refine DC.seq ?_
  refine DC.region ?_
  refine DL.y rfl rfl (Y.move) ?_
  refine DL.y rfl rfl (Y.asYes F.if9 rfl) ?_
  refine DL.y rfl rfl (Y.move) ?_
  refine DL.y rfl rfl (Y.extract rfl rfl) ?_
  refine DL.y rfl rfl (Y.extract rfl rfl) ?_
  refine DL.y rfl rfl (Y.assign) ?_
  refine DL.y rfl rfl (Y.assign) ?_
  refine DL.nil ?_
  show DC _ _ _ _ _ _
  refine DC.seq ?_
  refine DC.seq ?_
  refine DC.region ?_
  refine DL.y rfl rfl (Y.move) ?_
  refine DL.y rfl rfl (Y.not rfl) ?_
  refine DL.nil ?_
  show DC _ _ _ _ _ _
  refine DC.condF rfl ?_
  refine DC.skip ?_
  show DC _ _ _ _ _ _
  refine DC.seq ?_
  refine DC.region ?_
  refine DL.y rfl rfl (Y.move) ?_
  refine DL.y rfl rfl (Y.asYes F.if9 rfl) ?_
  refine DL.y rfl rfl (Y.move) ?_
  refine DL.y rfl rfl (Y.extract rfl rfl) ?_
  refine DL.y rfl rfl (Y.extract rfl rfl) ?_
  refine DL.y rfl rfl (Y.assign) ?_
  refine DL.y rfl rfl (Y.assign) ?_
  refine DL.nil ?_
  show DC _ _ _ _ _ _
  refine DC.seq ?_
  refine DC.seq ?_
  refine DC.region ?_
  refine DL.y rfl rfl (Y.move) ?_
  refine DL.y rfl rfl (Y.not rfl) ?_
  refine DL.nil ?_
  show DC _ _ _ _ _ _
  refine DC.condF rfl ?_
  refine DC.skip ?_
  show DC _ _ _ _ _ _
  refine DC.seq ?_
  refine DC.region ?_
  refine DL.y rfl rfl (Y.move) ?_
  refine DL.y rfl rfl (Y.move) ?_
  refine DL.call rfl rfl F.nm59 rfl (trimP_any _ _ _) ?_
  rintro _ w1 f2 rfl
  replace FR := FR.tr0 f2
  refine DL.y rfl rfl (Y.move) ?_
  refine DL.call rfl rfl F.nm58 rfl (trimS_any _ _ _ (by have := trimP_size s t; omega)) ?_
  rintro _ w3 f4 rfl
  replace FR := FR.tr0 f4
  refine DL.y rfl rfl (Y.mkI F.if9) ?_
  refine DL.y rfl rfl (Y.assign) ?_
  refine DL.nil ?_
  show DC _ _ _ _ _ _
  refine DC.ret ?_
  exact FinQ.ret1 rfl (Ret.mk FR rfl)

theorem zzTrim_any (s t : ByteArray) (hs : s.size ≤ 140737488351232) (ht : t.size ≤ 140737488351232) (w : World) : Calls Tryd.prog 32 #[.iface 9 (.string s), .iface 9 (.string t)] w (Ret w [] fun v _ => v = .iface 9 (.string (trimS (trimP s t) t))) := by
  refine calls_of Tryd.func32 rfl rfl rfl rfl ?_
  have FR := Fr.refl [] w
  refine DC.seq ?_
  refine DC.region ?_
  refine DL.y rfl rfl (Y.assign) ?_
  refine DL.nil ?_
  show DC _ _ _ _ _ _
  refine DC.seq ?_
  refine DC.region ?_
  refine DL.y rfl rfl (Y.move) ?_
  refine DL.y rfl rfl (Y.move) ?_
  refine DL.call rfl rfl F.nm47 rfl (funcTrim_any _ _ hs ht _) ?_
  rintro _ w1 f2 rfl
  replace FR := FR.tr0 f2
  refine DL.y rfl rfl (Y.assign) ?_
  refine DL.nil ?_
  show DC _ _ _ _ _ _
  refine DC.ret ?_
  exact FinQ.ret1 rfl (Ret.mk FR rfl)

theorem TrimStr_any (s t : ByteArray) (hs : s.size ≤ 140737488351232) (ht : t.size ≤ 140737488351232) (w : World) : Calls Tryd.prog 16 #[.agg (strC s), .agg (strC t)] w (Ret w [] fun v _ => v = .agg (strR (trimS (trimP s t) t))) := by
  refine calls_of Tryd.func16 rfl rfl rfl rfl ?_
  have FR := Fr.refl [] w
  refine DC.seq ?_
  refine DC.region ?_
  refine DL.boxA rfl rfl rfl ?_
  intro b2 w1 f2 lo2 hi2 hb2
  replace lo2 := Nat.le_trans FR.size lo2
  replace FR := FR.tr0 f2
  refine DL.boxA rfl rfl rfl ?_
  intro b3 w3 f4 lo3 hi3 hb3
  have lt_b2_b3 : b2 < b3 := Nat.lt_of_lt_of_le hi2 lo3
  replace lo3 := Nat.le_trans FR.size lo3
  replace FR := FR.tr0 f4
  replace hb2 := f4.blk0 hb2
  replace hi2 := Nat.lt_of_lt_of_le hi2 f4.size
  refine DL.alloc rfl rfl F.z34 rfl ?_
  intro b4 w5 f6 lo4 hi4 hb4
  have lt_b2_b4 : b2 < b4 := Nat.lt_of_lt_of_le hi2 lo4
  have lt_b3_b4 : b3 < b4 := Nat.lt_of_lt_of_le hi3 lo4
  replace lo4 := Nat.le_trans FR.size lo4
  replace FR := FR.tr0 f6
  replace hb2 := f6.blk0 hb2
  replace hi2 := Nat.lt_of_lt_of_le hi2 f6.size
  replace hb3 := f6.blk0 hb3
  replace hi3 := Nat.lt_of_lt_of_le hi3 f6.size
  refine DL.nil ?_
  show DC _ _ _ _ _ _
  refine DC.seq ?_
  refine DC.region ?_
  refine DL.y rfl rfl (Y.loadW rfl hb2 F.ag26) ?_
  refine DL.call rfl rfl F.nm24 rfl (toGo_txt _ _) ?_
  rintro _ w7 f8 rfl
  replace FR := FR.tr0 f8
  replace hb2 := f8.blk0 hb2
  replace hi2 := Nat.lt_of_lt_of_le hi2 f8.size
  replace hb3 := f8.blk0 hb3
  replace hi3 := Nat.lt_of_lt_of_le hi3 f8.size
  replace hb4 := f8.blk0 hb4
  replace hi4 := Nat.lt_of_lt_of_le hi4 f8.size
  refine DL.y rfl rfl (Y.move) ?_
  refine DL.y rfl rfl (Y.extract rfl rfl) ?_
  refine DL.y rfl rfl (Y.extract rfl rfl) ?_
  refine DL.y rfl rfl (Y.assign) ?_
  refine DL.y rfl rfl (Y.assign) ?_
  refine DL.nil ?_
  show DC _ _ _ _ _ _
  refine DC.seq ?_
  refine DC.region ?_
  refine DL.y rfl rfl (Y.loadW rfl hb3 F.ag26) ?_
  refine DL.call rfl rfl F.nm24 rfl (toGo_txt _ _) ?_
  rintro _ w9 f10 rfl
  replace FR := FR.tr0 f10
  replace hb2 := f10.blk0 hb2
  replace hi2 := Nat.lt_of_lt_of_le hi2 f10.size
  replace hb3 := f10.blk0 hb3
  replace hi3 := Nat.lt_of_lt_of_le hi3 f10.size
  replace hb4 := f10.blk0 hb4
  replace hi4 := Nat.lt_of_lt_of_le hi4 f10.size
  refine DL.y rfl rfl (Y.move) ?_
  refine DL.y rfl rfl (Y.extract rfl rfl) ?_
  refine DL.y rfl rfl (Y.extract rfl rfl) ?_
  refine DL.y rfl rfl (Y.assign) ?_
  refine DL.y rfl rfl (Y.assign) ?_
  refine DL.nil ?_
  show DC _ _ _ _ _ _
  refine DC.seq ?_
  refine DC.seq ?_
  refine DC.region ?_
  refine DL.y rfl rfl (Y.move) ?_
  refine DL.y rfl rfl (Y.not rfl) ?_
  refine DL.y rfl rfl (Y.move) ?_
  refine DL.y rfl rfl (Y.move) ?_
  refine DL.y rfl rfl (Y.not rfl) ?_
  refine DL.y rfl rfl (Y.pickF rfl) ?_
  refine DL.nil ?_
  show DC _ _ _ _ _ _
  refine DC.condF rfl ?_
  refine DC.skip ?_
  show DC _ _ _ _ _ _
  refine DC.seq ?_
  refine DC.region ?_
  refine DL.y rfl rfl (Y.move) ?_
  refine DL.y rfl rfl (Y.move) ?_
  refine DL.call rfl rfl F.nm32 rfl (zzTrim_any _ _ hs ht _) ?_
  rintro _ w11 f12 rfl
  replace FR := FR.tr0 f12
  replace hb2 := f12.blk0 hb2
  replace hi2 := Nat.lt_of_lt_of_le hi2 f12.size
  replace hb3 := f12.blk0 hb3
  replace hi3 := Nat.lt_of_lt_of_le hi3 f12.size
  replace hb4 := f12.blk0 hb4
  replace hi4 := Nat.lt_of_lt_of_le hi4 f12.size
  refine DL.call rfl rfl F.nm28 rfl (result_txt _ _) ?_
  rintro _ w13 f14 rfl
  replace FR := FR.tr0 f14
  replace hb2 := f14.blk0 hb2
  replace hi2 := Nat.lt_of_lt_of_le hi2 f14.size
  replace hb3 := f14.blk0 hb3
  replace hi3 := Nat.lt_of_lt_of_le hi3 f14.size
  replace hb4 := f14.blk0 hb4
  replace hi4 := Nat.lt_of_lt_of_le hi4 f14.size
  refine DL.storeA rfl F.ag34 rfl rfl rfl (by kernel_rfl) hb4 rfl ?_
  intro w15 f16 hs17 hb4'
  replace FR := FR.put f16 (by intro i hi; simp only [List.mem_cons, List.mem_singleton, List.not_mem_nil, or_false] at hi; rcases hi with rfl; all_goals (first | (left; simp; done) | (right; omega)))
  replace hb2 := f16.blk hb2 (by simp only [List.mem_cons, List.not_mem_nil, or_false, not_or]; omega)
  replace hi2 := Nat.lt_of_lt_of_le hi2 f16.size
  replace hb3 := f16.blk hb3 (by simp only [List.mem_cons, List.not_mem_nil, or_false, not_or]; omega)
  replace hi3 := Nat.lt_of_lt_of_le hi3 f16.size
  replace hi4 := Nat.lt_of_lt_of_le hi4 f16.size
  replace hb4 := hb4'
  refine DL.nil ?_
  show DC _ _ _ _ _ _
  refine DC.ret ?_
  exact FinQ.retC rfl (cs := strR (trimS (trimP s t) t)) F.ag34 (.ofBlk hb4) (Ret.mk FR rfl)

theorem two_any (s t : ByteArray) (hs : s.size ≤ 140737488351232) (ht : t.size ≤ 140737488351232) (w : World) (hT : Tabs w) : Calls Tryd.prog 14 #[.string s, .string t] w (Ret w [] fun v _ => ∃ r, v = .bool r) := by
  refine calls_of Tryd.func14 rfl rfl rfl rfl ?_
  have FR := Fr.refl [] w
  refine DC.seq ?_
  refine DC.region ?_
  refine DL.y rfl rfl (Y.assign) ?_
  refine DL.nil ?_
  show DC _ _ _ _ _ _
  refine DC.seq ?_
  refine DC.region ?_
  refine DL.y rfl rfl (Y.move) ?_
  refine DL.y rfl rfl (Y.lenStr Tryd.underlying9 rfl) ?_
  refine DL.y rfl rfl (Y.move) ?_
  refine DL.y rfl rfl (Y.lenStr Tryd.underlying9 rfl) ?_
  refine DL.y rfl rfl (Y.addI rfl rfl (rfl) (by omega) (by omega)) ?_
  refine DL.if rfl rfl (Y.le rfl rfl) (fun c10 => ?_) (fun c10 => ?_)
  · refine DL.y rfl rfl (Y.move) ?_
    refine DL.y rfl rfl (Y.move) ?_
    obtain ⟨r1, h1⟩ : ∃ r, Lib.validD s.data.toList = r := ⟨_, rfl⟩
    refine DL.call rfl rfl F.nm30 rfl (h1 ▸ valid_any s _ (by omega) hT) ?_
    rintro _ w1 f2 rfl
    replace FR := FR.tr0 f2
    replace hT := hT.fr f2 (by intro x hx; simp <;> omega)
    rcases Bool.eq_false_or_eq_true r1 with hr1 | hr1
    · subst hr1
      refine DL.y rfl rfl (Y.pickT rfl) ?_
      refine DL.y rfl rfl (Y.move) ?_
      refine DL.y rfl rfl (Y.move) ?_
      obtain ⟨r2, h2⟩ : ∃ r, Lib.validD t.data.toList = r := ⟨_, rfl⟩
      refine DL.call rfl rfl F.nm30 rfl (h2 ▸ valid_any t _ (by omega) hT) ?_
      rintro _ w3 f4 rfl
      replace FR := FR.tr0 f4
      replace hT := hT.fr f4 (by intro x hx; simp <;> omega)
      rcases Bool.eq_false_or_eq_true r2 with hr2 | hr2
      · subst hr2
        refine DL.y rfl rfl (Y.pickT rfl) ?_
        refine DL.y rfl rfl (Y.assign) ?_
        refine DL.nil ?_
        show DC _ _ _ _ _ _
        refine DC.ret ?_
        exact FinQ.ret1 rfl (Ret.mk FR ⟨true, rfl⟩)
      · subst hr2
        refine DL.y rfl rfl (Y.pickT rfl) ?_
        refine DL.y rfl rfl (Y.assign) ?_
        refine DL.nil ?_
        show DC _ _ _ _ _ _
        refine DC.ret ?_
        exact FinQ.ret1 rfl (Ret.mk FR ⟨false, rfl⟩)
    · subst hr1
      refine DL.y rfl rfl (Y.pickT rfl) ?_
      refine DL.y rfl rfl (Y.move) ?_
      refine DL.skip rfl rfl ?_
      refine DL.skip rfl rfl ?_
      refine DL.y rfl rfl (Y.pickF rfl) ?_
      refine DL.y rfl rfl (Y.assign) ?_
      refine DL.nil ?_
      show DC _ _ _ _ _ _
      refine DC.ret ?_
      exact FinQ.ret1 rfl (Ret.mk FR ⟨false, rfl⟩)
  · refine DL.y rfl rfl (Y.move) ?_
    refine DL.skip rfl rfl ?_
    refine DL.skip rfl rfl ?_
    refine DL.y rfl rfl (Y.pickF rfl) ?_
    refine DL.y rfl rfl (Y.move) ?_
    refine DL.skip rfl rfl ?_
    refine DL.skip rfl rfl ?_
    refine DL.y rfl rfl (Y.pickF rfl) ?_
    refine DL.y rfl rfl (Y.assign) ?_
    refine DL.nil ?_
    show DC _ _ _ _ _ _
    refine DC.ret ?_
    exact FinQ.ret1 rfl (Ret.mk FR ⟨false, rfl⟩)

theorem law_any (s t : ByteArray) (hs : s.size ≤ 140737488351232) (ht : t.size ≤ 140737488351232) (w : World) (hT : Tabs w) : Calls Tryd.prog 5 #[.string s, .string t] w (Ret w [] fun v _ => v = .bool true) := by
  refine calls_of Tryd.func5 rfl rfl rfl rfl ?_
  have FR := Fr.refl [] w
  refine DC.seq ?_
  refine DC.region ?_
  refine DL.y rfl rfl (Y.assign) ?_
  refine DL.nil ?_
  show DC _ _ _ _ _ _
  refine DC.seq ?_
  refine DC.seq ?_
  refine DC.region ?_
  refine DL.y rfl rfl (Y.move) ?_
  refine DL.y rfl rfl (Y.lenStr Tryd.underlying9 rfl) ?_
  refine DL.if rfl rfl (Y.gt rfl rfl) (fun c7 => ?_) (fun c7 => ?_)
  · refine DL.y rfl rfl (Y.move) ?_
    refine DL.skip rfl rfl ?_
    refine DL.skip rfl rfl ?_
    refine DL.skip rfl rfl ?_
    refine DL.y rfl rfl (Y.pickT rfl) ?_
    refine DL.nil ?_
    show DC _ _ _ _ _ _
    refine DC.condT rfl ?_
    refine DC.seq ?_
    refine DC.region ?_
    refine DL.y rfl rfl (Y.assign) ?_
    refine DL.nil ?_
    show DC _ _ _ _ _ _
    refine DC.ret ?_
    exact FinQ.ret1 rfl (Ret.mk FR rfl)
  · refine DL.y rfl rfl (Y.move) ?_
    refine DL.y rfl rfl (Y.move) ?_
    refine DL.y rfl rfl (Y.lenStr Tryd.underlying9 rfl) ?_
    refine DL.if rfl rfl (Y.gt rfl rfl) (fun c11 => ?_) (fun c11 => ?_)
    · refine DL.y rfl rfl (Y.pickF rfl) ?_
      refine DL.nil ?_
      show DC _ _ _ _ _ _
      refine DC.condT rfl ?_
      refine DC.seq ?_
      refine DC.region ?_
      refine DL.y rfl rfl (Y.assign) ?_
      refine DL.nil ?_
      show DC _ _ _ _ _ _
      refine DC.ret ?_
      exact FinQ.ret1 rfl (Ret.mk FR rfl)
    · refine DL.y rfl rfl (Y.pickF rfl) ?_
      refine DL.nil ?_
      show DC _ _ _ _ _ _
      refine DC.condF rfl ?_
      refine DC.skip ?_
      show DC _ _ _ _ _ _
      refine DC.seq ?_
      refine DC.region ?_
      refine DL.y rfl rfl (Y.move) ?_
      refine DL.y rfl rfl (Y.move) ?_
      refine DL.call rfl rfl F.nm14 rfl (two_any _ _ hs ht _ hT) ?_
      rintro _ w1 f2 ⟨r, rfl⟩
      replace FR := FR.tr0 f2
      replace hT := hT.fr f2 (by intro x hx; simp <;> omega)
      rcases Bool.eq_false_or_eq_true r with hr | hr
      · subst hr
        refine DL.y rfl rfl (Y.not rfl) ?_
        refine DL.y rfl rfl (Y.move) ?_
        refine DL.y rfl rfl (Y.move) ?_
        refine DL.call rfl rfl F.nm10 rfl (Str_any _ _) ?_
        rintro _ w3 f4 rfl
        replace FR := FR.tr0 f4
        replace hT := hT.fr f4 (by intro x hx; simp <;> omega)
        refine DL.y rfl rfl (Y.move) ?_
        refine DL.call rfl rfl F.nm10 rfl (Str_any _ _) ?_
        rintro _ w5 f6 rfl
        replace FR := FR.tr0 f6
        replace hT := hT.fr f6 (by intro x hx; simp <;> omega)
        refine DL.call rfl rfl F.nm16 rfl (TrimStr_any _ _ hs ht _) ?_
        rintro _ w7 f8 rfl
        replace FR := FR.tr0 f8
        replace hT := hT.fr f8 (by intro x hx; simp <;> omega)
        refine DL.y rfl rfl (Y.move) ?_
        refine DL.y rfl rfl (Y.move) ?_
        refine DL.call rfl rfl F.nm17 rfl (shortened_any _ _ hs ht _) ?_
        rintro _ w9 f10 rfl
        replace FR := FR.tr0 f10
        replace hT := hT.fr f10 (by intro x hx; simp <;> omega)
        refine DL.call rfl rfl F.nm10 rfl (Str_any _ _) ?_
        rintro _ w11 f12 rfl
        replace FR := FR.tr0 f12
        replace hT := hT.fr f12 (by intro x hx; simp <;> omega)
        have hz : (trimS (trimP s t) t).size ≤ 140737488351232 := Nat.le_trans (trimS_size _ _) (Nat.le_trans (trimP_size _ _) hs)
        refine DL.call rfl rfl F.nm15 rfl (says_any _ _ _ _ _ _ _ _ 0 _ (strRV _ 0 _ hz) (strRV _ 0 _ hz)) ?_
        rintro _ w13 f14 rfl
        replace FR := FR.tr0 f14
        replace hT := hT.fr f14 (by intro x hx; simp <;> omega)
        refine DL.y rfl rfl (Y.pickF rfl) ?_
        refine DL.y rfl rfl (Y.assign) ?_
        refine DL.nil ?_
        show DC _ _ _ _ _ _
        refine DC.ret ?_
        exact FinQ.ret1 rfl (Ret.mk FR rfl)
      · subst hr
        refine DL.y rfl rfl (Y.not rfl) ?_
        refine DL.y rfl rfl (Y.move) ?_
        refine DL.skip rfl rfl ?_
        refine DL.skip rfl rfl ?_
        refine DL.skip rfl rfl ?_
        refine DL.skip rfl rfl ?_
        refine DL.skip rfl rfl ?_
        refine DL.skip rfl rfl ?_
        refine DL.skip rfl rfl ?_
        refine DL.skip rfl rfl ?_
        refine DL.skip rfl rfl ?_
        refine DL.skip rfl rfl ?_
        refine DL.y rfl rfl (Y.pickT rfl) ?_
        refine DL.y rfl rfl (Y.assign) ?_
        refine DL.nil ?_
        show DC _ _ _ _ _ _
        refine DC.ret ?_
        exact FinQ.ret1 rfl (Ret.mk FR rfl)

end Go.Proofs.YtmbleojlnaofjaaDoor
