/- Own texts, merged: Uri2. -/
import Derived.Test.YtmbleojlnaofjaaGreatDoorMu06
/- The walk of net/url's escape. -/
namespace Go.Proofs.YtmbleojlnaofjaaGreatDoor
open Go Go.RowKit D Go.Deep
set_option linter.unusedVariables false
set_option linter.unusedSimpArgs false


/-! ### The table of net/url, and what its escape makes of bytes -/
def utab : List Nat := [0, 0, 0, 0, 0, 0, 0, 0, 0, 0, 0, 0, 0, 0, 0, 0, 0, 0, 0, 0, 0, 0, 0, 0, 0, 0, 0, 0, 0, 0, 0, 0, 0, 76, 12, 0, 95, 0, 95, 12, 76, 76, 76, 95, 93, 127, 127, 65, 255, 255, 255, 255, 255, 255, 255, 255, 255, 255, 79, 93, 12, 95, 12, 64, 67, 255, 255, 255, 255, 255, 255, 127, 127, 127, 127, 127, 127, 127, 127, 127, 127, 127, 127, 127, 127, 127, 127, 127, 127, 127, 127, 12, 0, 12, 0, 127, 0, 255, 255, 255, 255, 255, 255, 127, 127, 127, 127, 127, 127, 127, 127, 127, 127, 127, 127, 127, 127, 127, 127, 127, 127, 127, 127, 0, 0, 0, 127, 0, 0, 0, 0, 0, 0, 0, 0, 0, 0, 0, 0, 0, 0, 0, 0, 0, 0, 0, 0, 0, 0, 0, 0, 0, 0, 0, 0, 0, 0, 0, 0, 0, 0, 0, 0, 0, 0, 0, 0, 0, 0, 0, 0, 0, 0, 0, 0, 0, 0, 0, 0, 0, 0, 0, 0, 0, 0, 0, 0, 0, 0, 0, 0, 0, 0, 0, 0, 0, 0, 0, 0, 0, 0, 0, 0, 0, 0, 0, 0, 0, 0, 0, 0, 0, 0, 0, 0, 0, 0, 0, 0, 0, 0, 0, 0, 0, 0, 0, 0, 0, 0, 0, 0, 0, 0, 0, 0, 0, 0, 0, 0, 0, 0, 0, 0, 0, 0, 0, 0, 0, 0, 0, 0, 0, 0, 0, 0, 0]
def TabU (w : World) : Prop := ∀ i, i < 256 → w.cell? ⟨3, 0 + i * 1, none⟩ = some (.int .u8 ((utab.getD i 0 : Nat) : Int))
theorem TabU.fr {S : List Nat} {w w' : World} (h : TabU w) (f : Fr S w w') (hs : 3 ∉ S) : TabU w' := fun i hi => f.cell (h i hi) hs
theorem utab_free : ∀ c : Fin 256, ((utab.getD c.val 0 &&& 32) == 0) = !freeB c.val := by decide +kernel
theorem utab_lt : ∀ c : Fin 256, utab.getD c.val 0 < 256 := by decide +kernel
theorem and32 (a : Nat) : IntKind.u8.wrap ((a &&& 32 : Nat) : Int) = ((a &&& 32 : Nat) : Int) := by
 have : a &&& 32 ≤ 32 := Nat.and_le_right
 exact wrap_u8 (by omega)
theorem arr256 : arrayT Tryz.prog 184 153 256 1 = true := by kernel_rfl
theorem arr64u : arrayT Tryz.prog 162 5 64 1 = true := by kernel_rfl
theorem elu8 : elemT Tryz.prog 107 5 (.int .u8 0) 1 := ⟨Tryz.underlying107, by kernel_rfl⟩
theorem and15u (c : UInt8) : IntKind.u8.wrap ((c.toNat &&& 15 : Nat) : Int) = ((c.toNat % 16 : Nat) : Int) := by
 rw [show (15 : Nat) = 2 ^ 4 - 1 from rfl, Nat.and_two_pow_sub_one_eq_mod]
 exact wrap_u8 (by have := c.toNat_lt; omega)
theorem hexAt : ∀ d : Nat, d < 16 → (⟨#[48, 49, 50, 51, 52, 53, 54, 55, 56, 57, 65, 66, 67, 68, 69, 70]⟩ : ByteArray).data.toList[d]? = some (hexU d)
 | 0, _ => rfl
 | 1, _ => rfl
 | 2, _ => rfl
 | 3, _ => rfl
 | 4, _ => rfl
 | 5, _ => rfl
 | 6, _ => rfl
 | 7, _ => rfl
 | 8, _ => rfl
 | 9, _ => rfl
 | 10, _ => rfl
 | 11, _ => rfl
 | 12, _ => rfl
 | 13, _ => rfl
 | 14, _ => rfl
 | 15, _ => rfl
 | d + 16, h => by omega
def escQ (c : UInt8) : List UInt8 := if freeB c.toNat = true then [c] else if c = 32 then [43] else [37, hexU (c.toNat / 16), hexU (c.toNat % 16)]
def qlL (l : List UInt8) : List UInt8 := l.flatMap escQ
def qb (c : UInt8) : UInt8 := if c = 32 then 43 else c
def cS : List UInt8 → Nat
 | [] => 0
 | c :: l => (if freeB c.toNat = true then 0 else if c = 32 then 1 else 0) + cS l
def cH : List UInt8 → Nat
 | [] => 0
 | c :: l => (if freeB c.toNat = true then 0 else if c = 32 then 0 else 1) + cH l
theorem cS_app (a b : List UInt8) : cS (a ++ b) = cS a + cS b := by
 induction a with
 | nil => simp [cS]
 | cons c a ih => simp only [List.cons_append, cS, ih]; omega
theorem cH_app (a b : List UInt8) : cH (a ++ b) = cH a + cH b := by
 induction a with
 | nil => simp [cH]
 | cons c a ih => simp only [List.cons_append, cH, ih]; omega
theorem take_s {s : ByteArray} {i : Nat} (h : i < s.size) : s.data.toList.take (i + 1) = s.data.toList.take i ++ [s[i]] := by
 have hl : i < s.data.toList.length := by simpa using h
 rw [List.take_succ_eq_append_getElem hl]; rfl
theorem cS_succ {s : ByteArray} {i : Nat} (h : i < s.size) : cS (s.data.toList.take (i + 1)) = cS (s.data.toList.take i) + (if freeB s[i].toNat = true then 0 else if s[i] = 32 then 1 else 0) := by
 rw [take_s h, cS_app]; simp [cS]
theorem cH_succ {s : ByteArray} {i : Nat} (h : i < s.size) : cH (s.data.toList.take (i + 1)) = cH (s.data.toList.take i) + (if freeB s[i].toNat = true then 0 else if s[i] = 32 then 0 else 1) := by
 rw [take_s h, cH_app]; simp [cH]
theorem cS_le (l : List UInt8) : cS l ≤ l.length := by
 induction l with
 | nil => simp [cS]
 | cons c l ih => simp only [cS, List.length_cons]; split <;> first | omega | (split <;> omega)
theorem cH_le (l : List UInt8) : cH l ≤ l.length := by
 induction l with
 | nil => simp [cH]
 | cons c l ih => simp only [cH, List.length_cons]; split <;> first | omega | (split <;> omega)
theorem qlL_len (l : List UInt8) : (qlL l).length = l.length + 2 * cH l := by
 induction l with
 | nil => rfl
 | cons c l ih =>
  simp only [qlL, List.flatMap_cons, List.length_append, List.length_cons] at ih ⊢
  rw [ih]
  simp only [cH, escQ]
  split
  ·simp; omega
  split <;> simp <;> omega
theorem escQ_pos (c : UInt8) : 1 ≤ (escQ c).length := by
 unfold escQ; split
 ·simp
 split <;> simp
theorem escQ_three {c : UInt8} (h : freeB c.toNat = false) (h2 : ¬ c = 32) : (escQ c).length = 3 := by
 rw [escQ, h, if_neg (by decide), if_neg h2]; rfl
theorem qlL_app (a b : List UInt8) : qlL (a ++ b) = qlL a ++ qlL b := by simp [qlL]
theorem qlL_succ {s : ByteArray} {i : Nat} (h : i < s.size) : qlL (s.data.toList.take (i + 1)) = qlL (s.data.toList.take i) ++ escQ s[i] := by
 rw [take_s h, qlL_app]; simp [qlL]
theorem qlL_take_le (l : List UInt8) (i : Nat) : (qlL (l.take i)).length ≤ (qlL l).length := by
 have : (qlL l).length = (qlL (l.take i)).length + (qlL (l.drop i)).length := by rw [← List.length_append, ← qlL_app, List.take_append_drop]
 omega
/-- Nothing to escape: it stays. -/
theorem qlL_id : ∀ l : List UInt8, cS l = 0 → cH l = 0 → qlL l = l
 | [], _, _ => rfl
 | c :: l, h1, h2 => by
  simp only [cS] at h1
  simp only [cH] at h2
  have ih := qlL_id l (by omega) (by omega)
  simp only [qlL, List.flatMap_cons] at ih ⊢
  rw [ih, escQ]
  by_cases hf : freeB c.toNat = true
  ·rw [if_pos hf]; rfl
  ·rw [if_neg hf] at h1 h2
   by_cases h3 : c = 32
   ·rw [if_pos h3] at h1; omega
   ·rw [if_neg h3] at h2; omega
theorem free32 : freeB (32 : UInt8).toNat = false := by decide
/-- Only blanks to escape. -/
theorem qlL_plus : ∀ l : List UInt8, cH l = 0 → qlL l = l.map qb
 | [], _ => rfl
 | c :: l, h2 => by
  simp only [cH] at h2
  have ih := qlL_plus l (by omega)
  simp only [qlL, List.flatMap_cons, List.map_cons] at ih ⊢
  rw [ih, escQ, qb]
  by_cases hf : freeB c.toNat = true
  ·rw [if_pos hf, if_neg (fun h => by rw [h, free32] at hf; cases hf)]; rfl
  ·rw [if_neg hf] at h2 ⊢
   by_cases h3 : c = 32
   ·rw [if_pos h3, if_pos h3]; rfl
   ·rw [if_neg h3] at h2; omega
/-- The block's first cells hold l. -/
def Pre (cur : Array Value) (l : List UInt8) : Prop := ∀ q (h : q < l.length), cur[q]? = some (.int .u8 (l[q].toNat : Int))
theorem Pre.push {cur : Array Value} {l : List UInt8} {c : UInt8} {j : Nat} (h : Pre cur l) (hj : j = l.length) (hs : j < cur.size) : Pre (cur.setIfInBounds (0 + j * 1) (.int .u8 (c.toNat : Int))) (l ++ [c]) := by
 subst hj
 intro q hq
 rw [show 0 + l.length * 1 = l.length by omega]
 rw [List.length_append, List.length_singleton] at hq
 by_cases hl : q = l.length
 ·subst hl
  rw [Array.getElem?_setIfInBounds_self_of_lt hs, List.getElem_append_right (Nat.le_refl _)]; simp
 ·rw [Array.getElem?_setIfInBounds_ne (by omega), List.getElem_append_left (by omega)]
  exact h q (by omega)
theorem u8_int {c : UInt8} {n : Nat} (hn : n < 256) (h : (c.toNat : Int) = (n : Int)) : c = UInt8.ofNat n := by
 apply UInt8.toNat_inj.1
 rw [UInt8.toNat_ofNat_of_lt' (by simpa using hn)]; omega
theorem i32 {c : UInt8} (h : (c.toNat : Int) = 32) : c = 32 := u8_int (n := 32) (by decide) h
theorem n32 {c : UInt8} (h : ¬ (c.toNat : Int) = 32) : ¬ c = 32 := fun e => h (by rw [e]; rfl)

theorem should_any (c : UInt8) (w : World) (hU : TabU w) : Calls Tryz.prog 157 #[.int .u8 (c.toNat : Int), .int .u8 32] w (Ret w [] fun r _ => ∃ q, r = .bool q ∧ q = !freeB c.toNat) := by
 have hc := c.toNat_lt
 have hu := utab_free ⟨c.toNat, hc⟩
 have hl : utab.getD c.toNat 0 < 256 := utab_lt ⟨c.toNat, hc⟩
 refine calls_of Tryz.func157 rfl rfl rfl rfl ?_
 have FR := Fr.refl [] w
 refine DC.seq ?_
 refine DC.region ?_
 refine DL.y rfl rfl (Y.assign) ?_
 refine DL.nil ?_
 show DC _ _ _ _ _ _
 refine DC.seq ?_
 refine DC.region ?_
 refine DL.y rfl rfl (Y.move) ?_
 refine DL.y rfl rfl (Y.indexArr (i := c.toNat) arr256 rfl rfl rfl hc) ?_
 refine DL.y rfl rfl (Y.load F.sc153 rfl (hU c.toNat hc)) ?_
 refine DL.y rfl rfl (Y.move) ?_
 refine DL.y rfl rfl (Y.andN (k := .u8) (a := utab.getD c.toNat 0) (b := 32) rfl rfl hl (by decide) (and32 _)) ?_
 refine DL.if rfl rfl (Y.eq rfl rfl) (fun c10 => ?_) (fun c10 => ?_)
 ·refine DL.y rfl rfl (Y.assign) ?_
  refine DL.nil ?_
  show DC _ _ _ _ _ _
  refine DC.ret ?_
  refine FinQ.ret1 rfl (Ret.mk FR ⟨true, rfl, ?_⟩)
  rw [← hu]; exact (beq_iff_eq.2 (by show utab.getD c.toNat 0 &&& 32 = 0; omega)).symm
 ·refine DL.y rfl rfl (Y.assign) ?_
  refine DL.nil ?_
  show DC _ _ _ _ _ _
  refine DC.ret ?_
  refine FinQ.ret1 rfl (Ret.mk FR ⟨false, rfl, ?_⟩)
  rw [← hu]; exact (beq_eq_false_iff_ne.2 (fun h => c10 (by have h2 : utab.getD c.toNat 0 &&& 32 = 0 := h; rw [h2]; rfl))).symm

set_option maxHeartbeats 8000000 in
theorem escape_any (s : ByteArray) (hs : s.size ≤ 1000000) (w : World) (hU : TabU w) (h3 : 3 < w.heap.size) : Calls Tryz.prog 147 #[.string s, .int .u8 32] w (Ret w [] fun r _ => ∃ t : ByteArray, r = .string t ∧ t.data.toList = qlL s.data.toList) := by
 refine calls_of Tryz.func147 rfl rfl rfl rfl ?_
 have FR := Fr.refl [] w
 refine DC.seq ?_
 refine DC.region ?_
 refine DL.y rfl rfl (Y.assign) ?_
 refine DL.nil ?_
 show DC _ _ _ _ _ _
 refine DC.seq ?_
 refine DC.region ?_
 refine DL.y rfl rfl (Y.assign) ?_
 refine DL.y rfl rfl (Y.assign) ?_
 refine DL.nil ?_
 show DC _ _ _ _ _ _
 refine DC.seq ?_
 refine DC.seq ?_
 refine DC.region ?_
 refine DL.y rfl rfl (Y.move) ?_
 refine DL.bytesOf rfl rfl Tryz.underlying9 Tryz.underlying107 Tryz.underlying5 rfl ?_
 intro b17 w1 cap17 f2 lo17 hi17 hc17
 replace lo17 := Nat.le_trans FR.size lo17
 replace FR := FR.tr0 f2
 replace hU : TabU w1 := hU.fr f2 (by first | (simp; done) | (simp only [List.mem_cons, List.mem_singleton, List.not_mem_nil, or_false]; omega))
 refine DL.y rfl rfl (Y.lenS Tryz.underlying107 rfl) ?_
 refine DL.y rfl rfl (Y.move) ?_
 refine DL.nil ?_
 show DC _ _ _ _ _ _
 refine DC.block ?_
 refine DC.loopE (σ := Nat × Nat × Nat) [(5, 6), (8, 8), (19, 36)] [(0, .string s), (1, .int .u8 32), (17, .slice (some ⟨b17, 0, none⟩) s.size cap17), (18, .int .i64 (s.size : Int))] (fun (i, sp, h) => [(5, .int .i64 (sp : Int)), (6, .int .i64 (h : Int)), (19, .int .i64 (i : Int))]) (fun sg wl => Fr [] w1 wl ∧ (fun (i, sp, h) wl => i ≤ s.size ∧ sp = cS (s.data.toList.take i) ∧ h = cH (s.data.toList.take i)) sg wl) (fun (i, _, _) => s.size - i) ((0, 0, 0)) rfl ?_ ?_ ?_ ?_
 ·exact ⟨rfl, rfl, rfl, rfl⟩
 ·exact ⟨rfl, rfl, rfl⟩
 ·exact ⟨Fr.refl _ _, Nat.zero_le _, rfl, rfl⟩
 ·rintro e0 ⟨i, sp, h⟩ j w3 ⟨f4, hi0, hsp, hh⟩
  replace FR := FR.tr0 f4
  replace hU : TabU w3 := hU.fr f4 (by first | (simp; done) | (simp only [List.mem_cons, List.mem_singleton, List.not_mem_nil, or_false]; omega))
  replace hi17 := Nat.lt_of_lt_of_le hi17 f4.size
  replace hc17 := fun i hi => Fr.cell f4 (hc17 i hi) (by first | (simp; done) | (simp only [List.mem_cons, List.mem_singleton, List.not_mem_nil, or_false]; omega))
  have G5 := f4
  have HG5 := Fr.refl [] w3
  have hsl := cS_le (s.data.toList.take i)
  have hhl := cH_le (s.data.toList.take i)
  have htl : (s.data.toList.take i).length ≤ s.size := by rw [List.length_take, ← size_list]; omega
  refine DC.seq ?_
  refine DC.region ?_
  refine DL.if rfl rfl (Y.lt rfl rfl) (fun c20 => ?_) (fun c20 => ?_)
  ·have hi : i < s.size := by omega
   have hu := s[i].toNat_lt
   refine DL.nil ?_
   show DC _ _ _ _ _ _
   refine DC.seq ?_
   refine DC.condT rfl ?_
   refine DC.skip ?_
   show DC _ _ _ _ _ _
   refine DC.seq ?_
   refine DC.block ?_
   refine DC.seq ?_
   refine DC.region ?_
   refine DL.y rfl rfl (Y.index F.sl107 rfl rfl (rfl) (hi)) ?_
   refine DL.y rfl rfl (v := .int .u8 (s[i].toNat : Int)) (Y.load F.sc5 rfl (by have h := hc17 i (by rw [← size_list]; exact hi); exact h)) ?_
   refine DL.y rfl rfl (Y.assign) ?_
   refine DL.nil ?_
   show DC _ _ _ _ _ _
   refine DC.seq ?_
   refine DC.region ?_
   refine DL.y rfl rfl (Y.move) ?_
   refine DL.y rfl rfl (Y.move) ?_
   refine DL.call rfl rfl F.nm157 rfl (should_any s[i] _ hU) ?_
   rintro _ w6 f7 ⟨q25, rfl, hq25⟩
   replace FR := FR.tr0 f7
   replace G5 := G5.tr0 f7
   replace HG5 := HG5.tr0 f7
   replace hU : TabU w6 := hU.fr f7 (by first | (simp; done) | (simp only [List.mem_cons, List.mem_singleton, List.not_mem_nil, or_false]; omega))
   replace hi17 := Nat.lt_of_lt_of_le hi17 f7.size
   replace hc17 := fun i hi => Fr.cell f7 (hc17 i hi) (by first | (simp; done) | (simp only [List.mem_cons, List.mem_singleton, List.not_mem_nil, or_false]; omega))
   refine (Bool.eq_false_or_eq_true q25).elim (fun hq25 => ?_) (fun hq25 => ?_)
   ·subst hq25
    refine DL.nil ?_
    show DC _ _ _ _ _ _
    refine DC.condT rfl ?_
    refine DC.seq ?_
    refine DC.region ?_
    refine DL.y rfl rfl (Y.move) ?_
    refine DL.if rfl rfl (Y.eq rfl rfl) (fun c27 => ?_) (fun c27 => ?_)
    ·refine DL.y rfl rfl (Y.move) ?_
     refine DL.y rfl rfl (Y.move) ?_
     refine DL.if rfl rfl (Y.eq rfl rfl) (fun c30 => ?_) (fun c30 => ?_)
     ·refine DL.y rfl rfl (Y.pickT rfl) ?_
      refine DL.nil ?_
      show DC _ _ _ _ _ _
      refine DC.condT rfl ?_
      refine DC.region ?_
      refine DL.y rfl rfl (Y.move) ?_
      refine DL.y rfl rfl (Y.addI (c := ((sp + 1 : Nat) : Int)) rfl rfl (by omega) (by omega) (by omega)) ?_
      refine DL.y rfl rfl (Y.assign) ?_
      refine DL.nil ?_
      show DC _ _ _ _ _ _
      refine DC.region ?_
      refine DL.y rfl rfl (Y.addI (c := ((i + 1 : Nat) : Int)) rfl rfl (by omega) (by omega) (by omega)) ?_
      refine DL.y rfl rfl (Y.move) ?_
      refine DL.nil ?_
      have e1 := cS_succ hi
      have e2 := cH_succ hi
      rw [if_neg (by simpa using hq25)] at e1 e2
      have h32 := i32 c27
      rw [if_pos h32] at e1 e2
      exact ⟨(i + 1, sp + 1, h), ⟨G5, hi, by omega, by omega⟩, by show s.size - (i + 1) < s.size - i; omega, rfl, rfl, rfl⟩
     ·exfalso; omega
    ·refine DL.y rfl rfl (Y.move) ?_
     refine DL.skip rfl rfl ?_
     refine DL.skip rfl rfl ?_
     refine DL.y rfl rfl (Y.pickF rfl) ?_
     refine DL.nil ?_
     show DC _ _ _ _ _ _
     refine DC.condF rfl ?_
     refine DC.region ?_
     refine DL.y rfl rfl (Y.move) ?_
     refine DL.y rfl rfl (Y.addI (c := ((h + 1 : Nat) : Int)) rfl rfl (by omega) (by omega) (by omega)) ?_
     refine DL.y rfl rfl (Y.assign) ?_
     refine DL.nil ?_
     show DC _ _ _ _ _ _
     refine DC.region ?_
     refine DL.y rfl rfl (Y.addI (c := ((i + 1 : Nat) : Int)) rfl rfl (by omega) (by omega) (by omega)) ?_
     refine DL.y rfl rfl (Y.move) ?_
     refine DL.nil ?_
     have e1 := cS_succ hi
     have e2 := cH_succ hi
     rw [if_neg (by simpa using hq25)] at e1 e2
     have h32 := n32 c27
     rw [if_neg h32] at e1 e2
     exact ⟨(i + 1, sp, h + 1), ⟨G5, hi, by omega, by omega⟩, by show s.size - (i + 1) < s.size - i; omega, rfl, rfl, rfl⟩
   ·subst hq25
    refine DL.nil ?_
    show DC _ _ _ _ _ _
    refine DC.condF rfl ?_
    refine DC.skip ?_
    show DC _ _ _ _ _ _
    refine DC.region ?_
    refine DL.y rfl rfl (Y.addI (c := ((i + 1 : Nat) : Int)) rfl rfl (by omega) (by omega) (by omega)) ?_
    refine DL.y rfl rfl (Y.move) ?_
    refine DL.nil ?_
    have e1 := cS_succ hi
    have e2 := cH_succ hi
    rw [if_pos (by simpa using hq25)] at e1 e2
    exact ⟨(i + 1, sp, h), ⟨G5, hi, by omega, by omega⟩, by show s.size - (i + 1) < s.size - i; omega, rfl, rfl, rfl⟩
  ·obtain rfl : i = s.size := by omega
   have hts : s.data.toList.take s.size = s.data.toList := by rw [size_list, List.take_length]
   rw [hts] at hsp hh
   have hqn := qlL_len s.data.toList
   obtain ⟨R, hRl⟩ : ∃ R, R = (qlL s.data.toList).length := ⟨_, rfl⟩
   have hszs := size_list s
   have hcl := cH_le s.data.toList
   have hRR : R = s.size + 2 * h := by omega
   refine DL.nil ?_
   show DC _ _ _ _ _ _
   refine DC.seq ?_
   refine DC.condF rfl ?_
   refine DC.exit ?_
   show DC _ _ _ _ _ _
   refine DC.forget [(0, .string s), (1, .int .u8 32), (5, .int .i64 (sp : Int)), (6, .int .i64 (h : Int))] ⟨rfl, rfl, rfl, rfl⟩ (fun e0 => ?_)
   refine DC.seq ?_
   refine DC.seq ?_
   refine DC.region ?_
   refine DL.y rfl rfl (Y.move) ?_
   refine DL.if rfl rfl (Y.eq rfl rfl) (fun c38 => ?_) (fun c38 => ?_)
   ·refine DL.y rfl rfl (Y.move) ?_
    refine DL.y rfl rfl (Y.move) ?_
    refine DL.if rfl rfl (Y.eq rfl rfl) (fun c41 => ?_) (fun c41 => ?_)
    ·refine DL.y rfl rfl (Y.pickT rfl) ?_
     refine DL.nil ?_
     show DC _ _ _ _ _ _
     refine DC.condT rfl ?_
     refine DC.seq ?_
     refine DC.region ?_
     refine DL.y rfl rfl (Y.move) ?_
     refine DL.y rfl rfl (Y.assign) ?_
     refine DL.nil ?_
     show DC _ _ _ _ _ _
     refine DC.ret ?_
     refine FinQ.ret1 rfl (Ret.mk FR ⟨_, rfl, ?_⟩)
     rw [qlL_id _ (by omega) (by omega)]
    ·refine DL.y rfl rfl (Y.pickT rfl) ?_
     refine DL.nil ?_
     show DC _ _ _ _ _ _
     refine DC.condF rfl ?_
     refine DC.skip ?_
     show DC _ _ _ _ _ _
     refine DC.seq ?_
     refine DC.region ?_
     refine DL.alloc rfl rfl F.z162 rfl ?_
     intro b9 w8 f9 lo9 hi9 hb9
     have lt_b17_b9 : b17 < b9 := Nat.lt_of_lt_of_le hi17 lo9
     replace lo9 := Nat.le_trans FR.size lo9
     replace FR := FR.tr0 f9
     replace hU : TabU w8 := hU.fr f9 (by first | (simp; done) | (simp only [List.mem_cons, List.mem_singleton, List.not_mem_nil, or_false]; omega))
     replace hi17 := Nat.lt_of_lt_of_le hi17 f9.size
     replace hc17 := fun i hi => Fr.cell f9 (hc17 i hi) (by first | (simp; done) | (simp only [List.mem_cons, List.mem_singleton, List.not_mem_nil, or_false]; omega))
     refine DL.nil ?_
     show DC _ _ _ _ _ _
     refine DC.seq ?_
     refine DC.region ?_
     refine DL.y rfl rfl (Y.assign) ?_
     refine DL.nil ?_
     show DC _ _ _ _ _ _
     refine DC.seq ?_
     refine DC.region ?_
     refine DL.y rfl rfl (Y.move) ?_
     refine DL.y rfl rfl (Y.lenStr Tryz.underlying9 rfl) ?_
     refine DL.y rfl rfl (Y.move) ?_
     refine DL.y rfl rfl (Y.mulI (c := ((2 * h : Nat) : Int)) rfl rfl (by omega) (by omega) (by omega)) ?_
     refine DL.y rfl rfl (Y.addI (c := ((R : Nat) : Int)) rfl rfl (by omega) (by omega) (by omega)) ?_
     refine DL.y rfl rfl (Y.assign) ?_
     refine DL.nil ?_
     show DC _ _ _ _ _ _
     refine DC.seq ?_
     refine DC.seq ?_
     refine DC.region ?_
     refine DL.y rfl rfl (Y.move) ?_
     refine DL.if rfl rfl (Y.le rfl rfl) (fun c50 => ?_) (fun c50 => ?_)
     ·refine DL.nil ?_
      show DC _ _ _ _ _ _
      refine DC.condT rfl ?_
      refine DC.region ?_
      refine DL.y rfl rfl (Y.move) ?_
      obtain ⟨cur0, hcs0, hb9'⟩ : ∃ cur0 : Array Value, cur0.size = 64 ∧ w8.heap[b9]? = some (.cells cur0 162 (0, 0)) := ⟨_, rfl, hb9⟩
      replace hb9 := hb9'
      have hfit : R ≤ cur0.size := by omega
      refine DL.y rfl rfl (Y.sliceArrH (h := R) arr64u rfl rfl (by omega)) ?_
      refine DL.y rfl rfl (Y.assign) ?_
      refine DL.nil ?_
      show DC _ _ _ _ _ _
      refine DC.forget [(0, .string s), (1, .int .u8 32), (6, .int .i64 (h : Int)), (10, .slice (some ⟨b9, 0, none⟩) R 64)] ⟨rfl, rfl, rfl, rfl⟩ (fun e0 => ?_)
      refine DC.seq ?_
      refine DC.seq ?_
      refine DC.region ?_
      refine DL.y rfl rfl (Y.move) ?_
      refine DL.if rfl rfl (Y.eq rfl rfl) (fun c56 => ?_) (fun c56 => ?_)
      ·refine DL.nil ?_
       show DC _ _ _ _ _ _
       refine DC.condT rfl ?_
       refine DC.seq ?_
       refine DC.region ?_
       refine DL.y rfl rfl (Y.move) ?_
       refine DL.y rfl rfl (Y.move) ?_
       refine DL.copyStr (T := 162) (cur := cur0) rfl rfl F.el107 rfl rfl hb9 (by omega) (by omega) ?_
       intro cur1 w10 f11 hb' hcz1 hcp
       replace FR := FR.put f11 (by intro i hi; simp only [List.mem_cons, List.mem_singleton, List.not_mem_nil, or_false] at hi; rcases hi with rfl; all_goals (first | (left; simp; done) | (right; omega)))
       replace hU : TabU w10 := hU.fr f11 (by first | (simp; done) | (simp only [List.mem_cons, List.mem_singleton, List.not_mem_nil, or_false]; omega))
       replace hi17 := Nat.lt_of_lt_of_le hi17 f11.size
       replace hc17 := fun i hi => Fr.cell f11 (hc17 i hi) (by first | (simp; done) | (simp only [List.mem_cons, List.mem_singleton, List.not_mem_nil, or_false]; omega))
       replace hi9 := Nat.lt_of_lt_of_le hi9 f11.size
       replace hb9 := hb'
       refine DL.nil ?_
       show DC _ _ _ _ _ _
       refine DC.seq ?_
       refine DC.seq ?_
       refine DC.region ?_
       refine DL.y rfl rfl (Y.assign) ?_
       refine DL.nil ?_
       show DC _ _ _ _ _ _
       refine DC.block ?_
       refine DC.loopE (σ := Nat × Array Value) [(12, 12), (60, 72)] [(0, .string s), (10, .slice (some ⟨b9, 0, none⟩) R 64)] (fun (i, _) => [(12, .int .i64 (i : Int))]) (fun sg wl => Fr [b9] w10 wl ∧ (fun (i, cur) wl => i ≤ s.size ∧ wl.heap[b9]? = some (.cells cur 162 (0, 0)) ∧ cur.size = cur0.size ∧ ∀ j (hj : j < s.data.toList.length), cur[j]? = some (.int .u8 (((if j < i then qb s.data.toList[j] else s.data.toList[j]).toNat : Nat) : Int))) sg wl) (fun (i, _) => s.size - i) ((0, cur1)) rfl ?_ ?_ ?_ ?_
       ·exact ⟨rfl, rfl⟩
       ·exact rfl
       ·exact ⟨Fr.refl _ _, Nat.zero_le _, hb9, hcz1, (fun j hj => by rw [if_neg (by omega)]; exact hcp j hj)⟩
       ·rintro e0 ⟨i, cur⟩ j w12 ⟨f13, hi0, hb9, hcz, hcj⟩
        replace FR := FR.put f13 (by intro i hi; simp only [List.mem_cons, List.mem_singleton, List.not_mem_nil, or_false] at hi; rcases hi with rfl; all_goals (first | (left; simp; done) | (right; omega)))
        replace hU : TabU w12 := hU.fr f13 (by first | (simp; done) | (simp only [List.mem_cons, List.mem_singleton, List.not_mem_nil, or_false]; omega))
        replace hi17 := Nat.lt_of_lt_of_le hi17 f13.size
        replace hc17 := fun i hi => Fr.cell f13 (hc17 i hi) (by first | (simp; done) | (simp only [List.mem_cons, List.mem_singleton, List.not_mem_nil, or_false]; omega))
        replace hi9 := Nat.lt_of_lt_of_le hi9 f13.size
        have G14 := f13
        have HG14 := Fr.refl [b9] w12
        refine DC.seq ?_
        refine DC.seq ?_
        refine DC.region ?_
        refine DL.y rfl rfl (Y.move) ?_
        refine DL.y rfl rfl (Y.move) ?_
        refine DL.y rfl rfl (Y.lenStr Tryz.underlying9 rfl) ?_
        refine DL.if rfl rfl (Y.lt rfl rfl) (fun c63 => ?_) (fun c63 => ?_)
        ·have hi : i < s.size := by omega
         have hu := s[i].toNat_lt
         refine DL.nil ?_
         show DC _ _ _ _ _ _
         refine DC.condT rfl ?_
         refine DC.skip ?_
         show DC _ _ _ _ _ _
         refine DC.seq ?_
         refine DC.block ?_
         refine DC.seq ?_
         refine DC.region ?_
         refine DL.y rfl rfl (Y.move) ?_
         refine DL.y rfl rfl (Y.move) ?_
         refine DL.y rfl rfl (Y.strIx (i := i) Tryz.underlying9 rfl rfl rfl hi) ?_
         refine DL.if rfl rfl (Y.eq rfl rfl) (fun c69 => ?_) (fun c69 => ?_)
         ·refine DL.nil ?_
          show DC _ _ _ _ _ _
          refine DC.condT rfl ?_
          refine DC.region ?_
          refine DL.y rfl rfl (Y.move) ?_
          refine DL.y rfl rfl (Y.move) ?_
          refine DL.y rfl rfl (Y.index (i := i) F.sl107 rfl rfl rfl (by omega)) ?_
          refine DL.store rfl F.co5 F.in5 rfl rfl rfl hb9 (by rw [Nat.blt_eq]; omega) ?_
          intro w15 f16 hs17 hb9'
          replace FR := FR.put f16 (by intro i hi; simp only [List.mem_cons, List.mem_singleton, List.not_mem_nil, or_false] at hi; rcases hi with rfl; all_goals (first | (left; simp; done) | (right; omega)))
          replace G14 := G14.put f16 (by intro i hi; simp only [List.mem_cons, List.mem_singleton, List.not_mem_nil, or_false] at hi; rcases hi with rfl; all_goals (first | (left; simp; done) | (right; omega)))
          replace HG14 := HG14.put f16 (by intro i hi; simp only [List.mem_cons, List.mem_singleton, List.not_mem_nil, or_false] at hi; rcases hi with rfl; all_goals (first | (left; simp; done) | (right; omega)))
          replace hU : TabU w15 := hU.fr f16 (by first | (simp; done) | (simp only [List.mem_cons, List.mem_singleton, List.not_mem_nil, or_false]; omega))
          replace hi17 := Nat.lt_of_lt_of_le hi17 f16.size
          replace hc17 := fun i hi => Fr.cell f16 (hc17 i hi) (by first | (simp; done) | (simp only [List.mem_cons, List.mem_singleton, List.not_mem_nil, or_false]; omega))
          replace hi9 := Nat.lt_of_lt_of_le hi9 f16.size
          replace hb9 := hb9'
          refine DL.nil ?_
          show DC _ _ _ _ _ _
          refine DC.region ?_
          refine DL.y rfl rfl (Y.move) ?_
          refine DL.y rfl rfl (Y.addI (c := ((i + 1 : Nat) : Int)) rfl rfl (by omega) (by omega) (by omega)) ?_
          refine DL.y rfl rfl (Y.assign) ?_
          refine DL.nil ?_
          refine ⟨(i + 1, _), ⟨G14, hi, hb9, by simpa using hcz, fun j hj => ?_⟩, by show s.size - (i + 1) < s.size - i; omega, rfl⟩
          have hje : s.data.toList[i]'(by rw [← size_list]; exact hi) = s[i] := rfl
          by_cases hji : j = i
          ·subst hji
           rw [show 0 + j * 1 = j by omega, Array.getElem?_setIfInBounds_self_of_lt (by omega), if_pos (by omega), hje, qb, if_pos (i32 c69)]; rfl
          ·rw [Array.getElem?_setIfInBounds_ne (by omega), hcj j hj]
           by_cases h1 : j < i
           ·rw [if_pos h1, if_pos (by omega)]
           ·rw [if_neg h1, if_neg (by omega)]
         ·refine DL.nil ?_
          show DC _ _ _ _ _ _
          refine DC.condF rfl ?_
          refine DC.skip ?_
          show DC _ _ _ _ _ _
          refine DC.region ?_
          refine DL.y rfl rfl (Y.move) ?_
          refine DL.y rfl rfl (Y.addI (c := ((i + 1 : Nat) : Int)) rfl rfl (by omega) (by omega) (by omega)) ?_
          refine DL.y rfl rfl (Y.assign) ?_
          refine DL.nil ?_
          refine ⟨(i + 1, cur), ⟨G14, hi, hb9, hcz, fun j hj => ?_⟩, by show s.size - (i + 1) < s.size - i; omega, rfl⟩
          have hje : s.data.toList[i]'(by rw [← size_list]; exact hi) = s[i] := rfl
          rw [hcj j hj]
          by_cases hji : j = i
          ·subst hji
           rw [if_neg (by omega), if_pos (by omega), hje, qb, if_neg (n32 c69)]
          ·by_cases h1 : j < i
           ·rw [if_pos h1, if_pos (by omega)]
           ·rw [if_neg h1, if_neg (by omega)]
        ·obtain rfl : i = s.size := by omega
         refine DL.nil ?_
         show DC _ _ _ _ _ _
         refine DC.condF rfl ?_
         refine DC.exit ?_
         show DC _ _ _ _ _ _
         refine DC.seq ?_
         refine DC.region ?_
         refine DL.y rfl rfl (Y.move) ?_
         refine DL.y rfl rfl (v := .string ⟨(s.data.toList.map qb).toArray⟩) (Y.cellsStr (l := s.data.toList.map qb) Tryz.underlying107 Tryz.underlying5 Tryz.underlying9 (show _ = Value.slice (some ⟨b9, 0, none⟩) (s.data.toList.map qb).length 64 by rw [List.length_map, ← size_list, show s.size = R by omega]; rfl) (fun q hq => cell_of_blk hb9 (by have h5 : q < s.data.toList.length := by { simpa using hq }; rw [Nat.zero_add, hcj q h5, if_pos (by rw [size_list]; exact h5)]; simp))) ?_
         refine DL.y rfl rfl (Y.assign) ?_
         refine DL.nil ?_
         show DC _ _ _ _ _ _
         refine DC.ret ?_
         refine FinQ.ret1 rfl (Ret.mk FR ⟨_, rfl, ?_⟩)
         show s.data.toList.map qb = _
         rw [qlL_plus _ (by omega)]
      ·refine DL.nil ?_
       show DC _ _ _ _ _ _
       refine DC.condF rfl ?_
       refine DC.skip ?_
       show DC _ _ _ _ _ _
       refine DC.forget [(0, .string s), (1, .int .u8 32), (6, .int .i64 (h : Int)), (10, .slice (some ⟨b9, 0, none⟩) R 64)] ⟨rfl, rfl, rfl, rfl⟩ (fun e0 => ?_)
       refine DC.seq ?_
       refine DC.region ?_
       refine DL.y rfl rfl (Y.assign) ?_
       refine DL.nil ?_
       show DC _ _ _ _ _ _
       refine DC.seq ?_
       refine DC.seq ?_
       refine DC.region ?_
       refine DL.y rfl rfl (Y.move) ?_
       refine DL.bytesOf rfl rfl Tryz.underlying9 Tryz.underlying107 Tryz.underlying5 rfl ?_
       intro b76 w18 cap76 f19 lo76 hi76 hc76
       have lt_b17_b76 : b17 < b76 := Nat.lt_of_lt_of_le hi17 lo76
       have lt_b9_b76 : b9 < b76 := Nat.lt_of_lt_of_le hi9 lo76
       replace lo76 := Nat.le_trans FR.size lo76
       replace FR := FR.tr0 f19
       replace hU : TabU w18 := hU.fr f19 (by first | (simp; done) | (simp only [List.mem_cons, List.mem_singleton, List.not_mem_nil, or_false]; omega))
       replace hi17 := Nat.lt_of_lt_of_le hi17 f19.size
       replace hc17 := fun i hi => Fr.cell f19 (hc17 i hi) (by first | (simp; done) | (simp only [List.mem_cons, List.mem_singleton, List.not_mem_nil, or_false]; omega))
       replace hb9 := f19.blk0 hb9
       replace hi9 := Nat.lt_of_lt_of_le hi9 f19.size
       refine DL.y rfl rfl (Y.lenS Tryz.underlying107 rfl) ?_
       refine DL.y rfl rfl (Y.move) ?_
       refine DL.nil ?_
       show DC _ _ _ _ _ _
       refine DC.block ?_
       refine DC.loopE (σ := Nat × Nat × Array Value) [(13, 13), (15, 15), (78, 123)] [(0, .string s), (1, .int .u8 32), (10, .slice (some ⟨b9, 0, none⟩) R 64), (76, .slice (some ⟨b76, 0, none⟩) s.size cap76), (77, .int .i64 (s.size : Int))] (fun (i, jj, _) => [(13, .int .i64 (jj : Int)), (78, .int .i64 (i : Int))]) (fun sg wl => Fr [b9] w18 wl ∧ (fun (i, jj, cur) wl => i ≤ s.size ∧ jj = (qlL (s.data.toList.take i)).length ∧ wl.heap[b9]? = some (.cells cur 162 (0, 0)) ∧ cur.size = cur0.size ∧ Pre cur (qlL (s.data.toList.take i))) sg wl) (fun (i, _, _) => s.size - i) ((0, 0, cur0)) rfl ?_ ?_ ?_ ?_
       ·exact ⟨rfl, rfl, rfl, rfl, rfl⟩
       ·exact ⟨rfl, rfl⟩
       ·exact ⟨Fr.refl _ _, Nat.zero_le _, rfl, hb9, rfl, (fun q hq => absurd hq (by simp [qlL]))⟩
       ·rintro e0 ⟨i, jj, cur⟩ j w20 ⟨f21, hi0, hj, hb9, hcz, hpre⟩
        replace FR := FR.put f21 (by intro i hi; simp only [List.mem_cons, List.mem_singleton, List.not_mem_nil, or_false] at hi; rcases hi with rfl; all_goals (first | (left; simp; done) | (right; omega)))
        replace hU : TabU w20 := hU.fr f21 (by first | (simp; done) | (simp only [List.mem_cons, List.mem_singleton, List.not_mem_nil, or_false]; omega))
        replace hi17 := Nat.lt_of_lt_of_le hi17 f21.size
        replace hc17 := fun i hi => Fr.cell f21 (hc17 i hi) (by first | (simp; done) | (simp only [List.mem_cons, List.mem_singleton, List.not_mem_nil, or_false]; omega))
        replace hi9 := Nat.lt_of_lt_of_le hi9 f21.size
        replace hi76 := Nat.lt_of_lt_of_le hi76 f21.size
        replace hc76 := fun i hi => Fr.cell f21 (hc76 i hi) (by first | (simp; done) | (simp only [List.mem_cons, List.mem_singleton, List.not_mem_nil, or_false]; omega))
        have G22 := f21
        have HG22 := Fr.refl [b9] w20
        have hjR := qlL_take_le s.data.toList i
        rw [← hRl, ← hj] at hjR
        refine DC.seq ?_
        refine DC.region ?_
        refine DL.if rfl rfl (Y.lt rfl rfl) (fun c79 => ?_) (fun c79 => ?_)
        ·have hi : i < s.size := by omega
         have hu := s[i].toNat_lt
         have hq1 := qlL_take_le s.data.toList (i + 1)
         rw [qlL_succ hi, List.length_append, ← hRl, ← hj] at hq1
         have hq0 := escQ_pos s[i]
         refine DL.nil ?_
         show DC _ _ _ _ _ _
         refine DC.seq ?_
         refine DC.condT rfl ?_
         refine DC.skip ?_
         show DC _ _ _ _ _ _
         refine DC.seq ?_
         refine DC.block ?_
         refine DC.seq ?_
         refine DC.region ?_
         refine DL.y rfl rfl (Y.index F.sl107 rfl rfl (rfl) (hi)) ?_
         refine DL.y rfl rfl (v := .int .u8 (s[i].toNat : Int)) (Y.load F.sc5 rfl (by have h := hc76 i (by rw [← size_list]; exact hi); exact h)) ?_
         refine DL.y rfl rfl (Y.assign) ?_
         refine DL.nil ?_
         show DC _ _ _ _ _ _
         refine DC.forget [(0, .string s), (1, .int .u8 32), (10, .slice (some ⟨b9, 0, none⟩) R 64), (76, .slice (some ⟨b76, 0, none⟩) s.size cap76), (77, .int .i64 (s.size : Int)), (13, .int .i64 (jj : Int)), (15, .int .u8 (s[i].toNat : Int)), (78, .int .i64 (i : Int))] ⟨rfl, rfl, rfl, rfl, rfl, rfl, rfl, rfl⟩ (fun e0 => ?_)
         refine DC.block ?_
         refine DC.seq ?_
         refine DC.region ?_
         refine DL.y rfl rfl (Y.move) ?_
         refine DL.if rfl rfl (Y.eq rfl rfl) (fun c90 => ?_) (fun c90 => ?_)
         ·refine DL.y rfl rfl (Y.move) ?_
          refine DL.y rfl rfl (Y.move) ?_
          refine DL.if rfl rfl (Y.eq rfl rfl) (fun c93 => ?_) (fun c93 => ?_)
          ·refine DL.y rfl rfl (Y.pickT rfl) ?_
           refine DL.y rfl rfl (Y.assign) ?_
           refine DL.nil ?_
           show DC _ _ _ _ _ _
           refine DC.condT rfl ?_
           refine DC.seq ?_
           refine DC.region ?_
           refine DL.y rfl rfl (Y.move) ?_
           refine DL.y rfl rfl (Y.move) ?_
           refine DL.y rfl rfl (Y.index (i := jj) F.sl107 rfl rfl rfl (by omega)) ?_
           refine DL.store rfl F.co5 F.in5 rfl rfl rfl hb9 (by rw [Nat.blt_eq]; omega) ?_
           intro w23 f24 hs25 hb9'
           replace FR := FR.put f24 (by intro i hi; simp only [List.mem_cons, List.mem_singleton, List.not_mem_nil, or_false] at hi; rcases hi with rfl; all_goals (first | (left; simp; done) | (right; omega)))
           replace G22 := G22.put f24 (by intro i hi; simp only [List.mem_cons, List.mem_singleton, List.not_mem_nil, or_false] at hi; rcases hi with rfl; all_goals (first | (left; simp; done) | (right; omega)))
           replace HG22 := HG22.put f24 (by intro i hi; simp only [List.mem_cons, List.mem_singleton, List.not_mem_nil, or_false] at hi; rcases hi with rfl; all_goals (first | (left; simp; done) | (right; omega)))
           replace hU : TabU w23 := hU.fr f24 (by first | (simp; done) | (simp only [List.mem_cons, List.mem_singleton, List.not_mem_nil, or_false]; omega))
           replace hi17 := Nat.lt_of_lt_of_le hi17 f24.size
           replace hc17 := fun i hi => Fr.cell f24 (hc17 i hi) (by first | (simp; done) | (simp only [List.mem_cons, List.mem_singleton, List.not_mem_nil, or_false]; omega))
           replace hi9 := Nat.lt_of_lt_of_le hi9 f24.size
           replace hi76 := Nat.lt_of_lt_of_le hi76 f24.size
           replace hc76 := fun i hi => Fr.cell f24 (hc76 i hi) (by first | (simp; done) | (simp only [List.mem_cons, List.mem_singleton, List.not_mem_nil, or_false]; omega))
           replace hb9 := hb9'
           refine DL.nil ?_
           show DC _ _ _ _ _ _
           refine DC.region ?_
           refine DL.y rfl rfl (Y.move) ?_
           refine DL.y rfl rfl (Y.addI (c := ((jj + 1 : Nat) : Int)) rfl rfl (by omega) (by omega) (by omega)) ?_
           refine DL.y rfl rfl (Y.assign) ?_
           refine DL.nil ?_
           show DC _ _ _ _ _ _
           refine DC.region ?_
           refine DL.y rfl rfl (Y.addI (c := ((i + 1 : Nat) : Int)) rfl rfl (by omega) (by omega) (by omega)) ?_
           refine DL.y rfl rfl (Y.move) ?_
           refine DL.nil ?_
           have e1 := qlL_succ hi
           rw [escQ, if_neg (by rw [i32 c90]; decide), if_pos (i32 c90)] at e1
           refine ⟨(i + 1, jj + 1, _), ⟨G22, hi, by rw [e1, List.length_append, ← hj]; rfl, hb9, by simpa using hcz, by rw [e1]; exact hpre.push (c := 43) hj (by omega)⟩, by show s.size - (i + 1) < s.size - i; omega, rfl, rfl⟩
          ·exfalso; omega
         ·refine DL.y rfl rfl (Y.move) ?_
          refine DL.skip rfl rfl ?_
          refine DL.skip rfl rfl ?_
          refine DL.y rfl rfl (Y.pickF rfl) ?_
          refine DL.y rfl rfl (Y.assign) ?_
          refine DL.nil ?_
          show DC _ _ _ _ _ _
          refine DC.condF rfl ?_
          refine DC.forget [(0, .string s), (1, .int .u8 32), (10, .slice (some ⟨b9, 0, none⟩) R 64), (76, .slice (some ⟨b76, 0, none⟩) s.size cap76), (77, .int .i64 (s.size : Int)), (13, .int .i64 (jj : Int)), (15, .int .u8 (s[i].toNat : Int)), (78, .int .i64 (i : Int))] ⟨rfl, rfl, rfl, rfl, rfl, rfl, rfl, rfl⟩ (fun e0 => ?_)
          refine DC.seq ?_
          refine DC.region ?_
          have hq32 := n32 c90
          refine DL.y rfl rfl (Y.move) ?_
          refine DL.y rfl rfl (Y.move) ?_
          refine DL.call rfl rfl F.nm157 rfl (should_any s[i] _ hU) ?_
          rintro _ w26 f27 ⟨q103, rfl, hq103⟩
          replace FR := FR.tr0 f27
          replace G22 := G22.tr0 f27
          replace HG22 := HG22.tr0 f27
          replace hU : TabU w26 := hU.fr f27 (by first | (simp; done) | (simp only [List.mem_cons, List.mem_singleton, List.not_mem_nil, or_false]; omega))
          replace hi17 := Nat.lt_of_lt_of_le hi17 f27.size
          replace hc17 := fun i hi => Fr.cell f27 (hc17 i hi) (by first | (simp; done) | (simp only [List.mem_cons, List.mem_singleton, List.not_mem_nil, or_false]; omega))
          replace hi9 := Nat.lt_of_lt_of_le hi9 f27.size
          replace hi76 := Nat.lt_of_lt_of_le hi76 f27.size
          replace hc76 := fun i hi => Fr.cell f27 (hc76 i hi) (by first | (simp; done) | (simp only [List.mem_cons, List.mem_singleton, List.not_mem_nil, or_false]; omega))
          replace hb9 := f27.blk0 hb9
          refine (Bool.eq_false_or_eq_true q103).elim (fun hq103 => ?_) (fun hq103 => ?_)
          ·subst hq103
           refine DL.y rfl rfl (Y.assign) ?_
           refine DL.nil ?_
           show DC _ _ _ _ _ _
           refine DC.condT rfl ?_
           refine DC.seq ?_
           refine DC.region ?_
           refine DL.y rfl rfl (Y.move) ?_
           have hq3 := escQ_three (by simpa using hq103) hq32
           refine DL.y rfl rfl (Y.move) ?_
           refine DL.y rfl rfl (Y.index (i := jj) F.sl107 rfl rfl rfl (by omega)) ?_
           refine DL.store rfl F.co5 F.in5 rfl rfl rfl hb9 (by rw [Nat.blt_eq]; omega) ?_
           intro w28 f29 hs30 hb9'
           replace FR := FR.put f29 (by intro i hi; simp only [List.mem_cons, List.mem_singleton, List.not_mem_nil, or_false] at hi; rcases hi with rfl; all_goals (first | (left; simp; done) | (right; omega)))
           replace G22 := G22.put f29 (by intro i hi; simp only [List.mem_cons, List.mem_singleton, List.not_mem_nil, or_false] at hi; rcases hi with rfl; all_goals (first | (left; simp; done) | (right; omega)))
           replace HG22 := HG22.put f29 (by intro i hi; simp only [List.mem_cons, List.mem_singleton, List.not_mem_nil, or_false] at hi; rcases hi with rfl; all_goals (first | (left; simp; done) | (right; omega)))
           replace hU : TabU w28 := hU.fr f29 (by first | (simp; done) | (simp only [List.mem_cons, List.mem_singleton, List.not_mem_nil, or_false]; omega))
           replace hi17 := Nat.lt_of_lt_of_le hi17 f29.size
           replace hc17 := fun i hi => Fr.cell f29 (hc17 i hi) (by first | (simp; done) | (simp only [List.mem_cons, List.mem_singleton, List.not_mem_nil, or_false]; omega))
           replace hi9 := Nat.lt_of_lt_of_le hi9 f29.size
           replace hi76 := Nat.lt_of_lt_of_le hi76 f29.size
           replace hc76 := fun i hi => Fr.cell f29 (hc76 i hi) (by first | (simp; done) | (simp only [List.mem_cons, List.mem_singleton, List.not_mem_nil, or_false]; omega))
           replace hb9 := hb9'
           refine DL.nil ?_
           show DC _ _ _ _ _ _
           refine DC.forget [(0, .string s), (1, .int .u8 32), (10, .slice (some ⟨b9, 0, none⟩) R 64), (76, .slice (some ⟨b76, 0, none⟩) s.size cap76), (77, .int .i64 (s.size : Int)), (13, .int .i64 (jj : Int)), (15, .int .u8 (s[i].toNat : Int)), (78, .int .i64 (i : Int))] ⟨rfl, rfl, rfl, rfl, rfl, rfl, rfl, rfl⟩ (fun e0 => ?_)
           refine DC.seq ?_
           refine DC.region ?_
           refine DL.y rfl rfl (Y.move) ?_
           refine DL.y rfl rfl (Y.move) ?_
           refine DL.y rfl rfl (Y.addI (c := ((jj + 1 : Nat) : Int)) rfl rfl (by omega) (by omega) (by omega)) ?_
           refine DL.y rfl rfl (Y.move) ?_
           refine DL.y rfl rfl (Y.shrN (k := .u8) (k' := .u64) (m := 4) (a := s[i].toNat) (c := s[i].toNat / 16) rfl rfl (by decide) rfl) ?_
           refine DL.y rfl rfl (Y.strIxV (i := s[i].toNat / 16) Tryz.underlying9 rfl rfl rfl (hexAt (s[i].toNat / 16) (by omega))) ?_
           refine DL.y rfl rfl (Y.index (i := jj + 1) F.sl107 rfl rfl rfl (by omega)) ?_
           refine DL.store rfl F.co5 F.in5 rfl rfl rfl hb9 (by rw [Nat.blt_eq]; simp; omega) ?_
           intro w31 f32 hs33 hb9'
           replace FR := FR.put f32 (by intro i hi; simp only [List.mem_cons, List.mem_singleton, List.not_mem_nil, or_false] at hi; rcases hi with rfl; all_goals (first | (left; simp; done) | (right; omega)))
           replace G22 := G22.put f32 (by intro i hi; simp only [List.mem_cons, List.mem_singleton, List.not_mem_nil, or_false] at hi; rcases hi with rfl; all_goals (first | (left; simp; done) | (right; omega)))
           replace HG22 := HG22.put f32 (by intro i hi; simp only [List.mem_cons, List.mem_singleton, List.not_mem_nil, or_false] at hi; rcases hi with rfl; all_goals (first | (left; simp; done) | (right; omega)))
           replace hU : TabU w31 := hU.fr f32 (by first | (simp; done) | (simp only [List.mem_cons, List.mem_singleton, List.not_mem_nil, or_false]; omega))
           replace hi17 := Nat.lt_of_lt_of_le hi17 f32.size
           replace hc17 := fun i hi => Fr.cell f32 (hc17 i hi) (by first | (simp; done) | (simp only [List.mem_cons, List.mem_singleton, List.not_mem_nil, or_false]; omega))
           replace hi9 := Nat.lt_of_lt_of_le hi9 f32.size
           replace hi76 := Nat.lt_of_lt_of_le hi76 f32.size
           replace hc76 := fun i hi => Fr.cell f32 (hc76 i hi) (by first | (simp; done) | (simp only [List.mem_cons, List.mem_singleton, List.not_mem_nil, or_false]; omega))
           replace hb9 := hb9'
           refine DL.nil ?_
           show DC _ _ _ _ _ _
           refine DC.forget [(0, .string s), (1, .int .u8 32), (10, .slice (some ⟨b9, 0, none⟩) R 64), (76, .slice (some ⟨b76, 0, none⟩) s.size cap76), (77, .int .i64 (s.size : Int)), (13, .int .i64 (jj : Int)), (15, .int .u8 (s[i].toNat : Int)), (78, .int .i64 (i : Int))] ⟨rfl, rfl, rfl, rfl, rfl, rfl, rfl, rfl⟩ (fun e0 => ?_)
           refine DC.seq ?_
           refine DC.region ?_
           refine DL.y rfl rfl (Y.move) ?_
           refine DL.y rfl rfl (Y.move) ?_
           refine DL.y rfl rfl (Y.addI (c := ((jj + 2 : Nat) : Int)) rfl rfl (by omega) (by omega) (by omega)) ?_
           refine DL.y rfl rfl (Y.move) ?_
           refine DL.y rfl rfl (Y.andN (k := .u8) (a := s[i].toNat) (b := 15) rfl rfl (show s[i].toNat < 2 ^ 8 from hu) (by decide) (and15u s[i])) ?_
           refine DL.y rfl rfl (Y.strIxV (i := s[i].toNat % 16) Tryz.underlying9 rfl rfl rfl (hexAt (s[i].toNat % 16) (by omega))) ?_
           refine DL.y rfl rfl (Y.index (i := jj + 2) F.sl107 rfl rfl rfl (by omega)) ?_
           refine DL.store rfl F.co5 F.in5 rfl rfl rfl hb9 (by rw [Nat.blt_eq]; simp; omega) ?_
           intro w34 f35 hs36 hb9'
           replace FR := FR.put f35 (by intro i hi; simp only [List.mem_cons, List.mem_singleton, List.not_mem_nil, or_false] at hi; rcases hi with rfl; all_goals (first | (left; simp; done) | (right; omega)))
           replace G22 := G22.put f35 (by intro i hi; simp only [List.mem_cons, List.mem_singleton, List.not_mem_nil, or_false] at hi; rcases hi with rfl; all_goals (first | (left; simp; done) | (right; omega)))
           replace HG22 := HG22.put f35 (by intro i hi; simp only [List.mem_cons, List.mem_singleton, List.not_mem_nil, or_false] at hi; rcases hi with rfl; all_goals (first | (left; simp; done) | (right; omega)))
           replace hU : TabU w34 := hU.fr f35 (by first | (simp; done) | (simp only [List.mem_cons, List.mem_singleton, List.not_mem_nil, or_false]; omega))
           replace hi17 := Nat.lt_of_lt_of_le hi17 f35.size
           replace hc17 := fun i hi => Fr.cell f35 (hc17 i hi) (by first | (simp; done) | (simp only [List.mem_cons, List.mem_singleton, List.not_mem_nil, or_false]; omega))
           replace hi9 := Nat.lt_of_lt_of_le hi9 f35.size
           replace hi76 := Nat.lt_of_lt_of_le hi76 f35.size
           replace hc76 := fun i hi => Fr.cell f35 (hc76 i hi) (by first | (simp; done) | (simp only [List.mem_cons, List.mem_singleton, List.not_mem_nil, or_false]; omega))
           replace hb9 := hb9'
           refine DL.nil ?_
           show DC _ _ _ _ _ _
           refine DC.forget [(0, .string s), (1, .int .u8 32), (10, .slice (some ⟨b9, 0, none⟩) R 64), (76, .slice (some ⟨b76, 0, none⟩) s.size cap76), (77, .int .i64 (s.size : Int)), (13, .int .i64 (jj : Int)), (15, .int .u8 (s[i].toNat : Int)), (78, .int .i64 (i : Int))] ⟨rfl, rfl, rfl, rfl, rfl, rfl, rfl, rfl⟩ (fun e0 => ?_)
           refine DC.region ?_
           refine DL.y rfl rfl (Y.move) ?_
           refine DL.y rfl rfl (Y.addI (c := ((jj + 3 : Nat) : Int)) rfl rfl (by omega) (by omega) (by omega)) ?_
           refine DL.y rfl rfl (Y.assign) ?_
           refine DL.nil ?_
           show DC _ _ _ _ _ _
           refine DC.region ?_
           refine DL.y rfl rfl (Y.addI (c := ((i + 1 : Nat) : Int)) rfl rfl (by omega) (by omega) (by omega)) ?_
           refine DL.y rfl rfl (Y.move) ?_
           refine DL.nil ?_
           have e1 := qlL_succ hi
           rw [escQ, if_neg (by simpa using hq103), if_neg (n32 c90)] at e1
           refine ⟨(i + 1, jj + 3, _), ⟨G22, hi, by rw [e1, List.length_append, ← hj]; rfl, hb9, by simpa using hcz, ?_⟩, by show s.size - (i + 1) < s.size - i; omega, rfl, rfl⟩
           have p1 := hpre.push (c := 37) hj (by omega)
           have p2 := p1.push (c := hexU (s[i].toNat / 16)) (j := jj + 1) (by rw [List.length_append]; exact congrArg (· + 1) hj) (by simp; omega)
           have p3 := p2.push (c := hexU (s[i].toNat % 16)) (j := jj + 2) (by simp only [List.length_append, List.length_singleton]; omega) (by simp; omega)
           rw [e1, show ∀ (x : List UInt8) (a b : UInt8), x ++ [37, a, b] = x ++ [37] ++ [a] ++ [b] from fun x a b => by simp]
           exact p3
          ·subst hq103
           refine DL.y rfl rfl (Y.assign) ?_
           refine DL.nil ?_
           show DC _ _ _ _ _ _
           refine DC.condF rfl ?_
           refine DC.forget [(0, .string s), (1, .int .u8 32), (10, .slice (some ⟨b9, 0, none⟩) R 64), (76, .slice (some ⟨b76, 0, none⟩) s.size cap76), (77, .int .i64 (s.size : Int)), (13, .int .i64 (jj : Int)), (15, .int .u8 (s[i].toNat : Int)), (78, .int .i64 (i : Int))] ⟨rfl, rfl, rfl, rfl, rfl, rfl, rfl, rfl⟩ (fun e0 => ?_)
           refine DC.seq ?_
           refine DC.region ?_
           refine DL.y rfl rfl (Y.move) ?_
           refine DL.y rfl rfl (Y.move) ?_
           refine DL.y rfl rfl (Y.move) ?_
           refine DL.y rfl rfl (Y.index (i := jj) F.sl107 rfl rfl rfl (by omega)) ?_
           refine DL.store rfl F.co5 F.in5 rfl rfl rfl hb9 (by rw [Nat.blt_eq]; omega) ?_
           intro w37 f38 hs39 hb9'
           replace FR := FR.put f38 (by intro i hi; simp only [List.mem_cons, List.mem_singleton, List.not_mem_nil, or_false] at hi; rcases hi with rfl; all_goals (first | (left; simp; done) | (right; omega)))
           replace G22 := G22.put f38 (by intro i hi; simp only [List.mem_cons, List.mem_singleton, List.not_mem_nil, or_false] at hi; rcases hi with rfl; all_goals (first | (left; simp; done) | (right; omega)))
           replace HG22 := HG22.put f38 (by intro i hi; simp only [List.mem_cons, List.mem_singleton, List.not_mem_nil, or_false] at hi; rcases hi with rfl; all_goals (first | (left; simp; done) | (right; omega)))
           replace hU : TabU w37 := hU.fr f38 (by first | (simp; done) | (simp only [List.mem_cons, List.mem_singleton, List.not_mem_nil, or_false]; omega))
           replace hi17 := Nat.lt_of_lt_of_le hi17 f38.size
           replace hc17 := fun i hi => Fr.cell f38 (hc17 i hi) (by first | (simp; done) | (simp only [List.mem_cons, List.mem_singleton, List.not_mem_nil, or_false]; omega))
           replace hi9 := Nat.lt_of_lt_of_le hi9 f38.size
           replace hi76 := Nat.lt_of_lt_of_le hi76 f38.size
           replace hc76 := fun i hi => Fr.cell f38 (hc76 i hi) (by first | (simp; done) | (simp only [List.mem_cons, List.mem_singleton, List.not_mem_nil, or_false]; omega))
           replace hb9 := hb9'
           refine DL.nil ?_
           show DC _ _ _ _ _ _
           refine DC.region ?_
           refine DL.y rfl rfl (Y.move) ?_
           refine DL.y rfl rfl (Y.addI (c := ((jj + 1 : Nat) : Int)) rfl rfl (by omega) (by omega) (by omega)) ?_
           refine DL.y rfl rfl (Y.assign) ?_
           refine DL.nil ?_
           show DC _ _ _ _ _ _
           refine DC.region ?_
           refine DL.y rfl rfl (Y.addI (c := ((i + 1 : Nat) : Int)) rfl rfl (by omega) (by omega) (by omega)) ?_
           refine DL.y rfl rfl (Y.move) ?_
           refine DL.nil ?_
           have e1 := qlL_succ hi
           rw [escQ, if_pos (by simpa using hq103)] at e1
           refine ⟨(i + 1, jj + 1, _), ⟨G22, hi, by rw [e1, List.length_append, ← hj]; rfl, hb9, by simpa using hcz, by rw [e1]; exact hpre.push (c := s[i]) hj (by omega)⟩, by show s.size - (i + 1) < s.size - i; omega, rfl, rfl⟩
        ·obtain rfl : i = s.size := by omega
         have hts2 : s.data.toList.take s.size = s.data.toList := by rw [size_list, List.take_length]
         rw [hts2] at hpre
         refine DL.nil ?_
         show DC _ _ _ _ _ _
         refine DC.seq ?_
         refine DC.condF rfl ?_
         refine DC.exit ?_
         show DC _ _ _ _ _ _
         refine DC.seq ?_
         refine DC.region ?_
         refine DL.y rfl rfl (Y.move) ?_
         refine DL.y rfl rfl (v := .string ⟨(qlL s.data.toList).toArray⟩) (Y.cellsStr (l := qlL s.data.toList) Tryz.underlying107 Tryz.underlying5 Tryz.underlying9 (show _ = Value.slice (some ⟨b9, 0, none⟩) (qlL s.data.toList).length 64 by rw [← hRl]; rfl) (fun q hq => cell_of_blk hb9 (by rw [Nat.zero_add]; exact hpre q hq))) ?_
         refine DL.y rfl rfl (Y.assign) ?_
         refine DL.nil ?_
         show DC _ _ _ _ _ _
         refine DC.ret ?_
         exact FinQ.ret1 rfl (Ret.mk FR ⟨_, rfl, rfl⟩)
     ·refine DL.nil ?_
      show DC _ _ _ _ _ _
      refine DC.condF rfl ?_
      refine DC.region ?_
      refine DL.y rfl rfl (Y.move) ?_
      refine DL.makeS rfl rfl elu8 rfl rfl rfl (by omega) (by omega) ?_
      intro b54 w40 cur0 f41 lo54 hi54 hb54 hcs0 hc54
      have lt_b17_b54 : b17 < b54 := Nat.lt_of_lt_of_le hi17 lo54
      have lt_b9_b54 : b9 < b54 := Nat.lt_of_lt_of_le hi9 lo54
      replace lo54 := Nat.le_trans FR.size lo54
      replace FR := FR.tr0 f41
      replace hU : TabU w40 := hU.fr f41 (by first | (simp; done) | (simp only [List.mem_cons, List.mem_singleton, List.not_mem_nil, or_false]; omega))
      replace hi17 := Nat.lt_of_lt_of_le hi17 f41.size
      replace hc17 := fun i hi => Fr.cell f41 (hc17 i hi) (by first | (simp; done) | (simp only [List.mem_cons, List.mem_singleton, List.not_mem_nil, or_false]; omega))
      replace hb9 := f41.blk0 hb9
      replace hi9 := Nat.lt_of_lt_of_le hi9 f41.size
      have hfit : R ≤ cur0.size := by omega
      refine DL.y rfl rfl (Y.assign) ?_
      refine DL.nil ?_
      show DC _ _ _ _ _ _
      refine DC.forget [(0, .string s), (1, .int .u8 32), (6, .int .i64 (h : Int)), (10, .slice (some ⟨b54, 0, none⟩) R R)] ⟨rfl, rfl, rfl, rfl⟩ (fun e0 => ?_)
      refine DC.seq ?_
      refine DC.seq ?_
      refine DC.region ?_
      refine DL.y rfl rfl (Y.move) ?_
      refine DL.if rfl rfl (Y.eq rfl rfl) (fun c56 => ?_) (fun c56 => ?_)
      ·refine DL.nil ?_
       show DC _ _ _ _ _ _
       refine DC.condT rfl ?_
       refine DC.seq ?_
       refine DC.region ?_
       refine DL.y rfl rfl (Y.move) ?_
       refine DL.y rfl rfl (Y.move) ?_
       refine DL.copyStr (T := 5) (cur := cur0) rfl rfl F.el107 rfl rfl hb54 (by omega) (by omega) ?_
       intro cur1 w42 f43 hb' hcz1 hcp
       replace FR := FR.put f43 (by intro i hi; simp only [List.mem_cons, List.mem_singleton, List.not_mem_nil, or_false] at hi; rcases hi with rfl; all_goals (first | (left; simp; done) | (right; omega)))
       replace hU : TabU w42 := hU.fr f43 (by first | (simp; done) | (simp only [List.mem_cons, List.mem_singleton, List.not_mem_nil, or_false]; omega))
       replace hi17 := Nat.lt_of_lt_of_le hi17 f43.size
       replace hc17 := fun i hi => Fr.cell f43 (hc17 i hi) (by first | (simp; done) | (simp only [List.mem_cons, List.mem_singleton, List.not_mem_nil, or_false]; omega))
       replace hb9 := f43.blk hb9 (by simp only [List.mem_cons, List.not_mem_nil, or_false, not_or]; omega)
       replace hi9 := Nat.lt_of_lt_of_le hi9 f43.size
       replace hi54 := Nat.lt_of_lt_of_le hi54 f43.size
       replace hb54 := hb'
       refine DL.nil ?_
       show DC _ _ _ _ _ _
       refine DC.seq ?_
       refine DC.seq ?_
       refine DC.region ?_
       refine DL.y rfl rfl (Y.assign) ?_
       refine DL.nil ?_
       show DC _ _ _ _ _ _
       refine DC.block ?_
       refine DC.loopE (σ := Nat × Array Value) [(12, 12), (60, 72)] [(0, .string s), (10, .slice (some ⟨b54, 0, none⟩) R R)] (fun (i, _) => [(12, .int .i64 (i : Int))]) (fun sg wl => Fr [b54] w42 wl ∧ (fun (i, cur) wl => i ≤ s.size ∧ wl.heap[b54]? = some (.cells cur 5 (0, 0)) ∧ cur.size = cur0.size ∧ ∀ j (hj : j < s.data.toList.length), cur[j]? = some (.int .u8 (((if j < i then qb s.data.toList[j] else s.data.toList[j]).toNat : Nat) : Int))) sg wl) (fun (i, _) => s.size - i) ((0, cur1)) rfl ?_ ?_ ?_ ?_
       ·exact ⟨rfl, rfl⟩
       ·exact rfl
       ·exact ⟨Fr.refl _ _, Nat.zero_le _, hb54, hcz1, (fun j hj => by rw [if_neg (by omega)]; exact hcp j hj)⟩
       ·rintro e0 ⟨i, cur⟩ j w44 ⟨f45, hi0, hb54, hcz, hcj⟩
        replace FR := FR.put f45 (by intro i hi; simp only [List.mem_cons, List.mem_singleton, List.not_mem_nil, or_false] at hi; rcases hi with rfl; all_goals (first | (left; simp; done) | (right; omega)))
        replace hU : TabU w44 := hU.fr f45 (by first | (simp; done) | (simp only [List.mem_cons, List.mem_singleton, List.not_mem_nil, or_false]; omega))
        replace hi17 := Nat.lt_of_lt_of_le hi17 f45.size
        replace hc17 := fun i hi => Fr.cell f45 (hc17 i hi) (by first | (simp; done) | (simp only [List.mem_cons, List.mem_singleton, List.not_mem_nil, or_false]; omega))
        replace hb9 := f45.blk hb9 (by simp only [List.mem_cons, List.not_mem_nil, or_false, not_or]; omega)
        replace hi9 := Nat.lt_of_lt_of_le hi9 f45.size
        replace hi54 := Nat.lt_of_lt_of_le hi54 f45.size
        have G46 := f45
        have HG46 := Fr.refl [b54] w44
        refine DC.seq ?_
        refine DC.seq ?_
        refine DC.region ?_
        refine DL.y rfl rfl (Y.move) ?_
        refine DL.y rfl rfl (Y.move) ?_
        refine DL.y rfl rfl (Y.lenStr Tryz.underlying9 rfl) ?_
        refine DL.if rfl rfl (Y.lt rfl rfl) (fun c63 => ?_) (fun c63 => ?_)
        ·have hi : i < s.size := by omega
         have hu := s[i].toNat_lt
         refine DL.nil ?_
         show DC _ _ _ _ _ _
         refine DC.condT rfl ?_
         refine DC.skip ?_
         show DC _ _ _ _ _ _
         refine DC.seq ?_
         refine DC.block ?_
         refine DC.seq ?_
         refine DC.region ?_
         refine DL.y rfl rfl (Y.move) ?_
         refine DL.y rfl rfl (Y.move) ?_
         refine DL.y rfl rfl (Y.strIx (i := i) Tryz.underlying9 rfl rfl rfl hi) ?_
         refine DL.if rfl rfl (Y.eq rfl rfl) (fun c69 => ?_) (fun c69 => ?_)
         ·refine DL.nil ?_
          show DC _ _ _ _ _ _
          refine DC.condT rfl ?_
          refine DC.region ?_
          refine DL.y rfl rfl (Y.move) ?_
          refine DL.y rfl rfl (Y.move) ?_
          refine DL.y rfl rfl (Y.index (i := i) F.sl107 rfl rfl rfl (by omega)) ?_
          refine DL.store rfl F.co5 F.in5 rfl rfl rfl hb54 (by rw [Nat.blt_eq]; omega) ?_
          intro w47 f48 hs49 hb54'
          replace FR := FR.put f48 (by intro i hi; simp only [List.mem_cons, List.mem_singleton, List.not_mem_nil, or_false] at hi; rcases hi with rfl; all_goals (first | (left; simp; done) | (right; omega)))
          replace G46 := G46.put f48 (by intro i hi; simp only [List.mem_cons, List.mem_singleton, List.not_mem_nil, or_false] at hi; rcases hi with rfl; all_goals (first | (left; simp; done) | (right; omega)))
          replace HG46 := HG46.put f48 (by intro i hi; simp only [List.mem_cons, List.mem_singleton, List.not_mem_nil, or_false] at hi; rcases hi with rfl; all_goals (first | (left; simp; done) | (right; omega)))
          replace hU : TabU w47 := hU.fr f48 (by first | (simp; done) | (simp only [List.mem_cons, List.mem_singleton, List.not_mem_nil, or_false]; omega))
          replace hi17 := Nat.lt_of_lt_of_le hi17 f48.size
          replace hc17 := fun i hi => Fr.cell f48 (hc17 i hi) (by first | (simp; done) | (simp only [List.mem_cons, List.mem_singleton, List.not_mem_nil, or_false]; omega))
          replace hb9 := f48.blk hb9 (by simp only [List.mem_cons, List.not_mem_nil, or_false, not_or]; omega)
          replace hi9 := Nat.lt_of_lt_of_le hi9 f48.size
          replace hi54 := Nat.lt_of_lt_of_le hi54 f48.size
          replace hb54 := hb54'
          refine DL.nil ?_
          show DC _ _ _ _ _ _
          refine DC.region ?_
          refine DL.y rfl rfl (Y.move) ?_
          refine DL.y rfl rfl (Y.addI (c := ((i + 1 : Nat) : Int)) rfl rfl (by omega) (by omega) (by omega)) ?_
          refine DL.y rfl rfl (Y.assign) ?_
          refine DL.nil ?_
          refine ⟨(i + 1, _), ⟨G46, hi, hb54, by simpa using hcz, fun j hj => ?_⟩, by show s.size - (i + 1) < s.size - i; omega, rfl⟩
          have hje : s.data.toList[i]'(by rw [← size_list]; exact hi) = s[i] := rfl
          by_cases hji : j = i
          ·subst hji
           rw [show 0 + j * 1 = j by omega, Array.getElem?_setIfInBounds_self_of_lt (by omega), if_pos (by omega), hje, qb, if_pos (i32 c69)]; rfl
          ·rw [Array.getElem?_setIfInBounds_ne (by omega), hcj j hj]
           by_cases h1 : j < i
           ·rw [if_pos h1, if_pos (by omega)]
           ·rw [if_neg h1, if_neg (by omega)]
         ·refine DL.nil ?_
          show DC _ _ _ _ _ _
          refine DC.condF rfl ?_
          refine DC.skip ?_
          show DC _ _ _ _ _ _
          refine DC.region ?_
          refine DL.y rfl rfl (Y.move) ?_
          refine DL.y rfl rfl (Y.addI (c := ((i + 1 : Nat) : Int)) rfl rfl (by omega) (by omega) (by omega)) ?_
          refine DL.y rfl rfl (Y.assign) ?_
          refine DL.nil ?_
          refine ⟨(i + 1, cur), ⟨G46, hi, hb54, hcz, fun j hj => ?_⟩, by show s.size - (i + 1) < s.size - i; omega, rfl⟩
          have hje : s.data.toList[i]'(by rw [← size_list]; exact hi) = s[i] := rfl
          rw [hcj j hj]
          by_cases hji : j = i
          ·subst hji
           rw [if_neg (by omega), if_pos (by omega), hje, qb, if_neg (n32 c69)]
          ·by_cases h1 : j < i
           ·rw [if_pos h1, if_pos (by omega)]
           ·rw [if_neg h1, if_neg (by omega)]
        ·obtain rfl : i = s.size := by omega
         refine DL.nil ?_
         show DC _ _ _ _ _ _
         refine DC.condF rfl ?_
         refine DC.exit ?_
         show DC _ _ _ _ _ _
         refine DC.seq ?_
         refine DC.region ?_
         refine DL.y rfl rfl (Y.move) ?_
         refine DL.y rfl rfl (v := .string ⟨(s.data.toList.map qb).toArray⟩) (Y.cellsStr (l := s.data.toList.map qb) Tryz.underlying107 Tryz.underlying5 Tryz.underlying9 (show _ = Value.slice (some ⟨b54, 0, none⟩) (s.data.toList.map qb).length R by rw [List.length_map, ← size_list, show s.size = R by omega]; rfl) (fun q hq => cell_of_blk hb54 (by have h5 : q < s.data.toList.length := by { simpa using hq }; rw [Nat.zero_add, hcj q h5, if_pos (by rw [size_list]; exact h5)]; simp))) ?_
         refine DL.y rfl rfl (Y.assign) ?_
         refine DL.nil ?_
         show DC _ _ _ _ _ _
         refine DC.ret ?_
         refine FinQ.ret1 rfl (Ret.mk FR ⟨_, rfl, ?_⟩)
         show s.data.toList.map qb = _
         rw [qlL_plus _ (by omega)]
      ·refine DL.nil ?_
       show DC _ _ _ _ _ _
       refine DC.condF rfl ?_
       refine DC.skip ?_
       show DC _ _ _ _ _ _
       refine DC.forget [(0, .string s), (1, .int .u8 32), (6, .int .i64 (h : Int)), (10, .slice (some ⟨b54, 0, none⟩) R R)] ⟨rfl, rfl, rfl, rfl⟩ (fun e0 => ?_)
       refine DC.seq ?_
       refine DC.region ?_
       refine DL.y rfl rfl (Y.assign) ?_
       refine DL.nil ?_
       show DC _ _ _ _ _ _
       refine DC.seq ?_
       refine DC.seq ?_
       refine DC.region ?_
       refine DL.y rfl rfl (Y.move) ?_
       refine DL.bytesOf rfl rfl Tryz.underlying9 Tryz.underlying107 Tryz.underlying5 rfl ?_
       intro b76 w50 cap76 f51 lo76 hi76 hc76
       have lt_b17_b76 : b17 < b76 := Nat.lt_of_lt_of_le hi17 lo76
       have lt_b9_b76 : b9 < b76 := Nat.lt_of_lt_of_le hi9 lo76
       have lt_b54_b76 : b54 < b76 := Nat.lt_of_lt_of_le hi54 lo76
       replace lo76 := Nat.le_trans FR.size lo76
       replace FR := FR.tr0 f51
       replace hU : TabU w50 := hU.fr f51 (by first | (simp; done) | (simp only [List.mem_cons, List.mem_singleton, List.not_mem_nil, or_false]; omega))
       replace hi17 := Nat.lt_of_lt_of_le hi17 f51.size
       replace hc17 := fun i hi => Fr.cell f51 (hc17 i hi) (by first | (simp; done) | (simp only [List.mem_cons, List.mem_singleton, List.not_mem_nil, or_false]; omega))
       replace hb9 := f51.blk0 hb9
       replace hi9 := Nat.lt_of_lt_of_le hi9 f51.size
       replace hb54 := f51.blk0 hb54
       replace hi54 := Nat.lt_of_lt_of_le hi54 f51.size
       refine DL.y rfl rfl (Y.lenS Tryz.underlying107 rfl) ?_
       refine DL.y rfl rfl (Y.move) ?_
       refine DL.nil ?_
       show DC _ _ _ _ _ _
       refine DC.block ?_
       refine DC.loopE (σ := Nat × Nat × Array Value) [(13, 13), (15, 15), (78, 123)] [(0, .string s), (1, .int .u8 32), (10, .slice (some ⟨b54, 0, none⟩) R R), (76, .slice (some ⟨b76, 0, none⟩) s.size cap76), (77, .int .i64 (s.size : Int))] (fun (i, jj, _) => [(13, .int .i64 (jj : Int)), (78, .int .i64 (i : Int))]) (fun sg wl => Fr [b54] w50 wl ∧ (fun (i, jj, cur) wl => i ≤ s.size ∧ jj = (qlL (s.data.toList.take i)).length ∧ wl.heap[b54]? = some (.cells cur 5 (0, 0)) ∧ cur.size = cur0.size ∧ Pre cur (qlL (s.data.toList.take i))) sg wl) (fun (i, _, _) => s.size - i) ((0, 0, cur0)) rfl ?_ ?_ ?_ ?_
       ·exact ⟨rfl, rfl, rfl, rfl, rfl⟩
       ·exact ⟨rfl, rfl⟩
       ·exact ⟨Fr.refl _ _, Nat.zero_le _, rfl, hb54, rfl, (fun q hq => absurd hq (by simp [qlL]))⟩
       ·rintro e0 ⟨i, jj, cur⟩ j w52 ⟨f53, hi0, hj, hb54, hcz, hpre⟩
        replace FR := FR.put f53 (by intro i hi; simp only [List.mem_cons, List.mem_singleton, List.not_mem_nil, or_false] at hi; rcases hi with rfl; all_goals (first | (left; simp; done) | (right; omega)))
        replace hU : TabU w52 := hU.fr f53 (by first | (simp; done) | (simp only [List.mem_cons, List.mem_singleton, List.not_mem_nil, or_false]; omega))
        replace hi17 := Nat.lt_of_lt_of_le hi17 f53.size
        replace hc17 := fun i hi => Fr.cell f53 (hc17 i hi) (by first | (simp; done) | (simp only [List.mem_cons, List.mem_singleton, List.not_mem_nil, or_false]; omega))
        replace hb9 := f53.blk hb9 (by simp only [List.mem_cons, List.not_mem_nil, or_false, not_or]; omega)
        replace hi9 := Nat.lt_of_lt_of_le hi9 f53.size
        replace hi54 := Nat.lt_of_lt_of_le hi54 f53.size
        replace hi76 := Nat.lt_of_lt_of_le hi76 f53.size
        replace hc76 := fun i hi => Fr.cell f53 (hc76 i hi) (by first | (simp; done) | (simp only [List.mem_cons, List.mem_singleton, List.not_mem_nil, or_false]; omega))
        have G54 := f53
        have HG54 := Fr.refl [b54] w52
        have hjR := qlL_take_le s.data.toList i
        rw [← hRl, ← hj] at hjR
        refine DC.seq ?_
        refine DC.region ?_
        refine DL.if rfl rfl (Y.lt rfl rfl) (fun c79 => ?_) (fun c79 => ?_)
        ·have hi : i < s.size := by omega
         have hu := s[i].toNat_lt
         have hq1 := qlL_take_le s.data.toList (i + 1)
         rw [qlL_succ hi, List.length_append, ← hRl, ← hj] at hq1
         have hq0 := escQ_pos s[i]
         refine DL.nil ?_
         show DC _ _ _ _ _ _
         refine DC.seq ?_
         refine DC.condT rfl ?_
         refine DC.skip ?_
         show DC _ _ _ _ _ _
         refine DC.seq ?_
         refine DC.block ?_
         refine DC.seq ?_
         refine DC.region ?_
         refine DL.y rfl rfl (Y.index F.sl107 rfl rfl (rfl) (hi)) ?_
         refine DL.y rfl rfl (v := .int .u8 (s[i].toNat : Int)) (Y.load F.sc5 rfl (by have h := hc76 i (by rw [← size_list]; exact hi); exact h)) ?_
         refine DL.y rfl rfl (Y.assign) ?_
         refine DL.nil ?_
         show DC _ _ _ _ _ _
         refine DC.forget [(0, .string s), (1, .int .u8 32), (10, .slice (some ⟨b54, 0, none⟩) R R), (76, .slice (some ⟨b76, 0, none⟩) s.size cap76), (77, .int .i64 (s.size : Int)), (13, .int .i64 (jj : Int)), (15, .int .u8 (s[i].toNat : Int)), (78, .int .i64 (i : Int))] ⟨rfl, rfl, rfl, rfl, rfl, rfl, rfl, rfl⟩ (fun e0 => ?_)
         refine DC.block ?_
         refine DC.seq ?_
         refine DC.region ?_
         refine DL.y rfl rfl (Y.move) ?_
         refine DL.if rfl rfl (Y.eq rfl rfl) (fun c90 => ?_) (fun c90 => ?_)
         ·refine DL.y rfl rfl (Y.move) ?_
          refine DL.y rfl rfl (Y.move) ?_
          refine DL.if rfl rfl (Y.eq rfl rfl) (fun c93 => ?_) (fun c93 => ?_)
          ·refine DL.y rfl rfl (Y.pickT rfl) ?_
           refine DL.y rfl rfl (Y.assign) ?_
           refine DL.nil ?_
           show DC _ _ _ _ _ _
           refine DC.condT rfl ?_
           refine DC.seq ?_
           refine DC.region ?_
           refine DL.y rfl rfl (Y.move) ?_
           refine DL.y rfl rfl (Y.move) ?_
           refine DL.y rfl rfl (Y.index (i := jj) F.sl107 rfl rfl rfl (by omega)) ?_
           refine DL.store rfl F.co5 F.in5 rfl rfl rfl hb54 (by rw [Nat.blt_eq]; omega) ?_
           intro w55 f56 hs57 hb54'
           replace FR := FR.put f56 (by intro i hi; simp only [List.mem_cons, List.mem_singleton, List.not_mem_nil, or_false] at hi; rcases hi with rfl; all_goals (first | (left; simp; done) | (right; omega)))
           replace G54 := G54.put f56 (by intro i hi; simp only [List.mem_cons, List.mem_singleton, List.not_mem_nil, or_false] at hi; rcases hi with rfl; all_goals (first | (left; simp; done) | (right; omega)))
           replace HG54 := HG54.put f56 (by intro i hi; simp only [List.mem_cons, List.mem_singleton, List.not_mem_nil, or_false] at hi; rcases hi with rfl; all_goals (first | (left; simp; done) | (right; omega)))
           replace hU : TabU w55 := hU.fr f56 (by first | (simp; done) | (simp only [List.mem_cons, List.mem_singleton, List.not_mem_nil, or_false]; omega))
           replace hi17 := Nat.lt_of_lt_of_le hi17 f56.size
           replace hc17 := fun i hi => Fr.cell f56 (hc17 i hi) (by first | (simp; done) | (simp only [List.mem_cons, List.mem_singleton, List.not_mem_nil, or_false]; omega))
           replace hb9 := f56.blk hb9 (by simp only [List.mem_cons, List.not_mem_nil, or_false, not_or]; omega)
           replace hi9 := Nat.lt_of_lt_of_le hi9 f56.size
           replace hi54 := Nat.lt_of_lt_of_le hi54 f56.size
           replace hi76 := Nat.lt_of_lt_of_le hi76 f56.size
           replace hc76 := fun i hi => Fr.cell f56 (hc76 i hi) (by first | (simp; done) | (simp only [List.mem_cons, List.mem_singleton, List.not_mem_nil, or_false]; omega))
           replace hb54 := hb54'
           refine DL.nil ?_
           show DC _ _ _ _ _ _
           refine DC.region ?_
           refine DL.y rfl rfl (Y.move) ?_
           refine DL.y rfl rfl (Y.addI (c := ((jj + 1 : Nat) : Int)) rfl rfl (by omega) (by omega) (by omega)) ?_
           refine DL.y rfl rfl (Y.assign) ?_
           refine DL.nil ?_
           show DC _ _ _ _ _ _
           refine DC.region ?_
           refine DL.y rfl rfl (Y.addI (c := ((i + 1 : Nat) : Int)) rfl rfl (by omega) (by omega) (by omega)) ?_
           refine DL.y rfl rfl (Y.move) ?_
           refine DL.nil ?_
           have e1 := qlL_succ hi
           rw [escQ, if_neg (by rw [i32 c90]; decide), if_pos (i32 c90)] at e1
           refine ⟨(i + 1, jj + 1, _), ⟨G54, hi, by rw [e1, List.length_append, ← hj]; rfl, hb54, by simpa using hcz, by rw [e1]; exact hpre.push (c := 43) hj (by omega)⟩, by show s.size - (i + 1) < s.size - i; omega, rfl, rfl⟩
          ·exfalso; omega
         ·refine DL.y rfl rfl (Y.move) ?_
          refine DL.skip rfl rfl ?_
          refine DL.skip rfl rfl ?_
          refine DL.y rfl rfl (Y.pickF rfl) ?_
          refine DL.y rfl rfl (Y.assign) ?_
          refine DL.nil ?_
          show DC _ _ _ _ _ _
          refine DC.condF rfl ?_
          refine DC.forget [(0, .string s), (1, .int .u8 32), (10, .slice (some ⟨b54, 0, none⟩) R R), (76, .slice (some ⟨b76, 0, none⟩) s.size cap76), (77, .int .i64 (s.size : Int)), (13, .int .i64 (jj : Int)), (15, .int .u8 (s[i].toNat : Int)), (78, .int .i64 (i : Int))] ⟨rfl, rfl, rfl, rfl, rfl, rfl, rfl, rfl⟩ (fun e0 => ?_)
          refine DC.seq ?_
          refine DC.region ?_
          have hq32 := n32 c90
          refine DL.y rfl rfl (Y.move) ?_
          refine DL.y rfl rfl (Y.move) ?_
          refine DL.call rfl rfl F.nm157 rfl (should_any s[i] _ hU) ?_
          rintro _ w58 f59 ⟨q103, rfl, hq103⟩
          replace FR := FR.tr0 f59
          replace G54 := G54.tr0 f59
          replace HG54 := HG54.tr0 f59
          replace hU : TabU w58 := hU.fr f59 (by first | (simp; done) | (simp only [List.mem_cons, List.mem_singleton, List.not_mem_nil, or_false]; omega))
          replace hi17 := Nat.lt_of_lt_of_le hi17 f59.size
          replace hc17 := fun i hi => Fr.cell f59 (hc17 i hi) (by first | (simp; done) | (simp only [List.mem_cons, List.mem_singleton, List.not_mem_nil, or_false]; omega))
          replace hb9 := f59.blk0 hb9
          replace hi9 := Nat.lt_of_lt_of_le hi9 f59.size
          replace hi54 := Nat.lt_of_lt_of_le hi54 f59.size
          replace hi76 := Nat.lt_of_lt_of_le hi76 f59.size
          replace hc76 := fun i hi => Fr.cell f59 (hc76 i hi) (by first | (simp; done) | (simp only [List.mem_cons, List.mem_singleton, List.not_mem_nil, or_false]; omega))
          replace hb54 := f59.blk0 hb54
          refine (Bool.eq_false_or_eq_true q103).elim (fun hq103 => ?_) (fun hq103 => ?_)
          ·subst hq103
           refine DL.y rfl rfl (Y.assign) ?_
           refine DL.nil ?_
           show DC _ _ _ _ _ _
           refine DC.condT rfl ?_
           refine DC.seq ?_
           refine DC.region ?_
           refine DL.y rfl rfl (Y.move) ?_
           have hq3 := escQ_three (by simpa using hq103) hq32
           refine DL.y rfl rfl (Y.move) ?_
           refine DL.y rfl rfl (Y.index (i := jj) F.sl107 rfl rfl rfl (by omega)) ?_
           refine DL.store rfl F.co5 F.in5 rfl rfl rfl hb54 (by rw [Nat.blt_eq]; omega) ?_
           intro w60 f61 hs62 hb54'
           replace FR := FR.put f61 (by intro i hi; simp only [List.mem_cons, List.mem_singleton, List.not_mem_nil, or_false] at hi; rcases hi with rfl; all_goals (first | (left; simp; done) | (right; omega)))
           replace G54 := G54.put f61 (by intro i hi; simp only [List.mem_cons, List.mem_singleton, List.not_mem_nil, or_false] at hi; rcases hi with rfl; all_goals (first | (left; simp; done) | (right; omega)))
           replace HG54 := HG54.put f61 (by intro i hi; simp only [List.mem_cons, List.mem_singleton, List.not_mem_nil, or_false] at hi; rcases hi with rfl; all_goals (first | (left; simp; done) | (right; omega)))
           replace hU : TabU w60 := hU.fr f61 (by first | (simp; done) | (simp only [List.mem_cons, List.mem_singleton, List.not_mem_nil, or_false]; omega))
           replace hi17 := Nat.lt_of_lt_of_le hi17 f61.size
           replace hc17 := fun i hi => Fr.cell f61 (hc17 i hi) (by first | (simp; done) | (simp only [List.mem_cons, List.mem_singleton, List.not_mem_nil, or_false]; omega))
           replace hb9 := f61.blk hb9 (by simp only [List.mem_cons, List.not_mem_nil, or_false, not_or]; omega)
           replace hi9 := Nat.lt_of_lt_of_le hi9 f61.size
           replace hi54 := Nat.lt_of_lt_of_le hi54 f61.size
           replace hi76 := Nat.lt_of_lt_of_le hi76 f61.size
           replace hc76 := fun i hi => Fr.cell f61 (hc76 i hi) (by first | (simp; done) | (simp only [List.mem_cons, List.mem_singleton, List.not_mem_nil, or_false]; omega))
           replace hb54 := hb54'
           refine DL.nil ?_
           show DC _ _ _ _ _ _
           refine DC.forget [(0, .string s), (1, .int .u8 32), (10, .slice (some ⟨b54, 0, none⟩) R R), (76, .slice (some ⟨b76, 0, none⟩) s.size cap76), (77, .int .i64 (s.size : Int)), (13, .int .i64 (jj : Int)), (15, .int .u8 (s[i].toNat : Int)), (78, .int .i64 (i : Int))] ⟨rfl, rfl, rfl, rfl, rfl, rfl, rfl, rfl⟩ (fun e0 => ?_)
           refine DC.seq ?_
           refine DC.region ?_
           refine DL.y rfl rfl (Y.move) ?_
           refine DL.y rfl rfl (Y.move) ?_
           refine DL.y rfl rfl (Y.addI (c := ((jj + 1 : Nat) : Int)) rfl rfl (by omega) (by omega) (by omega)) ?_
           refine DL.y rfl rfl (Y.move) ?_
           refine DL.y rfl rfl (Y.shrN (k := .u8) (k' := .u64) (m := 4) (a := s[i].toNat) (c := s[i].toNat / 16) rfl rfl (by decide) rfl) ?_
           refine DL.y rfl rfl (Y.strIxV (i := s[i].toNat / 16) Tryz.underlying9 rfl rfl rfl (hexAt (s[i].toNat / 16) (by omega))) ?_
           refine DL.y rfl rfl (Y.index (i := jj + 1) F.sl107 rfl rfl rfl (by omega)) ?_
           refine DL.store rfl F.co5 F.in5 rfl rfl rfl hb54 (by rw [Nat.blt_eq]; simp; omega) ?_
           intro w63 f64 hs65 hb54'
           replace FR := FR.put f64 (by intro i hi; simp only [List.mem_cons, List.mem_singleton, List.not_mem_nil, or_false] at hi; rcases hi with rfl; all_goals (first | (left; simp; done) | (right; omega)))
           replace G54 := G54.put f64 (by intro i hi; simp only [List.mem_cons, List.mem_singleton, List.not_mem_nil, or_false] at hi; rcases hi with rfl; all_goals (first | (left; simp; done) | (right; omega)))
           replace HG54 := HG54.put f64 (by intro i hi; simp only [List.mem_cons, List.mem_singleton, List.not_mem_nil, or_false] at hi; rcases hi with rfl; all_goals (first | (left; simp; done) | (right; omega)))
           replace hU : TabU w63 := hU.fr f64 (by first | (simp; done) | (simp only [List.mem_cons, List.mem_singleton, List.not_mem_nil, or_false]; omega))
           replace hi17 := Nat.lt_of_lt_of_le hi17 f64.size
           replace hc17 := fun i hi => Fr.cell f64 (hc17 i hi) (by first | (simp; done) | (simp only [List.mem_cons, List.mem_singleton, List.not_mem_nil, or_false]; omega))
           replace hb9 := f64.blk hb9 (by simp only [List.mem_cons, List.not_mem_nil, or_false, not_or]; omega)
           replace hi9 := Nat.lt_of_lt_of_le hi9 f64.size
           replace hi54 := Nat.lt_of_lt_of_le hi54 f64.size
           replace hi76 := Nat.lt_of_lt_of_le hi76 f64.size
           replace hc76 := fun i hi => Fr.cell f64 (hc76 i hi) (by first | (simp; done) | (simp only [List.mem_cons, List.mem_singleton, List.not_mem_nil, or_false]; omega))
           replace hb54 := hb54'
           refine DL.nil ?_
           show DC _ _ _ _ _ _
           refine DC.forget [(0, .string s), (1, .int .u8 32), (10, .slice (some ⟨b54, 0, none⟩) R R), (76, .slice (some ⟨b76, 0, none⟩) s.size cap76), (77, .int .i64 (s.size : Int)), (13, .int .i64 (jj : Int)), (15, .int .u8 (s[i].toNat : Int)), (78, .int .i64 (i : Int))] ⟨rfl, rfl, rfl, rfl, rfl, rfl, rfl, rfl⟩ (fun e0 => ?_)
           refine DC.seq ?_
           refine DC.region ?_
           refine DL.y rfl rfl (Y.move) ?_
           refine DL.y rfl rfl (Y.move) ?_
           refine DL.y rfl rfl (Y.addI (c := ((jj + 2 : Nat) : Int)) rfl rfl (by omega) (by omega) (by omega)) ?_
           refine DL.y rfl rfl (Y.move) ?_
           refine DL.y rfl rfl (Y.andN (k := .u8) (a := s[i].toNat) (b := 15) rfl rfl (show s[i].toNat < 2 ^ 8 from hu) (by decide) (and15u s[i])) ?_
           refine DL.y rfl rfl (Y.strIxV (i := s[i].toNat % 16) Tryz.underlying9 rfl rfl rfl (hexAt (s[i].toNat % 16) (by omega))) ?_
           refine DL.y rfl rfl (Y.index (i := jj + 2) F.sl107 rfl rfl rfl (by omega)) ?_
           refine DL.store rfl F.co5 F.in5 rfl rfl rfl hb54 (by rw [Nat.blt_eq]; simp; omega) ?_
           intro w66 f67 hs68 hb54'
           replace FR := FR.put f67 (by intro i hi; simp only [List.mem_cons, List.mem_singleton, List.not_mem_nil, or_false] at hi; rcases hi with rfl; all_goals (first | (left; simp; done) | (right; omega)))
           replace G54 := G54.put f67 (by intro i hi; simp only [List.mem_cons, List.mem_singleton, List.not_mem_nil, or_false] at hi; rcases hi with rfl; all_goals (first | (left; simp; done) | (right; omega)))
           replace HG54 := HG54.put f67 (by intro i hi; simp only [List.mem_cons, List.mem_singleton, List.not_mem_nil, or_false] at hi; rcases hi with rfl; all_goals (first | (left; simp; done) | (right; omega)))
           replace hU : TabU w66 := hU.fr f67 (by first | (simp; done) | (simp only [List.mem_cons, List.mem_singleton, List.not_mem_nil, or_false]; omega))
           replace hi17 := Nat.lt_of_lt_of_le hi17 f67.size
           replace hc17 := fun i hi => Fr.cell f67 (hc17 i hi) (by first | (simp; done) | (simp only [List.mem_cons, List.mem_singleton, List.not_mem_nil, or_false]; omega))
           replace hb9 := f67.blk hb9 (by simp only [List.mem_cons, List.not_mem_nil, or_false, not_or]; omega)
           replace hi9 := Nat.lt_of_lt_of_le hi9 f67.size
           replace hi54 := Nat.lt_of_lt_of_le hi54 f67.size
           replace hi76 := Nat.lt_of_lt_of_le hi76 f67.size
           replace hc76 := fun i hi => Fr.cell f67 (hc76 i hi) (by first | (simp; done) | (simp only [List.mem_cons, List.mem_singleton, List.not_mem_nil, or_false]; omega))
           replace hb54 := hb54'
           refine DL.nil ?_
           show DC _ _ _ _ _ _
           refine DC.forget [(0, .string s), (1, .int .u8 32), (10, .slice (some ⟨b54, 0, none⟩) R R), (76, .slice (some ⟨b76, 0, none⟩) s.size cap76), (77, .int .i64 (s.size : Int)), (13, .int .i64 (jj : Int)), (15, .int .u8 (s[i].toNat : Int)), (78, .int .i64 (i : Int))] ⟨rfl, rfl, rfl, rfl, rfl, rfl, rfl, rfl⟩ (fun e0 => ?_)
           refine DC.region ?_
           refine DL.y rfl rfl (Y.move) ?_
           refine DL.y rfl rfl (Y.addI (c := ((jj + 3 : Nat) : Int)) rfl rfl (by omega) (by omega) (by omega)) ?_
           refine DL.y rfl rfl (Y.assign) ?_
           refine DL.nil ?_
           show DC _ _ _ _ _ _
           refine DC.region ?_
           refine DL.y rfl rfl (Y.addI (c := ((i + 1 : Nat) : Int)) rfl rfl (by omega) (by omega) (by omega)) ?_
           refine DL.y rfl rfl (Y.move) ?_
           refine DL.nil ?_
           have e1 := qlL_succ hi
           rw [escQ, if_neg (by simpa using hq103), if_neg (n32 c90)] at e1
           refine ⟨(i + 1, jj + 3, _), ⟨G54, hi, by rw [e1, List.length_append, ← hj]; rfl, hb54, by simpa using hcz, ?_⟩, by show s.size - (i + 1) < s.size - i; omega, rfl, rfl⟩
           have p1 := hpre.push (c := 37) hj (by omega)
           have p2 := p1.push (c := hexU (s[i].toNat / 16)) (j := jj + 1) (by rw [List.length_append]; exact congrArg (· + 1) hj) (by simp; omega)
           have p3 := p2.push (c := hexU (s[i].toNat % 16)) (j := jj + 2) (by simp only [List.length_append, List.length_singleton]; omega) (by simp; omega)
           rw [e1, show ∀ (x : List UInt8) (a b : UInt8), x ++ [37, a, b] = x ++ [37] ++ [a] ++ [b] from fun x a b => by simp]
           exact p3
          ·subst hq103
           refine DL.y rfl rfl (Y.assign) ?_
           refine DL.nil ?_
           show DC _ _ _ _ _ _
           refine DC.condF rfl ?_
           refine DC.forget [(0, .string s), (1, .int .u8 32), (10, .slice (some ⟨b54, 0, none⟩) R R), (76, .slice (some ⟨b76, 0, none⟩) s.size cap76), (77, .int .i64 (s.size : Int)), (13, .int .i64 (jj : Int)), (15, .int .u8 (s[i].toNat : Int)), (78, .int .i64 (i : Int))] ⟨rfl, rfl, rfl, rfl, rfl, rfl, rfl, rfl⟩ (fun e0 => ?_)
           refine DC.seq ?_
           refine DC.region ?_
           refine DL.y rfl rfl (Y.move) ?_
           refine DL.y rfl rfl (Y.move) ?_
           refine DL.y rfl rfl (Y.move) ?_
           refine DL.y rfl rfl (Y.index (i := jj) F.sl107 rfl rfl rfl (by omega)) ?_
           refine DL.store rfl F.co5 F.in5 rfl rfl rfl hb54 (by rw [Nat.blt_eq]; omega) ?_
           intro w69 f70 hs71 hb54'
           replace FR := FR.put f70 (by intro i hi; simp only [List.mem_cons, List.mem_singleton, List.not_mem_nil, or_false] at hi; rcases hi with rfl; all_goals (first | (left; simp; done) | (right; omega)))
           replace G54 := G54.put f70 (by intro i hi; simp only [List.mem_cons, List.mem_singleton, List.not_mem_nil, or_false] at hi; rcases hi with rfl; all_goals (first | (left; simp; done) | (right; omega)))
           replace HG54 := HG54.put f70 (by intro i hi; simp only [List.mem_cons, List.mem_singleton, List.not_mem_nil, or_false] at hi; rcases hi with rfl; all_goals (first | (left; simp; done) | (right; omega)))
           replace hU : TabU w69 := hU.fr f70 (by first | (simp; done) | (simp only [List.mem_cons, List.mem_singleton, List.not_mem_nil, or_false]; omega))
           replace hi17 := Nat.lt_of_lt_of_le hi17 f70.size
           replace hc17 := fun i hi => Fr.cell f70 (hc17 i hi) (by first | (simp; done) | (simp only [List.mem_cons, List.mem_singleton, List.not_mem_nil, or_false]; omega))
           replace hb9 := f70.blk hb9 (by simp only [List.mem_cons, List.not_mem_nil, or_false, not_or]; omega)
           replace hi9 := Nat.lt_of_lt_of_le hi9 f70.size
           replace hi54 := Nat.lt_of_lt_of_le hi54 f70.size
           replace hi76 := Nat.lt_of_lt_of_le hi76 f70.size
           replace hc76 := fun i hi => Fr.cell f70 (hc76 i hi) (by first | (simp; done) | (simp only [List.mem_cons, List.mem_singleton, List.not_mem_nil, or_false]; omega))
           replace hb54 := hb54'
           refine DL.nil ?_
           show DC _ _ _ _ _ _
           refine DC.region ?_
           refine DL.y rfl rfl (Y.move) ?_
           refine DL.y rfl rfl (Y.addI (c := ((jj + 1 : Nat) : Int)) rfl rfl (by omega) (by omega) (by omega)) ?_
           refine DL.y rfl rfl (Y.assign) ?_
           refine DL.nil ?_
           show DC _ _ _ _ _ _
           refine DC.region ?_
           refine DL.y rfl rfl (Y.addI (c := ((i + 1 : Nat) : Int)) rfl rfl (by omega) (by omega) (by omega)) ?_
           refine DL.y rfl rfl (Y.move) ?_
           refine DL.nil ?_
           have e1 := qlL_succ hi
           rw [escQ, if_pos (by simpa using hq103)] at e1
           refine ⟨(i + 1, jj + 1, _), ⟨G54, hi, by rw [e1, List.length_append, ← hj]; rfl, hb54, by simpa using hcz, by rw [e1]; exact hpre.push (c := s[i]) hj (by omega)⟩, by show s.size - (i + 1) < s.size - i; omega, rfl, rfl⟩
        ·obtain rfl : i = s.size := by omega
         have hts2 : s.data.toList.take s.size = s.data.toList := by rw [size_list, List.take_length]
         rw [hts2] at hpre
         refine DL.nil ?_
         show DC _ _ _ _ _ _
         refine DC.seq ?_
         refine DC.condF rfl ?_
         refine DC.exit ?_
         show DC _ _ _ _ _ _
         refine DC.seq ?_
         refine DC.region ?_
         refine DL.y rfl rfl (Y.move) ?_
         refine DL.y rfl rfl (v := .string ⟨(qlL s.data.toList).toArray⟩) (Y.cellsStr (l := qlL s.data.toList) Tryz.underlying107 Tryz.underlying5 Tryz.underlying9 (show _ = Value.slice (some ⟨b54, 0, none⟩) (qlL s.data.toList).length R by rw [← hRl]; rfl) (fun q hq => cell_of_blk hb54 (by rw [Nat.zero_add]; exact hpre q hq))) ?_
         refine DL.y rfl rfl (Y.assign) ?_
         refine DL.nil ?_
         show DC _ _ _ _ _ _
         refine DC.ret ?_
         exact FinQ.ret1 rfl (Ret.mk FR ⟨_, rfl, rfl⟩)
   ·refine DL.y rfl rfl (Y.move) ?_
    refine DL.skip rfl rfl ?_
    refine DL.skip rfl rfl ?_
    refine DL.y rfl rfl (Y.pickF rfl) ?_
    refine DL.nil ?_
    show DC _ _ _ _ _ _
    refine DC.condF rfl ?_
    refine DC.skip ?_
    show DC _ _ _ _ _ _
    refine DC.seq ?_
    refine DC.region ?_
    refine DL.alloc rfl rfl F.z162 rfl ?_
    intro b9 w72 f73 lo9 hi9 hb9
    have lt_b17_b9 : b17 < b9 := Nat.lt_of_lt_of_le hi17 lo9
    replace lo9 := Nat.le_trans FR.size lo9
    replace FR := FR.tr0 f73
    replace hU : TabU w72 := hU.fr f73 (by first | (simp; done) | (simp only [List.mem_cons, List.mem_singleton, List.not_mem_nil, or_false]; omega))
    replace hi17 := Nat.lt_of_lt_of_le hi17 f73.size
    replace hc17 := fun i hi => Fr.cell f73 (hc17 i hi) (by first | (simp; done) | (simp only [List.mem_cons, List.mem_singleton, List.not_mem_nil, or_false]; omega))
    refine DL.nil ?_
    show DC _ _ _ _ _ _
    refine DC.seq ?_
    refine DC.region ?_
    refine DL.y rfl rfl (Y.assign) ?_
    refine DL.nil ?_
    show DC _ _ _ _ _ _
    refine DC.seq ?_
    refine DC.region ?_
    refine DL.y rfl rfl (Y.move) ?_
    refine DL.y rfl rfl (Y.lenStr Tryz.underlying9 rfl) ?_
    refine DL.y rfl rfl (Y.move) ?_
    refine DL.y rfl rfl (Y.mulI (c := ((2 * h : Nat) : Int)) rfl rfl (by omega) (by omega) (by omega)) ?_
    refine DL.y rfl rfl (Y.addI (c := ((R : Nat) : Int)) rfl rfl (by omega) (by omega) (by omega)) ?_
    refine DL.y rfl rfl (Y.assign) ?_
    refine DL.nil ?_
    show DC _ _ _ _ _ _
    refine DC.seq ?_
    refine DC.seq ?_
    refine DC.region ?_
    refine DL.y rfl rfl (Y.move) ?_
    refine DL.if rfl rfl (Y.le rfl rfl) (fun c50 => ?_) (fun c50 => ?_)
    ·refine DL.nil ?_
     show DC _ _ _ _ _ _
     refine DC.condT rfl ?_
     refine DC.region ?_
     refine DL.y rfl rfl (Y.move) ?_
     obtain ⟨cur0, hcs0, hb9'⟩ : ∃ cur0 : Array Value, cur0.size = 64 ∧ w72.heap[b9]? = some (.cells cur0 162 (0, 0)) := ⟨_, rfl, hb9⟩
     replace hb9 := hb9'
     have hfit : R ≤ cur0.size := by omega
     refine DL.y rfl rfl (Y.sliceArrH (h := R) arr64u rfl rfl (by omega)) ?_
     refine DL.y rfl rfl (Y.assign) ?_
     refine DL.nil ?_
     show DC _ _ _ _ _ _
     refine DC.forget [(0, .string s), (1, .int .u8 32), (6, .int .i64 (h : Int)), (10, .slice (some ⟨b9, 0, none⟩) R 64)] ⟨rfl, rfl, rfl, rfl⟩ (fun e0 => ?_)
     refine DC.seq ?_
     refine DC.seq ?_
     refine DC.region ?_
     refine DL.y rfl rfl (Y.move) ?_
     refine DL.if rfl rfl (Y.eq rfl rfl) (fun c56 => ?_) (fun c56 => ?_)
     ·refine DL.nil ?_
      show DC _ _ _ _ _ _
      refine DC.condT rfl ?_
      refine DC.seq ?_
      refine DC.region ?_
      refine DL.y rfl rfl (Y.move) ?_
      refine DL.y rfl rfl (Y.move) ?_
      refine DL.copyStr (T := 162) (cur := cur0) rfl rfl F.el107 rfl rfl hb9 (by omega) (by omega) ?_
      intro cur1 w74 f75 hb' hcz1 hcp
      replace FR := FR.put f75 (by intro i hi; simp only [List.mem_cons, List.mem_singleton, List.not_mem_nil, or_false] at hi; rcases hi with rfl; all_goals (first | (left; simp; done) | (right; omega)))
      replace hU : TabU w74 := hU.fr f75 (by first | (simp; done) | (simp only [List.mem_cons, List.mem_singleton, List.not_mem_nil, or_false]; omega))
      replace hi17 := Nat.lt_of_lt_of_le hi17 f75.size
      replace hc17 := fun i hi => Fr.cell f75 (hc17 i hi) (by first | (simp; done) | (simp only [List.mem_cons, List.mem_singleton, List.not_mem_nil, or_false]; omega))
      replace hi9 := Nat.lt_of_lt_of_le hi9 f75.size
      replace hb9 := hb'
      refine DL.nil ?_
      show DC _ _ _ _ _ _
      refine DC.seq ?_
      refine DC.seq ?_
      refine DC.region ?_
      refine DL.y rfl rfl (Y.assign) ?_
      refine DL.nil ?_
      show DC _ _ _ _ _ _
      refine DC.block ?_
      refine DC.loopE (σ := Nat × Array Value) [(12, 12), (60, 72)] [(0, .string s), (10, .slice (some ⟨b9, 0, none⟩) R 64)] (fun (i, _) => [(12, .int .i64 (i : Int))]) (fun sg wl => Fr [b9] w74 wl ∧ (fun (i, cur) wl => i ≤ s.size ∧ wl.heap[b9]? = some (.cells cur 162 (0, 0)) ∧ cur.size = cur0.size ∧ ∀ j (hj : j < s.data.toList.length), cur[j]? = some (.int .u8 (((if j < i then qb s.data.toList[j] else s.data.toList[j]).toNat : Nat) : Int))) sg wl) (fun (i, _) => s.size - i) ((0, cur1)) rfl ?_ ?_ ?_ ?_
      ·exact ⟨rfl, rfl⟩
      ·exact rfl
      ·exact ⟨Fr.refl _ _, Nat.zero_le _, hb9, hcz1, (fun j hj => by rw [if_neg (by omega)]; exact hcp j hj)⟩
      ·rintro e0 ⟨i, cur⟩ j w76 ⟨f77, hi0, hb9, hcz, hcj⟩
       replace FR := FR.put f77 (by intro i hi; simp only [List.mem_cons, List.mem_singleton, List.not_mem_nil, or_false] at hi; rcases hi with rfl; all_goals (first | (left; simp; done) | (right; omega)))
       replace hU : TabU w76 := hU.fr f77 (by first | (simp; done) | (simp only [List.mem_cons, List.mem_singleton, List.not_mem_nil, or_false]; omega))
       replace hi17 := Nat.lt_of_lt_of_le hi17 f77.size
       replace hc17 := fun i hi => Fr.cell f77 (hc17 i hi) (by first | (simp; done) | (simp only [List.mem_cons, List.mem_singleton, List.not_mem_nil, or_false]; omega))
       replace hi9 := Nat.lt_of_lt_of_le hi9 f77.size
       have G78 := f77
       have HG78 := Fr.refl [b9] w76
       refine DC.seq ?_
       refine DC.seq ?_
       refine DC.region ?_
       refine DL.y rfl rfl (Y.move) ?_
       refine DL.y rfl rfl (Y.move) ?_
       refine DL.y rfl rfl (Y.lenStr Tryz.underlying9 rfl) ?_
       refine DL.if rfl rfl (Y.lt rfl rfl) (fun c63 => ?_) (fun c63 => ?_)
       ·have hi : i < s.size := by omega
        have hu := s[i].toNat_lt
        refine DL.nil ?_
        show DC _ _ _ _ _ _
        refine DC.condT rfl ?_
        refine DC.skip ?_
        show DC _ _ _ _ _ _
        refine DC.seq ?_
        refine DC.block ?_
        refine DC.seq ?_
        refine DC.region ?_
        refine DL.y rfl rfl (Y.move) ?_
        refine DL.y rfl rfl (Y.move) ?_
        refine DL.y rfl rfl (Y.strIx (i := i) Tryz.underlying9 rfl rfl rfl hi) ?_
        refine DL.if rfl rfl (Y.eq rfl rfl) (fun c69 => ?_) (fun c69 => ?_)
        ·refine DL.nil ?_
         show DC _ _ _ _ _ _
         refine DC.condT rfl ?_
         refine DC.region ?_
         refine DL.y rfl rfl (Y.move) ?_
         refine DL.y rfl rfl (Y.move) ?_
         refine DL.y rfl rfl (Y.index (i := i) F.sl107 rfl rfl rfl (by omega)) ?_
         refine DL.store rfl F.co5 F.in5 rfl rfl rfl hb9 (by rw [Nat.blt_eq]; omega) ?_
         intro w79 f80 hs81 hb9'
         replace FR := FR.put f80 (by intro i hi; simp only [List.mem_cons, List.mem_singleton, List.not_mem_nil, or_false] at hi; rcases hi with rfl; all_goals (first | (left; simp; done) | (right; omega)))
         replace G78 := G78.put f80 (by intro i hi; simp only [List.mem_cons, List.mem_singleton, List.not_mem_nil, or_false] at hi; rcases hi with rfl; all_goals (first | (left; simp; done) | (right; omega)))
         replace HG78 := HG78.put f80 (by intro i hi; simp only [List.mem_cons, List.mem_singleton, List.not_mem_nil, or_false] at hi; rcases hi with rfl; all_goals (first | (left; simp; done) | (right; omega)))
         replace hU : TabU w79 := hU.fr f80 (by first | (simp; done) | (simp only [List.mem_cons, List.mem_singleton, List.not_mem_nil, or_false]; omega))
         replace hi17 := Nat.lt_of_lt_of_le hi17 f80.size
         replace hc17 := fun i hi => Fr.cell f80 (hc17 i hi) (by first | (simp; done) | (simp only [List.mem_cons, List.mem_singleton, List.not_mem_nil, or_false]; omega))
         replace hi9 := Nat.lt_of_lt_of_le hi9 f80.size
         replace hb9 := hb9'
         refine DL.nil ?_
         show DC _ _ _ _ _ _
         refine DC.region ?_
         refine DL.y rfl rfl (Y.move) ?_
         refine DL.y rfl rfl (Y.addI (c := ((i + 1 : Nat) : Int)) rfl rfl (by omega) (by omega) (by omega)) ?_
         refine DL.y rfl rfl (Y.assign) ?_
         refine DL.nil ?_
         refine ⟨(i + 1, _), ⟨G78, hi, hb9, by simpa using hcz, fun j hj => ?_⟩, by show s.size - (i + 1) < s.size - i; omega, rfl⟩
         have hje : s.data.toList[i]'(by rw [← size_list]; exact hi) = s[i] := rfl
         by_cases hji : j = i
         ·subst hji
          rw [show 0 + j * 1 = j by omega, Array.getElem?_setIfInBounds_self_of_lt (by omega), if_pos (by omega), hje, qb, if_pos (i32 c69)]; rfl
         ·rw [Array.getElem?_setIfInBounds_ne (by omega), hcj j hj]
          by_cases h1 : j < i
          ·rw [if_pos h1, if_pos (by omega)]
          ·rw [if_neg h1, if_neg (by omega)]
        ·refine DL.nil ?_
         show DC _ _ _ _ _ _
         refine DC.condF rfl ?_
         refine DC.skip ?_
         show DC _ _ _ _ _ _
         refine DC.region ?_
         refine DL.y rfl rfl (Y.move) ?_
         refine DL.y rfl rfl (Y.addI (c := ((i + 1 : Nat) : Int)) rfl rfl (by omega) (by omega) (by omega)) ?_
         refine DL.y rfl rfl (Y.assign) ?_
         refine DL.nil ?_
         refine ⟨(i + 1, cur), ⟨G78, hi, hb9, hcz, fun j hj => ?_⟩, by show s.size - (i + 1) < s.size - i; omega, rfl⟩
         have hje : s.data.toList[i]'(by rw [← size_list]; exact hi) = s[i] := rfl
         rw [hcj j hj]
         by_cases hji : j = i
         ·subst hji
          rw [if_neg (by omega), if_pos (by omega), hje, qb, if_neg (n32 c69)]
         ·by_cases h1 : j < i
          ·rw [if_pos h1, if_pos (by omega)]
          ·rw [if_neg h1, if_neg (by omega)]
       ·obtain rfl : i = s.size := by omega
        refine DL.nil ?_
        show DC _ _ _ _ _ _
        refine DC.condF rfl ?_
        refine DC.exit ?_
        show DC _ _ _ _ _ _
        refine DC.seq ?_
        refine DC.region ?_
        refine DL.y rfl rfl (Y.move) ?_
        refine DL.y rfl rfl (v := .string ⟨(s.data.toList.map qb).toArray⟩) (Y.cellsStr (l := s.data.toList.map qb) Tryz.underlying107 Tryz.underlying5 Tryz.underlying9 (show _ = Value.slice (some ⟨b9, 0, none⟩) (s.data.toList.map qb).length 64 by rw [List.length_map, ← size_list, show s.size = R by omega]; rfl) (fun q hq => cell_of_blk hb9 (by have h5 : q < s.data.toList.length := by { simpa using hq }; rw [Nat.zero_add, hcj q h5, if_pos (by rw [size_list]; exact h5)]; simp))) ?_
        refine DL.y rfl rfl (Y.assign) ?_
        refine DL.nil ?_
        show DC _ _ _ _ _ _
        refine DC.ret ?_
        refine FinQ.ret1 rfl (Ret.mk FR ⟨_, rfl, ?_⟩)
        show s.data.toList.map qb = _
        rw [qlL_plus _ (by omega)]
     ·refine DL.nil ?_
      show DC _ _ _ _ _ _
      refine DC.condF rfl ?_
      refine DC.skip ?_
      show DC _ _ _ _ _ _
      refine DC.forget [(0, .string s), (1, .int .u8 32), (6, .int .i64 (h : Int)), (10, .slice (some ⟨b9, 0, none⟩) R 64)] ⟨rfl, rfl, rfl, rfl⟩ (fun e0 => ?_)
      refine DC.seq ?_
      refine DC.region ?_
      refine DL.y rfl rfl (Y.assign) ?_
      refine DL.nil ?_
      show DC _ _ _ _ _ _
      refine DC.seq ?_
      refine DC.seq ?_
      refine DC.region ?_
      refine DL.y rfl rfl (Y.move) ?_
      refine DL.bytesOf rfl rfl Tryz.underlying9 Tryz.underlying107 Tryz.underlying5 rfl ?_
      intro b76 w82 cap76 f83 lo76 hi76 hc76
      have lt_b17_b76 : b17 < b76 := Nat.lt_of_lt_of_le hi17 lo76
      have lt_b9_b76 : b9 < b76 := Nat.lt_of_lt_of_le hi9 lo76
      replace lo76 := Nat.le_trans FR.size lo76
      replace FR := FR.tr0 f83
      replace hU : TabU w82 := hU.fr f83 (by first | (simp; done) | (simp only [List.mem_cons, List.mem_singleton, List.not_mem_nil, or_false]; omega))
      replace hi17 := Nat.lt_of_lt_of_le hi17 f83.size
      replace hc17 := fun i hi => Fr.cell f83 (hc17 i hi) (by first | (simp; done) | (simp only [List.mem_cons, List.mem_singleton, List.not_mem_nil, or_false]; omega))
      replace hb9 := f83.blk0 hb9
      replace hi9 := Nat.lt_of_lt_of_le hi9 f83.size
      refine DL.y rfl rfl (Y.lenS Tryz.underlying107 rfl) ?_
      refine DL.y rfl rfl (Y.move) ?_
      refine DL.nil ?_
      show DC _ _ _ _ _ _
      refine DC.block ?_
      refine DC.loopE (σ := Nat × Nat × Array Value) [(13, 13), (15, 15), (78, 123)] [(0, .string s), (1, .int .u8 32), (10, .slice (some ⟨b9, 0, none⟩) R 64), (76, .slice (some ⟨b76, 0, none⟩) s.size cap76), (77, .int .i64 (s.size : Int))] (fun (i, jj, _) => [(13, .int .i64 (jj : Int)), (78, .int .i64 (i : Int))]) (fun sg wl => Fr [b9] w82 wl ∧ (fun (i, jj, cur) wl => i ≤ s.size ∧ jj = (qlL (s.data.toList.take i)).length ∧ wl.heap[b9]? = some (.cells cur 162 (0, 0)) ∧ cur.size = cur0.size ∧ Pre cur (qlL (s.data.toList.take i))) sg wl) (fun (i, _, _) => s.size - i) ((0, 0, cur0)) rfl ?_ ?_ ?_ ?_
      ·exact ⟨rfl, rfl, rfl, rfl, rfl⟩
      ·exact ⟨rfl, rfl⟩
      ·exact ⟨Fr.refl _ _, Nat.zero_le _, rfl, hb9, rfl, (fun q hq => absurd hq (by simp [qlL]))⟩
      ·rintro e0 ⟨i, jj, cur⟩ j w84 ⟨f85, hi0, hj, hb9, hcz, hpre⟩
       replace FR := FR.put f85 (by intro i hi; simp only [List.mem_cons, List.mem_singleton, List.not_mem_nil, or_false] at hi; rcases hi with rfl; all_goals (first | (left; simp; done) | (right; omega)))
       replace hU : TabU w84 := hU.fr f85 (by first | (simp; done) | (simp only [List.mem_cons, List.mem_singleton, List.not_mem_nil, or_false]; omega))
       replace hi17 := Nat.lt_of_lt_of_le hi17 f85.size
       replace hc17 := fun i hi => Fr.cell f85 (hc17 i hi) (by first | (simp; done) | (simp only [List.mem_cons, List.mem_singleton, List.not_mem_nil, or_false]; omega))
       replace hi9 := Nat.lt_of_lt_of_le hi9 f85.size
       replace hi76 := Nat.lt_of_lt_of_le hi76 f85.size
       replace hc76 := fun i hi => Fr.cell f85 (hc76 i hi) (by first | (simp; done) | (simp only [List.mem_cons, List.mem_singleton, List.not_mem_nil, or_false]; omega))
       have G86 := f85
       have HG86 := Fr.refl [b9] w84
       have hjR := qlL_take_le s.data.toList i
       rw [← hRl, ← hj] at hjR
       refine DC.seq ?_
       refine DC.region ?_
       refine DL.if rfl rfl (Y.lt rfl rfl) (fun c79 => ?_) (fun c79 => ?_)
       ·have hi : i < s.size := by omega
        have hu := s[i].toNat_lt
        have hq1 := qlL_take_le s.data.toList (i + 1)
        rw [qlL_succ hi, List.length_append, ← hRl, ← hj] at hq1
        have hq0 := escQ_pos s[i]
        refine DL.nil ?_
        show DC _ _ _ _ _ _
        refine DC.seq ?_
        refine DC.condT rfl ?_
        refine DC.skip ?_
        show DC _ _ _ _ _ _
        refine DC.seq ?_
        refine DC.block ?_
        refine DC.seq ?_
        refine DC.region ?_
        refine DL.y rfl rfl (Y.index F.sl107 rfl rfl (rfl) (hi)) ?_
        refine DL.y rfl rfl (v := .int .u8 (s[i].toNat : Int)) (Y.load F.sc5 rfl (by have h := hc76 i (by rw [← size_list]; exact hi); exact h)) ?_
        refine DL.y rfl rfl (Y.assign) ?_
        refine DL.nil ?_
        show DC _ _ _ _ _ _
        refine DC.forget [(0, .string s), (1, .int .u8 32), (10, .slice (some ⟨b9, 0, none⟩) R 64), (76, .slice (some ⟨b76, 0, none⟩) s.size cap76), (77, .int .i64 (s.size : Int)), (13, .int .i64 (jj : Int)), (15, .int .u8 (s[i].toNat : Int)), (78, .int .i64 (i : Int))] ⟨rfl, rfl, rfl, rfl, rfl, rfl, rfl, rfl⟩ (fun e0 => ?_)
        refine DC.block ?_
        refine DC.seq ?_
        refine DC.region ?_
        refine DL.y rfl rfl (Y.move) ?_
        refine DL.if rfl rfl (Y.eq rfl rfl) (fun c90 => ?_) (fun c90 => ?_)
        ·refine DL.y rfl rfl (Y.move) ?_
         refine DL.y rfl rfl (Y.move) ?_
         refine DL.if rfl rfl (Y.eq rfl rfl) (fun c93 => ?_) (fun c93 => ?_)
         ·refine DL.y rfl rfl (Y.pickT rfl) ?_
          refine DL.y rfl rfl (Y.assign) ?_
          refine DL.nil ?_
          show DC _ _ _ _ _ _
          refine DC.condT rfl ?_
          refine DC.seq ?_
          refine DC.region ?_
          refine DL.y rfl rfl (Y.move) ?_
          refine DL.y rfl rfl (Y.move) ?_
          refine DL.y rfl rfl (Y.index (i := jj) F.sl107 rfl rfl rfl (by omega)) ?_
          refine DL.store rfl F.co5 F.in5 rfl rfl rfl hb9 (by rw [Nat.blt_eq]; omega) ?_
          intro w87 f88 hs89 hb9'
          replace FR := FR.put f88 (by intro i hi; simp only [List.mem_cons, List.mem_singleton, List.not_mem_nil, or_false] at hi; rcases hi with rfl; all_goals (first | (left; simp; done) | (right; omega)))
          replace G86 := G86.put f88 (by intro i hi; simp only [List.mem_cons, List.mem_singleton, List.not_mem_nil, or_false] at hi; rcases hi with rfl; all_goals (first | (left; simp; done) | (right; omega)))
          replace HG86 := HG86.put f88 (by intro i hi; simp only [List.mem_cons, List.mem_singleton, List.not_mem_nil, or_false] at hi; rcases hi with rfl; all_goals (first | (left; simp; done) | (right; omega)))
          replace hU : TabU w87 := hU.fr f88 (by first | (simp; done) | (simp only [List.mem_cons, List.mem_singleton, List.not_mem_nil, or_false]; omega))
          replace hi17 := Nat.lt_of_lt_of_le hi17 f88.size
          replace hc17 := fun i hi => Fr.cell f88 (hc17 i hi) (by first | (simp; done) | (simp only [List.mem_cons, List.mem_singleton, List.not_mem_nil, or_false]; omega))
          replace hi9 := Nat.lt_of_lt_of_le hi9 f88.size
          replace hi76 := Nat.lt_of_lt_of_le hi76 f88.size
          replace hc76 := fun i hi => Fr.cell f88 (hc76 i hi) (by first | (simp; done) | (simp only [List.mem_cons, List.mem_singleton, List.not_mem_nil, or_false]; omega))
          replace hb9 := hb9'
          refine DL.nil ?_
          show DC _ _ _ _ _ _
          refine DC.region ?_
          refine DL.y rfl rfl (Y.move) ?_
          refine DL.y rfl rfl (Y.addI (c := ((jj + 1 : Nat) : Int)) rfl rfl (by omega) (by omega) (by omega)) ?_
          refine DL.y rfl rfl (Y.assign) ?_
          refine DL.nil ?_
          show DC _ _ _ _ _ _
          refine DC.region ?_
          refine DL.y rfl rfl (Y.addI (c := ((i + 1 : Nat) : Int)) rfl rfl (by omega) (by omega) (by omega)) ?_
          refine DL.y rfl rfl (Y.move) ?_
          refine DL.nil ?_
          have e1 := qlL_succ hi
          rw [escQ, if_neg (by rw [i32 c90]; decide), if_pos (i32 c90)] at e1
          refine ⟨(i + 1, jj + 1, _), ⟨G86, hi, by rw [e1, List.length_append, ← hj]; rfl, hb9, by simpa using hcz, by rw [e1]; exact hpre.push (c := 43) hj (by omega)⟩, by show s.size - (i + 1) < s.size - i; omega, rfl, rfl⟩
         ·exfalso; omega
        ·refine DL.y rfl rfl (Y.move) ?_
         refine DL.skip rfl rfl ?_
         refine DL.skip rfl rfl ?_
         refine DL.y rfl rfl (Y.pickF rfl) ?_
         refine DL.y rfl rfl (Y.assign) ?_
         refine DL.nil ?_
         show DC _ _ _ _ _ _
         refine DC.condF rfl ?_
         refine DC.forget [(0, .string s), (1, .int .u8 32), (10, .slice (some ⟨b9, 0, none⟩) R 64), (76, .slice (some ⟨b76, 0, none⟩) s.size cap76), (77, .int .i64 (s.size : Int)), (13, .int .i64 (jj : Int)), (15, .int .u8 (s[i].toNat : Int)), (78, .int .i64 (i : Int))] ⟨rfl, rfl, rfl, rfl, rfl, rfl, rfl, rfl⟩ (fun e0 => ?_)
         refine DC.seq ?_
         refine DC.region ?_
         have hq32 := n32 c90
         refine DL.y rfl rfl (Y.move) ?_
         refine DL.y rfl rfl (Y.move) ?_
         refine DL.call rfl rfl F.nm157 rfl (should_any s[i] _ hU) ?_
         rintro _ w90 f91 ⟨q103, rfl, hq103⟩
         replace FR := FR.tr0 f91
         replace G86 := G86.tr0 f91
         replace HG86 := HG86.tr0 f91
         replace hU : TabU w90 := hU.fr f91 (by first | (simp; done) | (simp only [List.mem_cons, List.mem_singleton, List.not_mem_nil, or_false]; omega))
         replace hi17 := Nat.lt_of_lt_of_le hi17 f91.size
         replace hc17 := fun i hi => Fr.cell f91 (hc17 i hi) (by first | (simp; done) | (simp only [List.mem_cons, List.mem_singleton, List.not_mem_nil, or_false]; omega))
         replace hi9 := Nat.lt_of_lt_of_le hi9 f91.size
         replace hi76 := Nat.lt_of_lt_of_le hi76 f91.size
         replace hc76 := fun i hi => Fr.cell f91 (hc76 i hi) (by first | (simp; done) | (simp only [List.mem_cons, List.mem_singleton, List.not_mem_nil, or_false]; omega))
         replace hb9 := f91.blk0 hb9
         refine (Bool.eq_false_or_eq_true q103).elim (fun hq103 => ?_) (fun hq103 => ?_)
         ·subst hq103
          refine DL.y rfl rfl (Y.assign) ?_
          refine DL.nil ?_
          show DC _ _ _ _ _ _
          refine DC.condT rfl ?_
          refine DC.seq ?_
          refine DC.region ?_
          refine DL.y rfl rfl (Y.move) ?_
          have hq3 := escQ_three (by simpa using hq103) hq32
          refine DL.y rfl rfl (Y.move) ?_
          refine DL.y rfl rfl (Y.index (i := jj) F.sl107 rfl rfl rfl (by omega)) ?_
          refine DL.store rfl F.co5 F.in5 rfl rfl rfl hb9 (by rw [Nat.blt_eq]; omega) ?_
          intro w92 f93 hs94 hb9'
          replace FR := FR.put f93 (by intro i hi; simp only [List.mem_cons, List.mem_singleton, List.not_mem_nil, or_false] at hi; rcases hi with rfl; all_goals (first | (left; simp; done) | (right; omega)))
          replace G86 := G86.put f93 (by intro i hi; simp only [List.mem_cons, List.mem_singleton, List.not_mem_nil, or_false] at hi; rcases hi with rfl; all_goals (first | (left; simp; done) | (right; omega)))
          replace HG86 := HG86.put f93 (by intro i hi; simp only [List.mem_cons, List.mem_singleton, List.not_mem_nil, or_false] at hi; rcases hi with rfl; all_goals (first | (left; simp; done) | (right; omega)))
          replace hU : TabU w92 := hU.fr f93 (by first | (simp; done) | (simp only [List.mem_cons, List.mem_singleton, List.not_mem_nil, or_false]; omega))
          replace hi17 := Nat.lt_of_lt_of_le hi17 f93.size
          replace hc17 := fun i hi => Fr.cell f93 (hc17 i hi) (by first | (simp; done) | (simp only [List.mem_cons, List.mem_singleton, List.not_mem_nil, or_false]; omega))
          replace hi9 := Nat.lt_of_lt_of_le hi9 f93.size
          replace hi76 := Nat.lt_of_lt_of_le hi76 f93.size
          replace hc76 := fun i hi => Fr.cell f93 (hc76 i hi) (by first | (simp; done) | (simp only [List.mem_cons, List.mem_singleton, List.not_mem_nil, or_false]; omega))
          replace hb9 := hb9'
          refine DL.nil ?_
          show DC _ _ _ _ _ _
          refine DC.forget [(0, .string s), (1, .int .u8 32), (10, .slice (some ⟨b9, 0, none⟩) R 64), (76, .slice (some ⟨b76, 0, none⟩) s.size cap76), (77, .int .i64 (s.size : Int)), (13, .int .i64 (jj : Int)), (15, .int .u8 (s[i].toNat : Int)), (78, .int .i64 (i : Int))] ⟨rfl, rfl, rfl, rfl, rfl, rfl, rfl, rfl⟩ (fun e0 => ?_)
          refine DC.seq ?_
          refine DC.region ?_
          refine DL.y rfl rfl (Y.move) ?_
          refine DL.y rfl rfl (Y.move) ?_
          refine DL.y rfl rfl (Y.addI (c := ((jj + 1 : Nat) : Int)) rfl rfl (by omega) (by omega) (by omega)) ?_
          refine DL.y rfl rfl (Y.move) ?_
          refine DL.y rfl rfl (Y.shrN (k := .u8) (k' := .u64) (m := 4) (a := s[i].toNat) (c := s[i].toNat / 16) rfl rfl (by decide) rfl) ?_
          refine DL.y rfl rfl (Y.strIxV (i := s[i].toNat / 16) Tryz.underlying9 rfl rfl rfl (hexAt (s[i].toNat / 16) (by omega))) ?_
          refine DL.y rfl rfl (Y.index (i := jj + 1) F.sl107 rfl rfl rfl (by omega)) ?_
          refine DL.store rfl F.co5 F.in5 rfl rfl rfl hb9 (by rw [Nat.blt_eq]; simp; omega) ?_
          intro w95 f96 hs97 hb9'
          replace FR := FR.put f96 (by intro i hi; simp only [List.mem_cons, List.mem_singleton, List.not_mem_nil, or_false] at hi; rcases hi with rfl; all_goals (first | (left; simp; done) | (right; omega)))
          replace G86 := G86.put f96 (by intro i hi; simp only [List.mem_cons, List.mem_singleton, List.not_mem_nil, or_false] at hi; rcases hi with rfl; all_goals (first | (left; simp; done) | (right; omega)))
          replace HG86 := HG86.put f96 (by intro i hi; simp only [List.mem_cons, List.mem_singleton, List.not_mem_nil, or_false] at hi; rcases hi with rfl; all_goals (first | (left; simp; done) | (right; omega)))
          replace hU : TabU w95 := hU.fr f96 (by first | (simp; done) | (simp only [List.mem_cons, List.mem_singleton, List.not_mem_nil, or_false]; omega))
          replace hi17 := Nat.lt_of_lt_of_le hi17 f96.size
          replace hc17 := fun i hi => Fr.cell f96 (hc17 i hi) (by first | (simp; done) | (simp only [List.mem_cons, List.mem_singleton, List.not_mem_nil, or_false]; omega))
          replace hi9 := Nat.lt_of_lt_of_le hi9 f96.size
          replace hi76 := Nat.lt_of_lt_of_le hi76 f96.size
          replace hc76 := fun i hi => Fr.cell f96 (hc76 i hi) (by first | (simp; done) | (simp only [List.mem_cons, List.mem_singleton, List.not_mem_nil, or_false]; omega))
          replace hb9 := hb9'
          refine DL.nil ?_
          show DC _ _ _ _ _ _
          refine DC.forget [(0, .string s), (1, .int .u8 32), (10, .slice (some ⟨b9, 0, none⟩) R 64), (76, .slice (some ⟨b76, 0, none⟩) s.size cap76), (77, .int .i64 (s.size : Int)), (13, .int .i64 (jj : Int)), (15, .int .u8 (s[i].toNat : Int)), (78, .int .i64 (i : Int))] ⟨rfl, rfl, rfl, rfl, rfl, rfl, rfl, rfl⟩ (fun e0 => ?_)
          refine DC.seq ?_
          refine DC.region ?_
          refine DL.y rfl rfl (Y.move) ?_
          refine DL.y rfl rfl (Y.move) ?_
          refine DL.y rfl rfl (Y.addI (c := ((jj + 2 : Nat) : Int)) rfl rfl (by omega) (by omega) (by omega)) ?_
          refine DL.y rfl rfl (Y.move) ?_
          refine DL.y rfl rfl (Y.andN (k := .u8) (a := s[i].toNat) (b := 15) rfl rfl (show s[i].toNat < 2 ^ 8 from hu) (by decide) (and15u s[i])) ?_
          refine DL.y rfl rfl (Y.strIxV (i := s[i].toNat % 16) Tryz.underlying9 rfl rfl rfl (hexAt (s[i].toNat % 16) (by omega))) ?_
          refine DL.y rfl rfl (Y.index (i := jj + 2) F.sl107 rfl rfl rfl (by omega)) ?_
          refine DL.store rfl F.co5 F.in5 rfl rfl rfl hb9 (by rw [Nat.blt_eq]; simp; omega) ?_
          intro w98 f99 hs100 hb9'
          replace FR := FR.put f99 (by intro i hi; simp only [List.mem_cons, List.mem_singleton, List.not_mem_nil, or_false] at hi; rcases hi with rfl; all_goals (first | (left; simp; done) | (right; omega)))
          replace G86 := G86.put f99 (by intro i hi; simp only [List.mem_cons, List.mem_singleton, List.not_mem_nil, or_false] at hi; rcases hi with rfl; all_goals (first | (left; simp; done) | (right; omega)))
          replace HG86 := HG86.put f99 (by intro i hi; simp only [List.mem_cons, List.mem_singleton, List.not_mem_nil, or_false] at hi; rcases hi with rfl; all_goals (first | (left; simp; done) | (right; omega)))
          replace hU : TabU w98 := hU.fr f99 (by first | (simp; done) | (simp only [List.mem_cons, List.mem_singleton, List.not_mem_nil, or_false]; omega))
          replace hi17 := Nat.lt_of_lt_of_le hi17 f99.size
          replace hc17 := fun i hi => Fr.cell f99 (hc17 i hi) (by first | (simp; done) | (simp only [List.mem_cons, List.mem_singleton, List.not_mem_nil, or_false]; omega))
          replace hi9 := Nat.lt_of_lt_of_le hi9 f99.size
          replace hi76 := Nat.lt_of_lt_of_le hi76 f99.size
          replace hc76 := fun i hi => Fr.cell f99 (hc76 i hi) (by first | (simp; done) | (simp only [List.mem_cons, List.mem_singleton, List.not_mem_nil, or_false]; omega))
          replace hb9 := hb9'
          refine DL.nil ?_
          show DC _ _ _ _ _ _
          refine DC.forget [(0, .string s), (1, .int .u8 32), (10, .slice (some ⟨b9, 0, none⟩) R 64), (76, .slice (some ⟨b76, 0, none⟩) s.size cap76), (77, .int .i64 (s.size : Int)), (13, .int .i64 (jj : Int)), (15, .int .u8 (s[i].toNat : Int)), (78, .int .i64 (i : Int))] ⟨rfl, rfl, rfl, rfl, rfl, rfl, rfl, rfl⟩ (fun e0 => ?_)
          refine DC.region ?_
          refine DL.y rfl rfl (Y.move) ?_
          refine DL.y rfl rfl (Y.addI (c := ((jj + 3 : Nat) : Int)) rfl rfl (by omega) (by omega) (by omega)) ?_
          refine DL.y rfl rfl (Y.assign) ?_
          refine DL.nil ?_
          show DC _ _ _ _ _ _
          refine DC.region ?_
          refine DL.y rfl rfl (Y.addI (c := ((i + 1 : Nat) : Int)) rfl rfl (by omega) (by omega) (by omega)) ?_
          refine DL.y rfl rfl (Y.move) ?_
          refine DL.nil ?_
          have e1 := qlL_succ hi
          rw [escQ, if_neg (by simpa using hq103), if_neg (n32 c90)] at e1
          refine ⟨(i + 1, jj + 3, _), ⟨G86, hi, by rw [e1, List.length_append, ← hj]; rfl, hb9, by simpa using hcz, ?_⟩, by show s.size - (i + 1) < s.size - i; omega, rfl, rfl⟩
          have p1 := hpre.push (c := 37) hj (by omega)
          have p2 := p1.push (c := hexU (s[i].toNat / 16)) (j := jj + 1) (by rw [List.length_append]; exact congrArg (· + 1) hj) (by simp; omega)
          have p3 := p2.push (c := hexU (s[i].toNat % 16)) (j := jj + 2) (by simp only [List.length_append, List.length_singleton]; omega) (by simp; omega)
          rw [e1, show ∀ (x : List UInt8) (a b : UInt8), x ++ [37, a, b] = x ++ [37] ++ [a] ++ [b] from fun x a b => by simp]
          exact p3
         ·subst hq103
          refine DL.y rfl rfl (Y.assign) ?_
          refine DL.nil ?_
          show DC _ _ _ _ _ _
          refine DC.condF rfl ?_
          refine DC.forget [(0, .string s), (1, .int .u8 32), (10, .slice (some ⟨b9, 0, none⟩) R 64), (76, .slice (some ⟨b76, 0, none⟩) s.size cap76), (77, .int .i64 (s.size : Int)), (13, .int .i64 (jj : Int)), (15, .int .u8 (s[i].toNat : Int)), (78, .int .i64 (i : Int))] ⟨rfl, rfl, rfl, rfl, rfl, rfl, rfl, rfl⟩ (fun e0 => ?_)
          refine DC.seq ?_
          refine DC.region ?_
          refine DL.y rfl rfl (Y.move) ?_
          refine DL.y rfl rfl (Y.move) ?_
          refine DL.y rfl rfl (Y.move) ?_
          refine DL.y rfl rfl (Y.index (i := jj) F.sl107 rfl rfl rfl (by omega)) ?_
          refine DL.store rfl F.co5 F.in5 rfl rfl rfl hb9 (by rw [Nat.blt_eq]; omega) ?_
          intro w101 f102 hs103 hb9'
          replace FR := FR.put f102 (by intro i hi; simp only [List.mem_cons, List.mem_singleton, List.not_mem_nil, or_false] at hi; rcases hi with rfl; all_goals (first | (left; simp; done) | (right; omega)))
          replace G86 := G86.put f102 (by intro i hi; simp only [List.mem_cons, List.mem_singleton, List.not_mem_nil, or_false] at hi; rcases hi with rfl; all_goals (first | (left; simp; done) | (right; omega)))
          replace HG86 := HG86.put f102 (by intro i hi; simp only [List.mem_cons, List.mem_singleton, List.not_mem_nil, or_false] at hi; rcases hi with rfl; all_goals (first | (left; simp; done) | (right; omega)))
          replace hU : TabU w101 := hU.fr f102 (by first | (simp; done) | (simp only [List.mem_cons, List.mem_singleton, List.not_mem_nil, or_false]; omega))
          replace hi17 := Nat.lt_of_lt_of_le hi17 f102.size
          replace hc17 := fun i hi => Fr.cell f102 (hc17 i hi) (by first | (simp; done) | (simp only [List.mem_cons, List.mem_singleton, List.not_mem_nil, or_false]; omega))
          replace hi9 := Nat.lt_of_lt_of_le hi9 f102.size
          replace hi76 := Nat.lt_of_lt_of_le hi76 f102.size
          replace hc76 := fun i hi => Fr.cell f102 (hc76 i hi) (by first | (simp; done) | (simp only [List.mem_cons, List.mem_singleton, List.not_mem_nil, or_false]; omega))
          replace hb9 := hb9'
          refine DL.nil ?_
          show DC _ _ _ _ _ _
          refine DC.region ?_
          refine DL.y rfl rfl (Y.move) ?_
          refine DL.y rfl rfl (Y.addI (c := ((jj + 1 : Nat) : Int)) rfl rfl (by omega) (by omega) (by omega)) ?_
          refine DL.y rfl rfl (Y.assign) ?_
          refine DL.nil ?_
          show DC _ _ _ _ _ _
          refine DC.region ?_
          refine DL.y rfl rfl (Y.addI (c := ((i + 1 : Nat) : Int)) rfl rfl (by omega) (by omega) (by omega)) ?_
          refine DL.y rfl rfl (Y.move) ?_
          refine DL.nil ?_
          have e1 := qlL_succ hi
          rw [escQ, if_pos (by simpa using hq103)] at e1
          refine ⟨(i + 1, jj + 1, _), ⟨G86, hi, by rw [e1, List.length_append, ← hj]; rfl, hb9, by simpa using hcz, by rw [e1]; exact hpre.push (c := s[i]) hj (by omega)⟩, by show s.size - (i + 1) < s.size - i; omega, rfl, rfl⟩
       ·obtain rfl : i = s.size := by omega
        have hts2 : s.data.toList.take s.size = s.data.toList := by rw [size_list, List.take_length]
        rw [hts2] at hpre
        refine DL.nil ?_
        show DC _ _ _ _ _ _
        refine DC.seq ?_
        refine DC.condF rfl ?_
        refine DC.exit ?_
        show DC _ _ _ _ _ _
        refine DC.seq ?_
        refine DC.region ?_
        refine DL.y rfl rfl (Y.move) ?_
        refine DL.y rfl rfl (v := .string ⟨(qlL s.data.toList).toArray⟩) (Y.cellsStr (l := qlL s.data.toList) Tryz.underlying107 Tryz.underlying5 Tryz.underlying9 (show _ = Value.slice (some ⟨b9, 0, none⟩) (qlL s.data.toList).length 64 by rw [← hRl]; rfl) (fun q hq => cell_of_blk hb9 (by rw [Nat.zero_add]; exact hpre q hq))) ?_
        refine DL.y rfl rfl (Y.assign) ?_
        refine DL.nil ?_
        show DC _ _ _ _ _ _
        refine DC.ret ?_
        exact FinQ.ret1 rfl (Ret.mk FR ⟨_, rfl, rfl⟩)
    ·refine DL.nil ?_
     show DC _ _ _ _ _ _
     refine DC.condF rfl ?_
     refine DC.region ?_
     refine DL.y rfl rfl (Y.move) ?_
     refine DL.makeS rfl rfl elu8 rfl rfl rfl (by omega) (by omega) ?_
     intro b54 w104 cur0 f105 lo54 hi54 hb54 hcs0 hc54
     have lt_b17_b54 : b17 < b54 := Nat.lt_of_lt_of_le hi17 lo54
     have lt_b9_b54 : b9 < b54 := Nat.lt_of_lt_of_le hi9 lo54
     replace lo54 := Nat.le_trans FR.size lo54
     replace FR := FR.tr0 f105
     replace hU : TabU w104 := hU.fr f105 (by first | (simp; done) | (simp only [List.mem_cons, List.mem_singleton, List.not_mem_nil, or_false]; omega))
     replace hi17 := Nat.lt_of_lt_of_le hi17 f105.size
     replace hc17 := fun i hi => Fr.cell f105 (hc17 i hi) (by first | (simp; done) | (simp only [List.mem_cons, List.mem_singleton, List.not_mem_nil, or_false]; omega))
     replace hb9 := f105.blk0 hb9
     replace hi9 := Nat.lt_of_lt_of_le hi9 f105.size
     have hfit : R ≤ cur0.size := by omega
     refine DL.y rfl rfl (Y.assign) ?_
     refine DL.nil ?_
     show DC _ _ _ _ _ _
     refine DC.forget [(0, .string s), (1, .int .u8 32), (6, .int .i64 (h : Int)), (10, .slice (some ⟨b54, 0, none⟩) R R)] ⟨rfl, rfl, rfl, rfl⟩ (fun e0 => ?_)
     refine DC.seq ?_
     refine DC.seq ?_
     refine DC.region ?_
     refine DL.y rfl rfl (Y.move) ?_
     refine DL.if rfl rfl (Y.eq rfl rfl) (fun c56 => ?_) (fun c56 => ?_)
     ·refine DL.nil ?_
      show DC _ _ _ _ _ _
      refine DC.condT rfl ?_
      refine DC.seq ?_
      refine DC.region ?_
      refine DL.y rfl rfl (Y.move) ?_
      refine DL.y rfl rfl (Y.move) ?_
      refine DL.copyStr (T := 5) (cur := cur0) rfl rfl F.el107 rfl rfl hb54 (by omega) (by omega) ?_
      intro cur1 w106 f107 hb' hcz1 hcp
      replace FR := FR.put f107 (by intro i hi; simp only [List.mem_cons, List.mem_singleton, List.not_mem_nil, or_false] at hi; rcases hi with rfl; all_goals (first | (left; simp; done) | (right; omega)))
      replace hU : TabU w106 := hU.fr f107 (by first | (simp; done) | (simp only [List.mem_cons, List.mem_singleton, List.not_mem_nil, or_false]; omega))
      replace hi17 := Nat.lt_of_lt_of_le hi17 f107.size
      replace hc17 := fun i hi => Fr.cell f107 (hc17 i hi) (by first | (simp; done) | (simp only [List.mem_cons, List.mem_singleton, List.not_mem_nil, or_false]; omega))
      replace hb9 := f107.blk hb9 (by simp only [List.mem_cons, List.not_mem_nil, or_false, not_or]; omega)
      replace hi9 := Nat.lt_of_lt_of_le hi9 f107.size
      replace hi54 := Nat.lt_of_lt_of_le hi54 f107.size
      replace hb54 := hb'
      refine DL.nil ?_
      show DC _ _ _ _ _ _
      refine DC.seq ?_
      refine DC.seq ?_
      refine DC.region ?_
      refine DL.y rfl rfl (Y.assign) ?_
      refine DL.nil ?_
      show DC _ _ _ _ _ _
      refine DC.block ?_
      refine DC.loopE (σ := Nat × Array Value) [(12, 12), (60, 72)] [(0, .string s), (10, .slice (some ⟨b54, 0, none⟩) R R)] (fun (i, _) => [(12, .int .i64 (i : Int))]) (fun sg wl => Fr [b54] w106 wl ∧ (fun (i, cur) wl => i ≤ s.size ∧ wl.heap[b54]? = some (.cells cur 5 (0, 0)) ∧ cur.size = cur0.size ∧ ∀ j (hj : j < s.data.toList.length), cur[j]? = some (.int .u8 (((if j < i then qb s.data.toList[j] else s.data.toList[j]).toNat : Nat) : Int))) sg wl) (fun (i, _) => s.size - i) ((0, cur1)) rfl ?_ ?_ ?_ ?_
      ·exact ⟨rfl, rfl⟩
      ·exact rfl
      ·exact ⟨Fr.refl _ _, Nat.zero_le _, hb54, hcz1, (fun j hj => by rw [if_neg (by omega)]; exact hcp j hj)⟩
      ·rintro e0 ⟨i, cur⟩ j w108 ⟨f109, hi0, hb54, hcz, hcj⟩
       replace FR := FR.put f109 (by intro i hi; simp only [List.mem_cons, List.mem_singleton, List.not_mem_nil, or_false] at hi; rcases hi with rfl; all_goals (first | (left; simp; done) | (right; omega)))
       replace hU : TabU w108 := hU.fr f109 (by first | (simp; done) | (simp only [List.mem_cons, List.mem_singleton, List.not_mem_nil, or_false]; omega))
       replace hi17 := Nat.lt_of_lt_of_le hi17 f109.size
       replace hc17 := fun i hi => Fr.cell f109 (hc17 i hi) (by first | (simp; done) | (simp only [List.mem_cons, List.mem_singleton, List.not_mem_nil, or_false]; omega))
       replace hb9 := f109.blk hb9 (by simp only [List.mem_cons, List.not_mem_nil, or_false, not_or]; omega)
       replace hi9 := Nat.lt_of_lt_of_le hi9 f109.size
       replace hi54 := Nat.lt_of_lt_of_le hi54 f109.size
       have G110 := f109
       have HG110 := Fr.refl [b54] w108
       refine DC.seq ?_
       refine DC.seq ?_
       refine DC.region ?_
       refine DL.y rfl rfl (Y.move) ?_
       refine DL.y rfl rfl (Y.move) ?_
       refine DL.y rfl rfl (Y.lenStr Tryz.underlying9 rfl) ?_
       refine DL.if rfl rfl (Y.lt rfl rfl) (fun c63 => ?_) (fun c63 => ?_)
       ·have hi : i < s.size := by omega
        have hu := s[i].toNat_lt
        refine DL.nil ?_
        show DC _ _ _ _ _ _
        refine DC.condT rfl ?_
        refine DC.skip ?_
        show DC _ _ _ _ _ _
        refine DC.seq ?_
        refine DC.block ?_
        refine DC.seq ?_
        refine DC.region ?_
        refine DL.y rfl rfl (Y.move) ?_
        refine DL.y rfl rfl (Y.move) ?_
        refine DL.y rfl rfl (Y.strIx (i := i) Tryz.underlying9 rfl rfl rfl hi) ?_
        refine DL.if rfl rfl (Y.eq rfl rfl) (fun c69 => ?_) (fun c69 => ?_)
        ·refine DL.nil ?_
         show DC _ _ _ _ _ _
         refine DC.condT rfl ?_
         refine DC.region ?_
         refine DL.y rfl rfl (Y.move) ?_
         refine DL.y rfl rfl (Y.move) ?_
         refine DL.y rfl rfl (Y.index (i := i) F.sl107 rfl rfl rfl (by omega)) ?_
         refine DL.store rfl F.co5 F.in5 rfl rfl rfl hb54 (by rw [Nat.blt_eq]; omega) ?_
         intro w111 f112 hs113 hb54'
         replace FR := FR.put f112 (by intro i hi; simp only [List.mem_cons, List.mem_singleton, List.not_mem_nil, or_false] at hi; rcases hi with rfl; all_goals (first | (left; simp; done) | (right; omega)))
         replace G110 := G110.put f112 (by intro i hi; simp only [List.mem_cons, List.mem_singleton, List.not_mem_nil, or_false] at hi; rcases hi with rfl; all_goals (first | (left; simp; done) | (right; omega)))
         replace HG110 := HG110.put f112 (by intro i hi; simp only [List.mem_cons, List.mem_singleton, List.not_mem_nil, or_false] at hi; rcases hi with rfl; all_goals (first | (left; simp; done) | (right; omega)))
         replace hU : TabU w111 := hU.fr f112 (by first | (simp; done) | (simp only [List.mem_cons, List.mem_singleton, List.not_mem_nil, or_false]; omega))
         replace hi17 := Nat.lt_of_lt_of_le hi17 f112.size
         replace hc17 := fun i hi => Fr.cell f112 (hc17 i hi) (by first | (simp; done) | (simp only [List.mem_cons, List.mem_singleton, List.not_mem_nil, or_false]; omega))
         replace hb9 := f112.blk hb9 (by simp only [List.mem_cons, List.not_mem_nil, or_false, not_or]; omega)
         replace hi9 := Nat.lt_of_lt_of_le hi9 f112.size
         replace hi54 := Nat.lt_of_lt_of_le hi54 f112.size
         replace hb54 := hb54'
         refine DL.nil ?_
         show DC _ _ _ _ _ _
         refine DC.region ?_
         refine DL.y rfl rfl (Y.move) ?_
         refine DL.y rfl rfl (Y.addI (c := ((i + 1 : Nat) : Int)) rfl rfl (by omega) (by omega) (by omega)) ?_
         refine DL.y rfl rfl (Y.assign) ?_
         refine DL.nil ?_
         refine ⟨(i + 1, _), ⟨G110, hi, hb54, by simpa using hcz, fun j hj => ?_⟩, by show s.size - (i + 1) < s.size - i; omega, rfl⟩
         have hje : s.data.toList[i]'(by rw [← size_list]; exact hi) = s[i] := rfl
         by_cases hji : j = i
         ·subst hji
          rw [show 0 + j * 1 = j by omega, Array.getElem?_setIfInBounds_self_of_lt (by omega), if_pos (by omega), hje, qb, if_pos (i32 c69)]; rfl
         ·rw [Array.getElem?_setIfInBounds_ne (by omega), hcj j hj]
          by_cases h1 : j < i
          ·rw [if_pos h1, if_pos (by omega)]
          ·rw [if_neg h1, if_neg (by omega)]
        ·refine DL.nil ?_
         show DC _ _ _ _ _ _
         refine DC.condF rfl ?_
         refine DC.skip ?_
         show DC _ _ _ _ _ _
         refine DC.region ?_
         refine DL.y rfl rfl (Y.move) ?_
         refine DL.y rfl rfl (Y.addI (c := ((i + 1 : Nat) : Int)) rfl rfl (by omega) (by omega) (by omega)) ?_
         refine DL.y rfl rfl (Y.assign) ?_
         refine DL.nil ?_
         refine ⟨(i + 1, cur), ⟨G110, hi, hb54, hcz, fun j hj => ?_⟩, by show s.size - (i + 1) < s.size - i; omega, rfl⟩
         have hje : s.data.toList[i]'(by rw [← size_list]; exact hi) = s[i] := rfl
         rw [hcj j hj]
         by_cases hji : j = i
         ·subst hji
          rw [if_neg (by omega), if_pos (by omega), hje, qb, if_neg (n32 c69)]
         ·by_cases h1 : j < i
          ·rw [if_pos h1, if_pos (by omega)]
          ·rw [if_neg h1, if_neg (by omega)]
       ·obtain rfl : i = s.size := by omega
        refine DL.nil ?_
        show DC _ _ _ _ _ _
        refine DC.condF rfl ?_
        refine DC.exit ?_
        show DC _ _ _ _ _ _
        refine DC.seq ?_
        refine DC.region ?_
        refine DL.y rfl rfl (Y.move) ?_
        refine DL.y rfl rfl (v := .string ⟨(s.data.toList.map qb).toArray⟩) (Y.cellsStr (l := s.data.toList.map qb) Tryz.underlying107 Tryz.underlying5 Tryz.underlying9 (show _ = Value.slice (some ⟨b54, 0, none⟩) (s.data.toList.map qb).length R by rw [List.length_map, ← size_list, show s.size = R by omega]; rfl) (fun q hq => cell_of_blk hb54 (by have h5 : q < s.data.toList.length := by { simpa using hq }; rw [Nat.zero_add, hcj q h5, if_pos (by rw [size_list]; exact h5)]; simp))) ?_
        refine DL.y rfl rfl (Y.assign) ?_
        refine DL.nil ?_
        show DC _ _ _ _ _ _
        refine DC.ret ?_
        refine FinQ.ret1 rfl (Ret.mk FR ⟨_, rfl, ?_⟩)
        show s.data.toList.map qb = _
        rw [qlL_plus _ (by omega)]
     ·refine DL.nil ?_
      show DC _ _ _ _ _ _
      refine DC.condF rfl ?_
      refine DC.skip ?_
      show DC _ _ _ _ _ _
      refine DC.forget [(0, .string s), (1, .int .u8 32), (6, .int .i64 (h : Int)), (10, .slice (some ⟨b54, 0, none⟩) R R)] ⟨rfl, rfl, rfl, rfl⟩ (fun e0 => ?_)
      refine DC.seq ?_
      refine DC.region ?_
      refine DL.y rfl rfl (Y.assign) ?_
      refine DL.nil ?_
      show DC _ _ _ _ _ _
      refine DC.seq ?_
      refine DC.seq ?_
      refine DC.region ?_
      refine DL.y rfl rfl (Y.move) ?_
      refine DL.bytesOf rfl rfl Tryz.underlying9 Tryz.underlying107 Tryz.underlying5 rfl ?_
      intro b76 w114 cap76 f115 lo76 hi76 hc76
      have lt_b17_b76 : b17 < b76 := Nat.lt_of_lt_of_le hi17 lo76
      have lt_b9_b76 : b9 < b76 := Nat.lt_of_lt_of_le hi9 lo76
      have lt_b54_b76 : b54 < b76 := Nat.lt_of_lt_of_le hi54 lo76
      replace lo76 := Nat.le_trans FR.size lo76
      replace FR := FR.tr0 f115
      replace hU : TabU w114 := hU.fr f115 (by first | (simp; done) | (simp only [List.mem_cons, List.mem_singleton, List.not_mem_nil, or_false]; omega))
      replace hi17 := Nat.lt_of_lt_of_le hi17 f115.size
      replace hc17 := fun i hi => Fr.cell f115 (hc17 i hi) (by first | (simp; done) | (simp only [List.mem_cons, List.mem_singleton, List.not_mem_nil, or_false]; omega))
      replace hb9 := f115.blk0 hb9
      replace hi9 := Nat.lt_of_lt_of_le hi9 f115.size
      replace hb54 := f115.blk0 hb54
      replace hi54 := Nat.lt_of_lt_of_le hi54 f115.size
      refine DL.y rfl rfl (Y.lenS Tryz.underlying107 rfl) ?_
      refine DL.y rfl rfl (Y.move) ?_
      refine DL.nil ?_
      show DC _ _ _ _ _ _
      refine DC.block ?_
      refine DC.loopE (σ := Nat × Nat × Array Value) [(13, 13), (15, 15), (78, 123)] [(0, .string s), (1, .int .u8 32), (10, .slice (some ⟨b54, 0, none⟩) R R), (76, .slice (some ⟨b76, 0, none⟩) s.size cap76), (77, .int .i64 (s.size : Int))] (fun (i, jj, _) => [(13, .int .i64 (jj : Int)), (78, .int .i64 (i : Int))]) (fun sg wl => Fr [b54] w114 wl ∧ (fun (i, jj, cur) wl => i ≤ s.size ∧ jj = (qlL (s.data.toList.take i)).length ∧ wl.heap[b54]? = some (.cells cur 5 (0, 0)) ∧ cur.size = cur0.size ∧ Pre cur (qlL (s.data.toList.take i))) sg wl) (fun (i, _, _) => s.size - i) ((0, 0, cur0)) rfl ?_ ?_ ?_ ?_
      ·exact ⟨rfl, rfl, rfl, rfl, rfl⟩
      ·exact ⟨rfl, rfl⟩
      ·exact ⟨Fr.refl _ _, Nat.zero_le _, rfl, hb54, rfl, (fun q hq => absurd hq (by simp [qlL]))⟩
      ·rintro e0 ⟨i, jj, cur⟩ j w116 ⟨f117, hi0, hj, hb54, hcz, hpre⟩
       replace FR := FR.put f117 (by intro i hi; simp only [List.mem_cons, List.mem_singleton, List.not_mem_nil, or_false] at hi; rcases hi with rfl; all_goals (first | (left; simp; done) | (right; omega)))
       replace hU : TabU w116 := hU.fr f117 (by first | (simp; done) | (simp only [List.mem_cons, List.mem_singleton, List.not_mem_nil, or_false]; omega))
       replace hi17 := Nat.lt_of_lt_of_le hi17 f117.size
       replace hc17 := fun i hi => Fr.cell f117 (hc17 i hi) (by first | (simp; done) | (simp only [List.mem_cons, List.mem_singleton, List.not_mem_nil, or_false]; omega))
       replace hb9 := f117.blk hb9 (by simp only [List.mem_cons, List.not_mem_nil, or_false, not_or]; omega)
       replace hi9 := Nat.lt_of_lt_of_le hi9 f117.size
       replace hi54 := Nat.lt_of_lt_of_le hi54 f117.size
       replace hi76 := Nat.lt_of_lt_of_le hi76 f117.size
       replace hc76 := fun i hi => Fr.cell f117 (hc76 i hi) (by first | (simp; done) | (simp only [List.mem_cons, List.mem_singleton, List.not_mem_nil, or_false]; omega))
       have G118 := f117
       have HG118 := Fr.refl [b54] w116
       have hjR := qlL_take_le s.data.toList i
       rw [← hRl, ← hj] at hjR
       refine DC.seq ?_
       refine DC.region ?_
       refine DL.if rfl rfl (Y.lt rfl rfl) (fun c79 => ?_) (fun c79 => ?_)
       ·have hi : i < s.size := by omega
        have hu := s[i].toNat_lt
        have hq1 := qlL_take_le s.data.toList (i + 1)
        rw [qlL_succ hi, List.length_append, ← hRl, ← hj] at hq1
        have hq0 := escQ_pos s[i]
        refine DL.nil ?_
        show DC _ _ _ _ _ _
        refine DC.seq ?_
        refine DC.condT rfl ?_
        refine DC.skip ?_
        show DC _ _ _ _ _ _
        refine DC.seq ?_
        refine DC.block ?_
        refine DC.seq ?_
        refine DC.region ?_
        refine DL.y rfl rfl (Y.index F.sl107 rfl rfl (rfl) (hi)) ?_
        refine DL.y rfl rfl (v := .int .u8 (s[i].toNat : Int)) (Y.load F.sc5 rfl (by have h := hc76 i (by rw [← size_list]; exact hi); exact h)) ?_
        refine DL.y rfl rfl (Y.assign) ?_
        refine DL.nil ?_
        show DC _ _ _ _ _ _
        refine DC.forget [(0, .string s), (1, .int .u8 32), (10, .slice (some ⟨b54, 0, none⟩) R R), (76, .slice (some ⟨b76, 0, none⟩) s.size cap76), (77, .int .i64 (s.size : Int)), (13, .int .i64 (jj : Int)), (15, .int .u8 (s[i].toNat : Int)), (78, .int .i64 (i : Int))] ⟨rfl, rfl, rfl, rfl, rfl, rfl, rfl, rfl⟩ (fun e0 => ?_)
        refine DC.block ?_
        refine DC.seq ?_
        refine DC.region ?_
        refine DL.y rfl rfl (Y.move) ?_
        refine DL.if rfl rfl (Y.eq rfl rfl) (fun c90 => ?_) (fun c90 => ?_)
        ·refine DL.y rfl rfl (Y.move) ?_
         refine DL.y rfl rfl (Y.move) ?_
         refine DL.if rfl rfl (Y.eq rfl rfl) (fun c93 => ?_) (fun c93 => ?_)
         ·refine DL.y rfl rfl (Y.pickT rfl) ?_
          refine DL.y rfl rfl (Y.assign) ?_
          refine DL.nil ?_
          show DC _ _ _ _ _ _
          refine DC.condT rfl ?_
          refine DC.seq ?_
          refine DC.region ?_
          refine DL.y rfl rfl (Y.move) ?_
          refine DL.y rfl rfl (Y.move) ?_
          refine DL.y rfl rfl (Y.index (i := jj) F.sl107 rfl rfl rfl (by omega)) ?_
          refine DL.store rfl F.co5 F.in5 rfl rfl rfl hb54 (by rw [Nat.blt_eq]; omega) ?_
          intro w119 f120 hs121 hb54'
          replace FR := FR.put f120 (by intro i hi; simp only [List.mem_cons, List.mem_singleton, List.not_mem_nil, or_false] at hi; rcases hi with rfl; all_goals (first | (left; simp; done) | (right; omega)))
          replace G118 := G118.put f120 (by intro i hi; simp only [List.mem_cons, List.mem_singleton, List.not_mem_nil, or_false] at hi; rcases hi with rfl; all_goals (first | (left; simp; done) | (right; omega)))
          replace HG118 := HG118.put f120 (by intro i hi; simp only [List.mem_cons, List.mem_singleton, List.not_mem_nil, or_false] at hi; rcases hi with rfl; all_goals (first | (left; simp; done) | (right; omega)))
          replace hU : TabU w119 := hU.fr f120 (by first | (simp; done) | (simp only [List.mem_cons, List.mem_singleton, List.not_mem_nil, or_false]; omega))
          replace hi17 := Nat.lt_of_lt_of_le hi17 f120.size
          replace hc17 := fun i hi => Fr.cell f120 (hc17 i hi) (by first | (simp; done) | (simp only [List.mem_cons, List.mem_singleton, List.not_mem_nil, or_false]; omega))
          replace hb9 := f120.blk hb9 (by simp only [List.mem_cons, List.not_mem_nil, or_false, not_or]; omega)
          replace hi9 := Nat.lt_of_lt_of_le hi9 f120.size
          replace hi54 := Nat.lt_of_lt_of_le hi54 f120.size
          replace hi76 := Nat.lt_of_lt_of_le hi76 f120.size
          replace hc76 := fun i hi => Fr.cell f120 (hc76 i hi) (by first | (simp; done) | (simp only [List.mem_cons, List.mem_singleton, List.not_mem_nil, or_false]; omega))
          replace hb54 := hb54'
          refine DL.nil ?_
          show DC _ _ _ _ _ _
          refine DC.region ?_
          refine DL.y rfl rfl (Y.move) ?_
          refine DL.y rfl rfl (Y.addI (c := ((jj + 1 : Nat) : Int)) rfl rfl (by omega) (by omega) (by omega)) ?_
          refine DL.y rfl rfl (Y.assign) ?_
          refine DL.nil ?_
          show DC _ _ _ _ _ _
          refine DC.region ?_
          refine DL.y rfl rfl (Y.addI (c := ((i + 1 : Nat) : Int)) rfl rfl (by omega) (by omega) (by omega)) ?_
          refine DL.y rfl rfl (Y.move) ?_
          refine DL.nil ?_
          have e1 := qlL_succ hi
          rw [escQ, if_neg (by rw [i32 c90]; decide), if_pos (i32 c90)] at e1
          refine ⟨(i + 1, jj + 1, _), ⟨G118, hi, by rw [e1, List.length_append, ← hj]; rfl, hb54, by simpa using hcz, by rw [e1]; exact hpre.push (c := 43) hj (by omega)⟩, by show s.size - (i + 1) < s.size - i; omega, rfl, rfl⟩
         ·exfalso; omega
        ·refine DL.y rfl rfl (Y.move) ?_
         refine DL.skip rfl rfl ?_
         refine DL.skip rfl rfl ?_
         refine DL.y rfl rfl (Y.pickF rfl) ?_
         refine DL.y rfl rfl (Y.assign) ?_
         refine DL.nil ?_
         show DC _ _ _ _ _ _
         refine DC.condF rfl ?_
         refine DC.forget [(0, .string s), (1, .int .u8 32), (10, .slice (some ⟨b54, 0, none⟩) R R), (76, .slice (some ⟨b76, 0, none⟩) s.size cap76), (77, .int .i64 (s.size : Int)), (13, .int .i64 (jj : Int)), (15, .int .u8 (s[i].toNat : Int)), (78, .int .i64 (i : Int))] ⟨rfl, rfl, rfl, rfl, rfl, rfl, rfl, rfl⟩ (fun e0 => ?_)
         refine DC.seq ?_
         refine DC.region ?_
         have hq32 := n32 c90
         refine DL.y rfl rfl (Y.move) ?_
         refine DL.y rfl rfl (Y.move) ?_
         refine DL.call rfl rfl F.nm157 rfl (should_any s[i] _ hU) ?_
         rintro _ w122 f123 ⟨q103, rfl, hq103⟩
         replace FR := FR.tr0 f123
         replace G118 := G118.tr0 f123
         replace HG118 := HG118.tr0 f123
         replace hU : TabU w122 := hU.fr f123 (by first | (simp; done) | (simp only [List.mem_cons, List.mem_singleton, List.not_mem_nil, or_false]; omega))
         replace hi17 := Nat.lt_of_lt_of_le hi17 f123.size
         replace hc17 := fun i hi => Fr.cell f123 (hc17 i hi) (by first | (simp; done) | (simp only [List.mem_cons, List.mem_singleton, List.not_mem_nil, or_false]; omega))
         replace hb9 := f123.blk0 hb9
         replace hi9 := Nat.lt_of_lt_of_le hi9 f123.size
         replace hi54 := Nat.lt_of_lt_of_le hi54 f123.size
         replace hi76 := Nat.lt_of_lt_of_le hi76 f123.size
         replace hc76 := fun i hi => Fr.cell f123 (hc76 i hi) (by first | (simp; done) | (simp only [List.mem_cons, List.mem_singleton, List.not_mem_nil, or_false]; omega))
         replace hb54 := f123.blk0 hb54
         refine (Bool.eq_false_or_eq_true q103).elim (fun hq103 => ?_) (fun hq103 => ?_)
         ·subst hq103
          refine DL.y rfl rfl (Y.assign) ?_
          refine DL.nil ?_
          show DC _ _ _ _ _ _
          refine DC.condT rfl ?_
          refine DC.seq ?_
          refine DC.region ?_
          refine DL.y rfl rfl (Y.move) ?_
          have hq3 := escQ_three (by simpa using hq103) hq32
          refine DL.y rfl rfl (Y.move) ?_
          refine DL.y rfl rfl (Y.index (i := jj) F.sl107 rfl rfl rfl (by omega)) ?_
          refine DL.store rfl F.co5 F.in5 rfl rfl rfl hb54 (by rw [Nat.blt_eq]; omega) ?_
          intro w124 f125 hs126 hb54'
          replace FR := FR.put f125 (by intro i hi; simp only [List.mem_cons, List.mem_singleton, List.not_mem_nil, or_false] at hi; rcases hi with rfl; all_goals (first | (left; simp; done) | (right; omega)))
          replace G118 := G118.put f125 (by intro i hi; simp only [List.mem_cons, List.mem_singleton, List.not_mem_nil, or_false] at hi; rcases hi with rfl; all_goals (first | (left; simp; done) | (right; omega)))
          replace HG118 := HG118.put f125 (by intro i hi; simp only [List.mem_cons, List.mem_singleton, List.not_mem_nil, or_false] at hi; rcases hi with rfl; all_goals (first | (left; simp; done) | (right; omega)))
          replace hU : TabU w124 := hU.fr f125 (by first | (simp; done) | (simp only [List.mem_cons, List.mem_singleton, List.not_mem_nil, or_false]; omega))
          replace hi17 := Nat.lt_of_lt_of_le hi17 f125.size
          replace hc17 := fun i hi => Fr.cell f125 (hc17 i hi) (by first | (simp; done) | (simp only [List.mem_cons, List.mem_singleton, List.not_mem_nil, or_false]; omega))
          replace hb9 := f125.blk hb9 (by simp only [List.mem_cons, List.not_mem_nil, or_false, not_or]; omega)
          replace hi9 := Nat.lt_of_lt_of_le hi9 f125.size
          replace hi54 := Nat.lt_of_lt_of_le hi54 f125.size
          replace hi76 := Nat.lt_of_lt_of_le hi76 f125.size
          replace hc76 := fun i hi => Fr.cell f125 (hc76 i hi) (by first | (simp; done) | (simp only [List.mem_cons, List.mem_singleton, List.not_mem_nil, or_false]; omega))
          replace hb54 := hb54'
          refine DL.nil ?_
          show DC _ _ _ _ _ _
          refine DC.forget [(0, .string s), (1, .int .u8 32), (10, .slice (some ⟨b54, 0, none⟩) R R), (76, .slice (some ⟨b76, 0, none⟩) s.size cap76), (77, .int .i64 (s.size : Int)), (13, .int .i64 (jj : Int)), (15, .int .u8 (s[i].toNat : Int)), (78, .int .i64 (i : Int))] ⟨rfl, rfl, rfl, rfl, rfl, rfl, rfl, rfl⟩ (fun e0 => ?_)
          refine DC.seq ?_
          refine DC.region ?_
          refine DL.y rfl rfl (Y.move) ?_
          refine DL.y rfl rfl (Y.move) ?_
          refine DL.y rfl rfl (Y.addI (c := ((jj + 1 : Nat) : Int)) rfl rfl (by omega) (by omega) (by omega)) ?_
          refine DL.y rfl rfl (Y.move) ?_
          refine DL.y rfl rfl (Y.shrN (k := .u8) (k' := .u64) (m := 4) (a := s[i].toNat) (c := s[i].toNat / 16) rfl rfl (by decide) rfl) ?_
          refine DL.y rfl rfl (Y.strIxV (i := s[i].toNat / 16) Tryz.underlying9 rfl rfl rfl (hexAt (s[i].toNat / 16) (by omega))) ?_
          refine DL.y rfl rfl (Y.index (i := jj + 1) F.sl107 rfl rfl rfl (by omega)) ?_
          refine DL.store rfl F.co5 F.in5 rfl rfl rfl hb54 (by rw [Nat.blt_eq]; simp; omega) ?_
          intro w127 f128 hs129 hb54'
          replace FR := FR.put f128 (by intro i hi; simp only [List.mem_cons, List.mem_singleton, List.not_mem_nil, or_false] at hi; rcases hi with rfl; all_goals (first | (left; simp; done) | (right; omega)))
          replace G118 := G118.put f128 (by intro i hi; simp only [List.mem_cons, List.mem_singleton, List.not_mem_nil, or_false] at hi; rcases hi with rfl; all_goals (first | (left; simp; done) | (right; omega)))
          replace HG118 := HG118.put f128 (by intro i hi; simp only [List.mem_cons, List.mem_singleton, List.not_mem_nil, or_false] at hi; rcases hi with rfl; all_goals (first | (left; simp; done) | (right; omega)))
          replace hU : TabU w127 := hU.fr f128 (by first | (simp; done) | (simp only [List.mem_cons, List.mem_singleton, List.not_mem_nil, or_false]; omega))
          replace hi17 := Nat.lt_of_lt_of_le hi17 f128.size
          replace hc17 := fun i hi => Fr.cell f128 (hc17 i hi) (by first | (simp; done) | (simp only [List.mem_cons, List.mem_singleton, List.not_mem_nil, or_false]; omega))
          replace hb9 := f128.blk hb9 (by simp only [List.mem_cons, List.not_mem_nil, or_false, not_or]; omega)
          replace hi9 := Nat.lt_of_lt_of_le hi9 f128.size
          replace hi54 := Nat.lt_of_lt_of_le hi54 f128.size
          replace hi76 := Nat.lt_of_lt_of_le hi76 f128.size
          replace hc76 := fun i hi => Fr.cell f128 (hc76 i hi) (by first | (simp; done) | (simp only [List.mem_cons, List.mem_singleton, List.not_mem_nil, or_false]; omega))
          replace hb54 := hb54'
          refine DL.nil ?_
          show DC _ _ _ _ _ _
          refine DC.forget [(0, .string s), (1, .int .u8 32), (10, .slice (some ⟨b54, 0, none⟩) R R), (76, .slice (some ⟨b76, 0, none⟩) s.size cap76), (77, .int .i64 (s.size : Int)), (13, .int .i64 (jj : Int)), (15, .int .u8 (s[i].toNat : Int)), (78, .int .i64 (i : Int))] ⟨rfl, rfl, rfl, rfl, rfl, rfl, rfl, rfl⟩ (fun e0 => ?_)
          refine DC.seq ?_
          refine DC.region ?_
          refine DL.y rfl rfl (Y.move) ?_
          refine DL.y rfl rfl (Y.move) ?_
          refine DL.y rfl rfl (Y.addI (c := ((jj + 2 : Nat) : Int)) rfl rfl (by omega) (by omega) (by omega)) ?_
          refine DL.y rfl rfl (Y.move) ?_
          refine DL.y rfl rfl (Y.andN (k := .u8) (a := s[i].toNat) (b := 15) rfl rfl (show s[i].toNat < 2 ^ 8 from hu) (by decide) (and15u s[i])) ?_
          refine DL.y rfl rfl (Y.strIxV (i := s[i].toNat % 16) Tryz.underlying9 rfl rfl rfl (hexAt (s[i].toNat % 16) (by omega))) ?_
          refine DL.y rfl rfl (Y.index (i := jj + 2) F.sl107 rfl rfl rfl (by omega)) ?_
          refine DL.store rfl F.co5 F.in5 rfl rfl rfl hb54 (by rw [Nat.blt_eq]; simp; omega) ?_
          intro w130 f131 hs132 hb54'
          replace FR := FR.put f131 (by intro i hi; simp only [List.mem_cons, List.mem_singleton, List.not_mem_nil, or_false] at hi; rcases hi with rfl; all_goals (first | (left; simp; done) | (right; omega)))
          replace G118 := G118.put f131 (by intro i hi; simp only [List.mem_cons, List.mem_singleton, List.not_mem_nil, or_false] at hi; rcases hi with rfl; all_goals (first | (left; simp; done) | (right; omega)))
          replace HG118 := HG118.put f131 (by intro i hi; simp only [List.mem_cons, List.mem_singleton, List.not_mem_nil, or_false] at hi; rcases hi with rfl; all_goals (first | (left; simp; done) | (right; omega)))
          replace hU : TabU w130 := hU.fr f131 (by first | (simp; done) | (simp only [List.mem_cons, List.mem_singleton, List.not_mem_nil, or_false]; omega))
          replace hi17 := Nat.lt_of_lt_of_le hi17 f131.size
          replace hc17 := fun i hi => Fr.cell f131 (hc17 i hi) (by first | (simp; done) | (simp only [List.mem_cons, List.mem_singleton, List.not_mem_nil, or_false]; omega))
          replace hb9 := f131.blk hb9 (by simp only [List.mem_cons, List.not_mem_nil, or_false, not_or]; omega)
          replace hi9 := Nat.lt_of_lt_of_le hi9 f131.size
          replace hi54 := Nat.lt_of_lt_of_le hi54 f131.size
          replace hi76 := Nat.lt_of_lt_of_le hi76 f131.size
          replace hc76 := fun i hi => Fr.cell f131 (hc76 i hi) (by first | (simp; done) | (simp only [List.mem_cons, List.mem_singleton, List.not_mem_nil, or_false]; omega))
          replace hb54 := hb54'
          refine DL.nil ?_
          show DC _ _ _ _ _ _
          refine DC.forget [(0, .string s), (1, .int .u8 32), (10, .slice (some ⟨b54, 0, none⟩) R R), (76, .slice (some ⟨b76, 0, none⟩) s.size cap76), (77, .int .i64 (s.size : Int)), (13, .int .i64 (jj : Int)), (15, .int .u8 (s[i].toNat : Int)), (78, .int .i64 (i : Int))] ⟨rfl, rfl, rfl, rfl, rfl, rfl, rfl, rfl⟩ (fun e0 => ?_)
          refine DC.region ?_
          refine DL.y rfl rfl (Y.move) ?_
          refine DL.y rfl rfl (Y.addI (c := ((jj + 3 : Nat) : Int)) rfl rfl (by omega) (by omega) (by omega)) ?_
          refine DL.y rfl rfl (Y.assign) ?_
          refine DL.nil ?_
          show DC _ _ _ _ _ _
          refine DC.region ?_
          refine DL.y rfl rfl (Y.addI (c := ((i + 1 : Nat) : Int)) rfl rfl (by omega) (by omega) (by omega)) ?_
          refine DL.y rfl rfl (Y.move) ?_
          refine DL.nil ?_
          have e1 := qlL_succ hi
          rw [escQ, if_neg (by simpa using hq103), if_neg (n32 c90)] at e1
          refine ⟨(i + 1, jj + 3, _), ⟨G118, hi, by rw [e1, List.length_append, ← hj]; rfl, hb54, by simpa using hcz, ?_⟩, by show s.size - (i + 1) < s.size - i; omega, rfl, rfl⟩
          have p1 := hpre.push (c := 37) hj (by omega)
          have p2 := p1.push (c := hexU (s[i].toNat / 16)) (j := jj + 1) (by rw [List.length_append]; exact congrArg (· + 1) hj) (by simp; omega)
          have p3 := p2.push (c := hexU (s[i].toNat % 16)) (j := jj + 2) (by simp only [List.length_append, List.length_singleton]; omega) (by simp; omega)
          rw [e1, show ∀ (x : List UInt8) (a b : UInt8), x ++ [37, a, b] = x ++ [37] ++ [a] ++ [b] from fun x a b => by simp]
          exact p3
         ·subst hq103
          refine DL.y rfl rfl (Y.assign) ?_
          refine DL.nil ?_
          show DC _ _ _ _ _ _
          refine DC.condF rfl ?_
          refine DC.forget [(0, .string s), (1, .int .u8 32), (10, .slice (some ⟨b54, 0, none⟩) R R), (76, .slice (some ⟨b76, 0, none⟩) s.size cap76), (77, .int .i64 (s.size : Int)), (13, .int .i64 (jj : Int)), (15, .int .u8 (s[i].toNat : Int)), (78, .int .i64 (i : Int))] ⟨rfl, rfl, rfl, rfl, rfl, rfl, rfl, rfl⟩ (fun e0 => ?_)
          refine DC.seq ?_
          refine DC.region ?_
          refine DL.y rfl rfl (Y.move) ?_
          refine DL.y rfl rfl (Y.move) ?_
          refine DL.y rfl rfl (Y.move) ?_
          refine DL.y rfl rfl (Y.index (i := jj) F.sl107 rfl rfl rfl (by omega)) ?_
          refine DL.store rfl F.co5 F.in5 rfl rfl rfl hb54 (by rw [Nat.blt_eq]; omega) ?_
          intro w133 f134 hs135 hb54'
          replace FR := FR.put f134 (by intro i hi; simp only [List.mem_cons, List.mem_singleton, List.not_mem_nil, or_false] at hi; rcases hi with rfl; all_goals (first | (left; simp; done) | (right; omega)))
          replace G118 := G118.put f134 (by intro i hi; simp only [List.mem_cons, List.mem_singleton, List.not_mem_nil, or_false] at hi; rcases hi with rfl; all_goals (first | (left; simp; done) | (right; omega)))
          replace HG118 := HG118.put f134 (by intro i hi; simp only [List.mem_cons, List.mem_singleton, List.not_mem_nil, or_false] at hi; rcases hi with rfl; all_goals (first | (left; simp; done) | (right; omega)))
          replace hU : TabU w133 := hU.fr f134 (by first | (simp; done) | (simp only [List.mem_cons, List.mem_singleton, List.not_mem_nil, or_false]; omega))
          replace hi17 := Nat.lt_of_lt_of_le hi17 f134.size
          replace hc17 := fun i hi => Fr.cell f134 (hc17 i hi) (by first | (simp; done) | (simp only [List.mem_cons, List.mem_singleton, List.not_mem_nil, or_false]; omega))
          replace hb9 := f134.blk hb9 (by simp only [List.mem_cons, List.not_mem_nil, or_false, not_or]; omega)
          replace hi9 := Nat.lt_of_lt_of_le hi9 f134.size
          replace hi54 := Nat.lt_of_lt_of_le hi54 f134.size
          replace hi76 := Nat.lt_of_lt_of_le hi76 f134.size
          replace hc76 := fun i hi => Fr.cell f134 (hc76 i hi) (by first | (simp; done) | (simp only [List.mem_cons, List.mem_singleton, List.not_mem_nil, or_false]; omega))
          replace hb54 := hb54'
          refine DL.nil ?_
          show DC _ _ _ _ _ _
          refine DC.region ?_
          refine DL.y rfl rfl (Y.move) ?_
          refine DL.y rfl rfl (Y.addI (c := ((jj + 1 : Nat) : Int)) rfl rfl (by omega) (by omega) (by omega)) ?_
          refine DL.y rfl rfl (Y.assign) ?_
          refine DL.nil ?_
          show DC _ _ _ _ _ _
          refine DC.region ?_
          refine DL.y rfl rfl (Y.addI (c := ((i + 1 : Nat) : Int)) rfl rfl (by omega) (by omega) (by omega)) ?_
          refine DL.y rfl rfl (Y.move) ?_
          refine DL.nil ?_
          have e1 := qlL_succ hi
          rw [escQ, if_pos (by simpa using hq103)] at e1
          refine ⟨(i + 1, jj + 1, _), ⟨G118, hi, by rw [e1, List.length_append, ← hj]; rfl, hb54, by simpa using hcz, by rw [e1]; exact hpre.push (c := s[i]) hj (by omega)⟩, by show s.size - (i + 1) < s.size - i; omega, rfl, rfl⟩
       ·obtain rfl : i = s.size := by omega
        have hts2 : s.data.toList.take s.size = s.data.toList := by rw [size_list, List.take_length]
        rw [hts2] at hpre
        refine DL.nil ?_
        show DC _ _ _ _ _ _
        refine DC.seq ?_
        refine DC.condF rfl ?_
        refine DC.exit ?_
        show DC _ _ _ _ _ _
        refine DC.seq ?_
        refine DC.region ?_
        refine DL.y rfl rfl (Y.move) ?_
        refine DL.y rfl rfl (v := .string ⟨(qlL s.data.toList).toArray⟩) (Y.cellsStr (l := qlL s.data.toList) Tryz.underlying107 Tryz.underlying5 Tryz.underlying9 (show _ = Value.slice (some ⟨b54, 0, none⟩) (qlL s.data.toList).length R by rw [← hRl]; rfl) (fun q hq => cell_of_blk hb54 (by rw [Nat.zero_add]; exact hpre q hq))) ?_
        refine DL.y rfl rfl (Y.assign) ?_
        refine DL.nil ?_
        show DC _ _ _ _ _ _
        refine DC.ret ?_
        exact FinQ.ret1 rfl (Ret.mk FR ⟨_, rfl, rfl⟩)

end Go.Proofs.YtmbleojlnaofjaaGreatDoor

