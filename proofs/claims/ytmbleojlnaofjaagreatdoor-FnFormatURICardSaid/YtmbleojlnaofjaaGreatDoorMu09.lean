/- Own texts, merged: Dec2, Dec3, Dec4, Dec5. -/
import Derived.Test.YtmbleojlnaofjaaGreatDoorMu08
/- The walk of newDecimal. -/
namespace Go.Proofs.YtmbleojlnaofjaaGreatDoor
open Go Go.RowKit D Go.Deep
set_option linter.unusedVariables false
set_option linter.unusedSimpArgs false


theorem digL_len (n : Nat) : (digL n).length = (decL n).length := by simp [digL]
theorem digL_at {n i : Nat} (h : i < (decL n).length) : ((decL n)[i].toNat : Int) = ((48 + dg (digL n) i : Nat) : Int) := by
 have hb : ∀ (k n : Nat), n < 10 ^ (k + 1) → ∀ c ∈ decL n, 48 ≤ c.toNat ∧ c.toNat < 58 := by
  intro k
  induction k with
  | zero => intro n hn c hc; rw [decL_lt (by simpa using hn), List.mem_singleton] at hc; subst hc; rw [UInt8.toNat_ofNat']; simp at hn; omega
  | succ k ih =>
   intro n hn c hc
   by_cases h10 : n < 10
   ·rw [decL_lt h10, List.mem_singleton] at hc; subst hc; rw [UInt8.toNat_ofNat']; omega
   ·rw [decL_ge (by omega)] at hc
    rcases List.mem_append.1 hc with hc | hc
    ·exact ih (n / 10) (by rw [Nat.pow_succ] at hn; omega) c hc
    ·rw [List.mem_singleton] at hc; subst hc; rw [UInt8.toNat_ofNat']; omega
 have hn : n < 10 ^ (n + 1) := by
  have : ∀ m : Nat, m < 10 ^ (m + 1) := fun m => by
   induction m with
   | zero => decide
   | succ m ih => rw [Nat.pow_succ]; omega
  exact this n
 have h1 := hb n n hn _ (List.getElem_mem h)
 have h2 : dg (digL n) i = (decL n)[i].toNat - 48 := by rw [dg_lt (by rw [digL_len]; exact h)]; simp [digL]
 omega
theorem take_dg {d : List Nat} {i : Nat} (h : i < d.length) : d.take (i + 1) = d.take i ++ [dg d i] := by
 rw [List.take_succ_eq_append_getElem h, dg_lt h]

theorem newDecimal_any (n : Nat) (hn0 : 0 < n) (hn : n < 18446744073709551616) (w : World) : Calls Tryz.prog 209 #[.int .u64 (n : Int)] w (Ret w [] fun r w' => ∃ c X t, r = (.pointer (some ⟨c, 0, none⟩)) ∧ ∃ dp, Dm w' w.heap.size c X t dp ∧ Dv t dp n 0) := by
 have hdl := decL_len 19 n (by omega)
 refine calls_of Tryz.func209 rfl rfl rfl rfl ?_
 have FR := Fr.refl [] w
 refine DC.seq ?_
 refine DC.region ?_
 refine DL.y rfl rfl (Y.assign) ?_
 refine DL.nil ?_
 show DC _ _ _ _ _ _
 refine DC.seq ?_
 refine DC.region ?_
 refine DL.alloc rfl rfl F.z242 rfl ?_
 intro b3 w1 f2 lo3 hi3 hb3
 replace lo3 := Nat.le_trans FR.size lo3
 replace FR := FR.tr0 f2
 refine DL.nil ?_
 show DC _ _ _ _ _ _
 refine DC.seq ?_
 refine DC.seq ?_
 refine DC.region ?_
 refine DL.y rfl rfl (Y.move) ?_
 refine DL.call rfl rfl F.nm197 rfl (FormatUint_any n hn _) ?_
 rintro _ w3 f4 ⟨sd, rfl, hsd⟩
 replace FR := FR.tr0 f4
 replace hb3 := f4.blk0 hb3
 replace hi3 := Nat.lt_of_lt_of_le hi3 f4.size
 have hsz : sd.size = (decL n).length := by rw [size_list, hsd]
 refine DL.bytesOf rfl rfl Tryz.underlying9 Tryz.underlying107 Tryz.underlying5 rfl ?_
 intro b8 w5 cap8 f6 lo8 hi8 hc8
 have lt_b3_b8 : b3 < b8 := Nat.lt_of_lt_of_le hi3 lo8
 replace lo8 := Nat.le_trans FR.size lo8
 replace FR := FR.tr0 f6
 replace hb3 := f6.blk0 hb3
 replace hi3 := Nat.lt_of_lt_of_le hi3 f6.size
 refine DL.y rfl rfl (Y.lenS Tryz.underlying107 rfl) ?_
 refine DL.y rfl rfl (Y.move) ?_
 refine DL.nil ?_
 show DC _ _ _ _ _ _
 refine DC.block ?_
 obtain ⟨E0, hE0⟩ : ∃ E0, E0 = w5.heap.size := ⟨_, rfl⟩
 have hb3E : b3 < E0 := by omega
 have hb8E : b8 < E0 := by omega
 have hwE : w.heap.size ≤ E0 := by have := FR.size; omega
 have hEc := Nat.le_of_eq hE0
 refine DC.loopE (σ := Nat × Value) [(5, 5), (10, 21)] [(3, .pointer (some ⟨b3, 0, none⟩)), (8, .slice (some ⟨b8, 0, none⟩) sd.size cap8), (9, .int .i64 (sd.size : Int))] (fun (i, _) => [(10, .int .i64 (i : Int))]) (fun sg wl => Fr [b3] w5 wl ∧ (fun (i, v) wl => i ≤ sd.size ∧ wl.heap[b3]? = some (.cells #[v, .int .i64 0] 242 (0, 0)) ∧ wl.ownsRow E0 5 1 v i (dv ((digL n).take i))) sg wl) (fun (i, _) => sd.size - i) ((0, .slice none 0 0)) rfl ?_ ?_ ?_ ?_
 ·exact ⟨rfl, rfl, rfl⟩
 ·exact rfl
 ·exact ⟨Fr.refl _ _, Nat.zero_le _, hb3, World.ownsRow_nil _ _ _ _⟩
 ·rintro e0 ⟨i, v⟩ j w7 ⟨f8, hi0, hb3, ho⟩
  replace FR := FR.put f8 (by intro i hi; simp only [List.mem_cons, List.mem_singleton, List.not_mem_nil, or_false] at hi; rcases hi with rfl; all_goals (first | (left; simp; done) | (right; omega)))
  replace hi3 := Nat.lt_of_lt_of_le hi3 f8.size
  replace hi8 := Nat.lt_of_lt_of_le hi8 f8.size
  replace hc8 := fun i hi => Fr.cell f8 (hc8 i hi) (by first | (simp; done) | (simp only [List.mem_cons, List.mem_singleton, List.not_mem_nil, or_false]; omega))
  replace hEc := Nat.le_trans hEc f8.size
  have G9 := f8
  have HG9 := Fr.refl [b3] w7
  refine DC.seq ?_
  refine DC.region ?_
  refine DL.if rfl rfl (Y.lt rfl rfl) (fun c11 => ?_) (fun c11 => ?_)
  ·refine DL.nil ?_
   show DC _ _ _ _ _ _
   refine DC.seq ?_
   refine DC.condT rfl ?_
   refine DC.skip ?_
   show DC _ _ _ _ _ _
   refine DC.seq ?_
   refine DC.block ?_
   refine DC.seq ?_
   refine DC.region ?_
   refine DL.y rfl rfl (Y.index F.sl107 rfl rfl (rfl) (by omega)) ?_
   refine DL.y rfl rfl (v := .int .u8 ((48 + dg (digL n) i : Nat) : Int)) (by have h := hc8 i (by rw [← size_list]; omega); have e : sd.data.toList[i]'(by rw [← size_list]; omega) = (decL n)[i]'(by omega) := by { simp only [hsd] }; rw [e, digL_at] at h; exact Y.load F.sc5 rfl h) ?_
   refine DL.y rfl rfl (Y.assign) ?_
   refine DL.nil ?_
   show DC _ _ _ _ _ _
   refine DC.region ?_
   refine DL.y rfl rfl (Y.field F.fd242_0 rfl) ?_
   refine DL.y rfl rfl (Y.loadB F.sc107 rfl hb3 rfl) ?_
   refine DL.y rfl rfl (Y.move) ?_
   refine DL.y rfl rfl (Y.subC (c := (dg (digL n) i : Int)) rfl rfl (by rw [show ((48 + dg (digL n) i : Nat) : Int) - 48 = ((dg (digL n) i : Nat) : Int) by omega]; exact wrap_u8 (by have := (digL_ok 19 n (by omega)).1 i; omega))) ?_
   refine DL.buildSl1 rfl rfl (F.el107) rfl rfl rfl ?_
   intro b18 w10 f11 lo18 hi18 hb18
   have lt_b3_b18 : b3 < b18 := Nat.lt_of_lt_of_le hi3 lo18
   have lt_b8_b18 : b8 < b18 := Nat.lt_of_lt_of_le hi8 lo18
   have le_E0_b18 : E0 ≤ b18 := Nat.le_trans hEc lo18
   have lo18G9 := Nat.le_trans G9.size lo18
   have lo18HG9 := Nat.le_trans HG9.size lo18
   replace lo18 := Nat.le_trans FR.size lo18
   replace FR := FR.tr0 f11
   replace G9 := G9.tr0 f11
   replace HG9 := HG9.tr0 f11
   replace hi3 := Nat.lt_of_lt_of_le hi3 f11.size
   replace hi8 := Nat.lt_of_lt_of_le hi8 f11.size
   replace hc8 := fun i hi => Fr.cell f11 (hc8 i hi) (by first | (simp; done) | (simp only [List.mem_cons, List.mem_singleton, List.not_mem_nil, or_false]; omega))
   replace hEc := Nat.le_trans hEc f11.size
   replace ho := ownsRow_fr ho f11 (by intro i hi hv; first | (simp at hi; done) | (simp only [List.mem_singleton] at hi; have := (own_ge ho i (mem_ownL.2 hv)).1; omega))
   replace hb3 := f11.blk0 hb3
   refine DL.appendRow (v := v) (css := (dv ((digL n).take i)).map fun x => #[x]) (cl := fun _ => #[.int .u8 ((dg (digL n) i : Nat) : Int)]) rfl rfl F.el107 rfl rfl (by rw [flatC_one]; exact ho) (fun ib hib => ⟨b18, 0, rfl, (by obtain rfl : ib = 0 := by { omega }; exact CellsAt.ofBlk hb18), rfl, by simp [Value.oneCell']⟩) (by omega) (by omega) (by omega) ?_
   intro v1 w12 f13 ho1 hat1
   have hlo : ∀ ib ∈ ownL (v), E0 ≤ ib := fun ib hib => (own_ge ho ib hib).1
   replace FR := FR.put f13 (fun ib hib => Or.inr (by have := hlo ib hib; omega))
   replace G9 := G9.put f13 (fun ib hib => Or.inr (by have := hlo ib hib; omega))
   replace hi3 := Nat.lt_of_lt_of_le hi3 f13.size
   replace hi8 := Nat.lt_of_lt_of_le hi8 f13.size
   replace hc8 := fun ib hib => Fr.cell f13 (hc8 ib hib) (fun hm => by have := hlo _ hm; omega)
   replace hEc := Nat.le_trans hEc f13.size
   replace hb3 := f13.blk hb3 (fun hm => by have := hlo _ hm; omega)
   replace hi18 := Nat.lt_of_lt_of_le hi18 f13.size
   rw [flatC_append, flatC_one] at ho1
   have hd1 : flatC ((List.range 1).map fun _ => #[Value.int .u8 ((dg (digL n) i : Nat) : Int)]) = dv [dg (digL n) i] := rfl
   rw [hd1, ← dv_append] at ho1
   replace ho := ho1
   rw [← take_dg (by rw [digL_len]; omega)] at ho
   refine DL.y rfl rfl (Y.field F.fd242_0 rfl) ?_
   refine DL.store rfl F.co107 F.in107 rfl rfl (own_one ho) hb3 rfl ?_
   intro w14 f15 hs16 hb3'
   replace FR := FR.put f15 (by intro i hi; simp only [List.mem_cons, List.mem_singleton, List.not_mem_nil, or_false] at hi; rcases hi with rfl; all_goals (first | (left; simp; done) | (right; omega)))
   replace G9 := G9.put f15 (by intro i hi; simp only [List.mem_cons, List.mem_singleton, List.not_mem_nil, or_false] at hi; rcases hi with rfl; all_goals (first | (left; simp; done) | (right; omega)))
   replace hi3 := Nat.lt_of_lt_of_le hi3 f15.size
   replace hi8 := Nat.lt_of_lt_of_le hi8 f15.size
   replace hc8 := fun i hi => Fr.cell f15 (hc8 i hi) (by first | (simp; done) | (simp only [List.mem_cons, List.mem_singleton, List.not_mem_nil, or_false]; omega))
   replace hEc := Nat.le_trans hEc f15.size
   replace hi18 := Nat.lt_of_lt_of_le hi18 f15.size
   replace ho := ownsRow_fr ho f15 (by intro i hi hv; first | (simp at hi; done) | (simp only [List.mem_singleton] at hi; have := (own_ge ho i (mem_ownL.2 hv)).1; omega))
   replace hb3 := hb3'
   refine DL.nil ?_
   show DC _ _ _ _ _ _
   refine DC.region ?_
   refine DL.y rfl rfl (Y.addI (c := ((i + 1 : Nat) : Int)) rfl rfl (by omega) (by omega) (by omega)) ?_
   refine DL.y rfl rfl (Y.move) ?_
   refine DL.nil ?_
   exact ⟨(i + 1, v1), ⟨G9, by omega, hb3, ho⟩, by show sd.size - (i + 1) < sd.size - i; omega, rfl⟩
  ·refine DL.nil ?_
   show DC _ _ _ _ _ _
   refine DC.seq ?_
   refine DC.condF rfl ?_
   refine DC.exit ?_
   show DC _ _ _ _ _ _
   refine DC.seq ?_
   refine DC.region ?_
   refine DL.y rfl rfl (Y.field F.fd242_0 rfl) ?_
   refine DL.y rfl rfl (Y.loadB F.sc107 rfl hb3 rfl) ?_
   have hlen : i = (digL n).length := by rw [digL_len]; omega
   subst hlen
   have htk : (digL n).take (digL n).length = digL n := List.take_length
   rw [htk] at ho
   obtain ⟨a, cap, rfl, _, _⟩ := own_cells ho
   refine DL.y rfl rfl (Y.lenS Tryz.underlying107 rfl) ?_
   refine DL.y rfl rfl (Y.field F.fd242_1 rfl) ?_
   refine DL.store rfl F.co3 F.in3 rfl rfl rfl hb3 rfl ?_
   intro w17 f18 hs19 hb3'
   replace FR := FR.put f18 (by intro i hi; simp only [List.mem_cons, List.mem_singleton, List.not_mem_nil, or_false] at hi; rcases hi with rfl; all_goals (first | (left; simp; done) | (right; omega)))
   replace hi3 := Nat.lt_of_lt_of_le hi3 f18.size
   replace hi8 := Nat.lt_of_lt_of_le hi8 f18.size
   replace hc8 := fun i hi => Fr.cell f18 (hc8 i hi) (by first | (simp; done) | (simp only [List.mem_cons, List.mem_singleton, List.not_mem_nil, or_false]; omega))
   replace hEc := Nat.le_trans hEc f18.size
   replace ho := ownsRow_fr ho f18 (by intro i hi hv; first | (simp at hi; done) | (simp only [List.mem_singleton] at hi; have := (own_ge ho i (mem_ownL.2 hv)).1; omega))
   replace hb3 := hb3'
   refine DL.nil ?_
   show DC _ _ _ _ _ _
   refine DC.seq ?_
   refine DC.region ?_
   refine DL.call rfl rfl F.nm233 rfl (trim_any (B := w.heap.size) (d := digL n) ⟨⟨_, hb3, own_base ho hwE, rfl⟩, by omega⟩ (by omega)) ?_
   rintro _ w20 f21 ⟨rfl, t, z, hcut, hD⟩
   replace FR := FR.put f21 (by intro i hi; simp only [List.mem_cons, List.mem_singleton, List.not_mem_nil, or_false] at hi; rcases hi with rfl; all_goals (first | (left; simp; done) | (right; omega)))
   replace hi3 := Nat.lt_of_lt_of_le hi3 f21.size
   replace hi8 := Nat.lt_of_lt_of_le hi8 f21.size
   replace hc8 := fun i hi => Fr.cell f21 (hc8 i hi) (by first | (simp; done) | (simp only [List.mem_cons, List.mem_singleton, List.not_mem_nil, or_false]; omega))
   replace hEc := Nat.le_trans hEc f21.size
   replace ho := ownsRow_fr ho f21 (by intro i hi hv; first | (simp at hi; done) | (simp only [List.mem_singleton] at hi; have := (own_ge ho i (mem_ownL.2 hv)).1; omega))
   refine DL.y rfl rfl (Y.assign) ?_
   refine DL.nil ?_
   show DC _ _ _ _ _ _
   refine DC.ret ?_
   refine FinQ.ret1 rfl (Ret.mk FR ⟨b3, _, t, rfl, _, hD, ?_⟩)
   have hk : n < 10 ^ (19 + 1) := by omega
   have D := new_fin hn0 hk hcut
   rw [if_neg D.canon.ne]; exact D

end Go.Proofs.YtmbleojlnaofjaaGreatDoor

/- The walks of half and shift. -/
namespace Go.Proofs.YtmbleojlnaofjaaGreatDoor
open Go Go.RowKit D Go.Deep
set_option linter.unusedVariables false
set_option linter.unusedSimpArgs false


theorem pow59 {k : Nat} (hk : k ≤ 59) : 2 ^ k ≤ 576460752303423488 := by
 have := Nat.pow_le_pow_right (n := 2) (by decide) hk
 simpa using this
theorem i_bound {n i k : Nat} (h : i = 0 ∨ 10 ^ (i - 1) ≤ n) (hn : n < 10 * 2 ^ k) (hk : k ≤ 59) : i ≤ 19 := by
 rcases h with h | h
 ·omega
 ·rcases Nat.lt_or_ge i 20 with h2 | h2
  ·omega
  ·have h3 : 10 ^ 19 ≤ 10 ^ (i - 1) := Nat.pow_le_pow_right (by decide) (by omega)
   have := pow59 hk
   omega
/-- How far a halving has come. -/
structure H2 (d : List Nat) (k i0 n i : Nat) (o : List Nat) : Prop where
 eq : pre d i = val o * 10 * 2 ^ k + n
 lt : n < 10 * 2 ^ k
 len : o.length + i0 = i
 dig : ∀ q, dg o q < 10
 head : (o = [] ∧ 2 ^ k ≤ n) ∨ dg o 0 ≠ 0
 two : max d.length i0 ≤ i → 2 ^ (i - max d.length i0) ∣ n
 bnd : i ≤ max d.length i0 + k + 1
 fin : i = max d.length i0 + k + 1 → n = 0
theorem H2.start {d : List Nat} {k i0 n : Nat} (he : n = pre d i0) (h1 : 2 ^ k ≤ n) (h2 : n < 10 * 2 ^ k) : H2 d k i0 n i0 [] := by
 refine ⟨by rw [← he]; simp [val, pre], h2, by simp, fun q => by simp [dg], Or.inl ⟨rfl, h1⟩, fun h => ?_, by omega, fun h => by omega⟩
 rw [show i0 - max d.length i0 = 0 by omega]; simp
theorem H2.dlt {d : List Nat} {k i0 n i : Nat} {o : List Nat} (h : H2 d k i0 n i o) : n / 2 ^ k < 10 := Nat.div_lt_of_lt_mul (by rw [Nat.mul_comm]; exact h.lt)
theorem H2.step {d : List Nat} {k i0 n i : Nat} {o : List Nat} (h : H2 d k i0 n i o) (hd : ∀ i, dg d i < 10) (hgo : i < d.length ∨ 0 < n) : i ≤ max d.length i0 + k ∧ H2 d k i0 (n % 2 ^ k * 10 + dg d i) (i + 1) (o ++ [n / 2 ^ k]) := by
 have hp := Nat.two_pow_pos k
 have hm := Nat.mod_lt n hp
 have hdm := Nat.div_add_mod n (2 ^ k)
 have hi : i ≤ max d.length i0 + k := by
  rcases hgo with hgo | hgo
  ·omega
  ·have := h.bnd
   rcases Nat.lt_or_ge i (max d.length i0 + k + 1) with h1 | h1
   ·omega
   ·have := h.fin (by omega); omega
 have hdi := hd i
 refine ⟨hi, ?_, ?_, ?_, ?_, ?_, ?_, by omega, ?_⟩
 ·rw [val_snoc, pre, h.eq]
  have e : (10 * val o + n / 2 ^ k) * 10 * 2 ^ k = 10 * (val o * 10 * 2 ^ k) + 10 * (2 ^ k * (n / 2 ^ k)) := by
   rw [Nat.add_mul, Nat.add_mul]; simp only [Nat.mul_comm, Nat.mul_assoc, Nat.mul_left_comm]
  rw [e]; omega
 ·omega
 ·rw [List.length_append, List.length_singleton]; have := h.len; omega
 ·intro q
  rcases Nat.lt_or_ge q o.length with hq | hq
  ·rw [dg_left hq]; exact h.dig q
  ·obtain ⟨r, rfl⟩ : ∃ r, q = o.length + r := ⟨q - o.length, by omega⟩
   rw [dg_right]
   cases r with
   | zero => have := h.dlt; simpa [dg] using this
   | succ r => rw [dg_ge (by simp)]; decide
 ·right
  rcases h.head with ⟨rfl, h1⟩ | h1
  ·have : 1 ≤ n / 2 ^ k := (Nat.le_div_iff_mul_le hp).2 (by omega)
   simp [dg]; omega
  ·have hl : 0 < o.length := by
    rcases Nat.eq_zero_or_pos o.length with h0 | h0
    ·exact absurd (dg_ge (by omega)) h1
    ·exact h0
   rw [dg_left hl]; exact h1
 ·intro hM
  rcases Nat.lt_or_ge i (max d.length i0) with h1 | h1
  ·rw [show i + 1 - max d.length i0 = 0 by omega]; simp
  ·rw [dg_ge (by omega), Nat.add_zero, show i + 1 - max d.length i0 = (i - max d.length i0) + 1 by omega, Nat.pow_succ]
   have h2 := h.two h1
   have h3 : 2 ^ (i - max d.length i0) ∣ n % 2 ^ k := by
    refine (Nat.dvd_mod_iff ?_).2 h2
    exact Nat.pow_dvd_pow 2 (by omega)
   exact Nat.mul_dvd_mul h3 (by decide)
 ·intro hM
  rw [dg_ge (by omega), Nat.add_zero]
  have h2 := h.two (by omega)
  rw [show i - max d.length i0 = k by omega] at h2
  rw [Nat.mod_eq_zero_of_dvd h2]
theorem H2.done {d : List Nat} {k i0 n i : Nat} {o : List Nat} (h : H2 d k i0 n i o) (h1 : ¬ i < d.length) (h2 : ¬ 0 < n) : pre d i = val o * 10 * 2 ^ k ∧ dg o 0 ≠ 0 := by
 have h0 : n = 0 := by omega
 subst h0
 refine ⟨by have := h.eq; omega, ?_⟩
 rcases h.head with ⟨_, h3⟩ | h3
 ·have := Nat.two_pow_pos k; omega
 ·exact h3
theorem and_mask {n k : Nat} (hk : k ≤ 59) (hn : n < 18446744073709551616) : IntKind.u64.wrap ((n &&& (2 ^ k - 1) : Nat) : Int) = ((n % 2 ^ k : Nat) : Int) := by
 rw [Nat.and_two_pow_sub_one_eq_mod]
 exact wrap_u64 (Nat.lt_of_le_of_lt (Nat.mod_le _ _) hn)

set_option maxHeartbeats 1000000 in
theorem half_any {B c k : Nat} {X d : List Nat} {dp : Int} {w : World} (h : Dm w B c X d dp) (D : Canon d) (hdl : d.length ≤ 1000) (hdp : -1000000 ≤ dp ∧ dp ≤ 1000000) (hk1 : 1 ≤ k) (hk : k ≤ 59) (hBw : B ≤ w.heap.size) : Calls Tryz.prog 235 #[(.pointer (some ⟨c, 0, none⟩)), .int .i64 (k : Int)] w (Ret w [c] fun r w' => r = .tuple #[] ∧ ∃ X' t dp', Dm w' B c X' t dp' ∧ (∀ j ∈ X', j = c ∨ w.heap.size ≤ j) ∧ ∀ Y e, Dv d dp Y e → Dv t dp' (Y * 5 ^ k) (e + k)) := by
 have hp59 := pow59 hk
 have hdl1 := D.pos
 obtain ⟨v, hb, hv, rfl⟩ := h.out
 have hB := h.lo
 obtain ⟨a, cap, rfl, _, _⟩ := own_cells hv
 obtain ⟨g, rfl⟩ := own_some hv (by omega)
 refine calls_of Tryz.func235 rfl rfl rfl rfl ?_
 have FR := Fr.refl [c] w
 refine DC.seq ?_
 refine DC.region ?_
 refine DL.y rfl rfl (Y.assign) ?_
 refine DL.nil ?_
 show DC _ _ _ _ _ _
 refine DC.seq ?_
 refine DC.region ?_
 refine DL.y rfl rfl (Y.assign) ?_
 refine DL.nil ?_
 show DC _ _ _ _ _ _
 refine DC.seq ?_
 refine DC.block ?_
 refine DC.loopE (σ := Nat × Nat) [(4, 5), (7, 45)] [(0, (.pointer (some ⟨c, 0, none⟩))), (1, .int .i64 (k : Int))] (fun (n, i) => [(4, .int .u64 (n : Int)), (5, .int .i64 (i : Int))]) (fun sg wl => Fr [] w wl ∧ (fun (n, i) wl => n = pre d i ∧ n < 10 * 2 ^ k ∧ (i = 0 ∨ 10 ^ (i - 1) ≤ n)) sg wl) (fun (_, i) => 20 - i) ((0, 0)) rfl ?_ ?_ ?_ ?_
 ·exact ⟨rfl, rfl⟩
 ·exact ⟨rfl, rfl⟩
 ·exact ⟨Fr.refl _ _, rfl, by have := Nat.two_pow_pos k; omega, Or.inl rfl⟩
 ·rintro e0 ⟨n, i⟩ j w1 ⟨f2, hnp, hnk, hni⟩
  replace FR := FR.tr0 f2
  replace hv := ownsRow_fr hv f2 (by simp)
  replace hb := f2.blk0 hb
  have G3 := f2
  have HG3 := Fr.refl [] w1
  have hi19 := i_bound hni hnk hk
  have hnpos : i = 0 ∨ 0 < n := hni.imp id (fun h => Nat.lt_of_lt_of_le (Nat.pow_pos (by decide)) h)
  have hdi := D.lt i
  refine DC.seq ?_
  refine DC.seq ?_
  refine DC.region ?_
  refine DL.y rfl rfl (Y.move) ?_
  refine DL.y rfl rfl (Y.move) ?_
  refine DL.y rfl rfl (Y.shrN (k := .u64) (k' := .i64) (m := k) (a := n) (c := n / 2 ^ k) rfl rfl (by show k ≤ 64; omega) rfl) ?_
  refine DL.if rfl rfl (Y.eq rfl rfl) (fun c10 => ?_) (fun c10 => ?_)
  ·have hn2 : n < 2 ^ k := Nat.lt_of_div_eq_zero (Nat.two_pow_pos k) (by omega)
   refine DL.nil ?_
   show DC _ _ _ _ _ _
   refine DC.condT rfl ?_
   refine DC.skip ?_
   show DC _ _ _ _ _ _
   refine DC.forget [(0, (.pointer (some ⟨c, 0, none⟩))), (1, .int .i64 (k : Int)), (4, .int .u64 ((n : Nat) : Int)), (5, .int .i64 (i : Int))] ⟨rfl, rfl, rfl, rfl⟩ (fun e0 => ?_)
   refine DC.seq ?_
   refine DC.block ?_
   refine DC.seq ?_
   refine DC.seq ?_
   refine DC.region ?_
   refine DL.y rfl rfl (Y.move) ?_
   refine DL.y rfl rfl (Y.move) ?_
   refine DL.y rfl rfl (Y.nil rfl) ?_
   refine DL.y rfl rfl (Y.field F.fd242_0 rfl) ?_
   refine DL.y rfl rfl (Y.loadB F.sc107 rfl hb rfl) ?_
   refine DL.y rfl rfl (Y.lenS Tryz.underlying107 rfl) ?_
   refine DL.if rfl rfl (Y.ge rfl rfl) (fun c19 => ?_) (fun c19 => ?_)
   ·refine DL.y rfl rfl (Y.move) ?_
    refine DL.y rfl rfl (Y.move) ?_
    refine DL.if rfl rfl (Y.eq rfl rfl) (fun c22 => ?_) (fun c22 => ?_)
    ·exfalso; omega
    ·refine DL.y rfl rfl (Y.pickT rfl) ?_
     refine DL.nil ?_
     show DC _ _ _ _ _ _
     refine DC.condF rfl ?_
     refine DC.skip ?_
     show DC _ _ _ _ _ _
     refine DC.seq ?_
     refine DC.region ?_
     refine DL.y rfl rfl (Y.move) ?_
     refine DL.y rfl rfl (Y.mulC (c := ((n * 10 : Nat) : Int)) rfl rfl (by rw [show (n : Int) * 10 = ((n * 10 : Nat) : Int) by omega]; exact wrap_u64 (by omega))) ?_
     refine DL.y rfl rfl (Y.assign) ?_
     refine DL.nil ?_
     show DC _ _ _ _ _ _
     refine DC.forget [(0, (.pointer (some ⟨c, 0, none⟩))), (1, .int .i64 (k : Int)), (4, .int .u64 ((n * 10 : Nat) : Int)), (5, .int .i64 (i : Int))] ⟨rfl, rfl, rfl, rfl⟩ (fun e0 => ?_)
     refine DC.seq ?_
     refine DC.region ?_
     refine DL.y rfl rfl (Y.move) ?_
     refine DL.y rfl rfl (Y.move) ?_
     refine DL.y rfl rfl (Y.nil rfl) ?_
     refine DL.y rfl rfl (Y.field F.fd242_0 rfl) ?_
     refine DL.y rfl rfl (Y.loadB F.sc107 rfl hb rfl) ?_
     refine DL.y rfl rfl (Y.lenS Tryz.underlying107 rfl) ?_
     refine DL.if rfl rfl (Y.lt rfl rfl) (fun c35 => ?_) (fun c35 => ?_)
     ·refine DL.nil ?_
      show DC _ _ _ _ _ _
      refine DC.condT rfl ?_
      refine DC.region ?_
      refine DL.y rfl rfl (Y.move) ?_
      refine DL.y rfl rfl (Y.move) ?_
      refine DL.y rfl rfl (Y.nil rfl) ?_
      refine DL.y rfl rfl (Y.field F.fd242_0 rfl) ?_
      refine DL.y rfl rfl (Y.loadB F.sc107 rfl hb rfl) ?_
      refine DL.y rfl rfl (Y.move) ?_
      refine DL.y rfl rfl (Y.index F.sl107 rfl rfl (rfl) (by omega)) ?_
      refine DL.y rfl rfl (Y.load F.sc5 rfl (own_dig hv (i := i) (by omega))) ?_
      refine DL.y rfl rfl (Y.convC (c := ((dg d i : Nat) : Int)) F.us5 Tryz.underlying93 rfl (wrap_u64 (by omega))) ?_
      refine DL.y rfl rfl (Y.addC (c := ((n * 10 + dg d i : Nat) : Int)) rfl rfl (by rw [show ((n * 10 : Nat) : Int) + ((dg d i : Nat) : Int) = ((n * 10 + dg d i : Nat) : Int) by omega]; exact wrap_u64 (by omega))) ?_
      refine DL.y rfl rfl (Y.assign) ?_
      refine DL.nil ?_
      show DC _ _ _ _ _ _
      refine DC.forget [(0, (.pointer (some ⟨c, 0, none⟩))), (1, .int .i64 (k : Int)), (4, .int .u64 ((n * 10 + dg d i : Nat) : Int)), (5, .int .i64 (i : Int))] ⟨rfl, rfl, rfl, rfl⟩ (fun e0 => ?_)
      refine DC.region ?_
      refine DL.y rfl rfl (Y.move) ?_
      refine DL.y rfl rfl (Y.addI (c := ((i + 1 : Nat) : Int)) rfl rfl (by omega) (by omega) (by omega)) ?_
      refine DL.y rfl rfl (Y.assign) ?_
      refine DL.nil ?_
      have hpi : pre d (i + 1) = n * 10 + dg d i := by rw [pre, ← hnp]; omega
      have hni2 : 10 ^ (i + 1 - 1) ≤ n * 10 + dg d i := by
       rw [← hpi]; exact pre_pos D.first i
      exact ⟨(n * 10 + dg d i, i + 1), ⟨G3, hpi.symm, by omega, Or.inr hni2⟩, by show 20 - (i + 1) < 20 - i; omega, rfl, rfl⟩
     ·refine DL.nil ?_
      show DC _ _ _ _ _ _
      refine DC.condF rfl ?_
      refine DC.skip ?_
      show DC _ _ _ _ _ _
      refine DC.forget [(0, (.pointer (some ⟨c, 0, none⟩))), (1, .int .i64 (k : Int)), (4, .int .u64 ((n * 10 : Nat) : Int)), (5, .int .i64 (i : Int))] ⟨rfl, rfl, rfl, rfl⟩ (fun e0 => ?_)
      refine DC.region ?_
      refine DL.y rfl rfl (Y.move) ?_
      refine DL.y rfl rfl (Y.addI (c := ((i + 1 : Nat) : Int)) rfl rfl (by omega) (by omega) (by omega)) ?_
      refine DL.y rfl rfl (Y.assign) ?_
      refine DL.nil ?_
      have hpi : pre d (i + 1) = n * 10 + dg d i := by rw [pre, ← hnp]; omega
      have hni2 : 10 ^ (i + 1 - 1) ≤ n * 10 + dg d i := by
       rw [← hpi]; exact pre_pos D.first i
      rw [dg_ge (by omega), Nat.add_zero] at hpi hni2
      exact ⟨(n * 10, i + 1), ⟨G3, hpi.symm, by omega, Or.inr hni2⟩, by show 20 - (i + 1) < 20 - i; omega, rfl, rfl⟩
   ·refine DL.y rfl rfl (Y.move) ?_
    refine DL.skip rfl rfl ?_
    refine DL.skip rfl rfl ?_
    refine DL.y rfl rfl (Y.pickF rfl) ?_
    refine DL.nil ?_
    show DC _ _ _ _ _ _
    refine DC.condF rfl ?_
    refine DC.skip ?_
    show DC _ _ _ _ _ _
    refine DC.seq ?_
    refine DC.region ?_
    refine DL.y rfl rfl (Y.move) ?_
    refine DL.y rfl rfl (Y.mulC (c := ((n * 10 : Nat) : Int)) rfl rfl (by rw [show (n : Int) * 10 = ((n * 10 : Nat) : Int) by omega]; exact wrap_u64 (by omega))) ?_
    refine DL.y rfl rfl (Y.assign) ?_
    refine DL.nil ?_
    show DC _ _ _ _ _ _
    refine DC.forget [(0, (.pointer (some ⟨c, 0, none⟩))), (1, .int .i64 (k : Int)), (4, .int .u64 ((n * 10 : Nat) : Int)), (5, .int .i64 (i : Int))] ⟨rfl, rfl, rfl, rfl⟩ (fun e0 => ?_)
    refine DC.seq ?_
    refine DC.region ?_
    refine DL.y rfl rfl (Y.move) ?_
    refine DL.y rfl rfl (Y.move) ?_
    refine DL.y rfl rfl (Y.nil rfl) ?_
    refine DL.y rfl rfl (Y.field F.fd242_0 rfl) ?_
    refine DL.y rfl rfl (Y.loadB F.sc107 rfl hb rfl) ?_
    refine DL.y rfl rfl (Y.lenS Tryz.underlying107 rfl) ?_
    refine DL.if rfl rfl (Y.lt rfl rfl) (fun c35 => ?_) (fun c35 => ?_)
    ·refine DL.nil ?_
     show DC _ _ _ _ _ _
     refine DC.condT rfl ?_
     refine DC.region ?_
     refine DL.y rfl rfl (Y.move) ?_
     refine DL.y rfl rfl (Y.move) ?_
     refine DL.y rfl rfl (Y.nil rfl) ?_
     refine DL.y rfl rfl (Y.field F.fd242_0 rfl) ?_
     refine DL.y rfl rfl (Y.loadB F.sc107 rfl hb rfl) ?_
     refine DL.y rfl rfl (Y.move) ?_
     refine DL.y rfl rfl (Y.index F.sl107 rfl rfl (rfl) (by omega)) ?_
     refine DL.y rfl rfl (Y.load F.sc5 rfl (own_dig hv (i := i) (by omega))) ?_
     refine DL.y rfl rfl (Y.convC (c := ((dg d i : Nat) : Int)) F.us5 Tryz.underlying93 rfl (wrap_u64 (by omega))) ?_
     refine DL.y rfl rfl (Y.addC (c := ((n * 10 + dg d i : Nat) : Int)) rfl rfl (by rw [show ((n * 10 : Nat) : Int) + ((dg d i : Nat) : Int) = ((n * 10 + dg d i : Nat) : Int) by omega]; exact wrap_u64 (by omega))) ?_
     refine DL.y rfl rfl (Y.assign) ?_
     refine DL.nil ?_
     show DC _ _ _ _ _ _
     refine DC.forget [(0, (.pointer (some ⟨c, 0, none⟩))), (1, .int .i64 (k : Int)), (4, .int .u64 ((n * 10 + dg d i : Nat) : Int)), (5, .int .i64 (i : Int))] ⟨rfl, rfl, rfl, rfl⟩ (fun e0 => ?_)
     refine DC.region ?_
     refine DL.y rfl rfl (Y.move) ?_
     refine DL.y rfl rfl (Y.addI (c := ((i + 1 : Nat) : Int)) rfl rfl (by omega) (by omega) (by omega)) ?_
     refine DL.y rfl rfl (Y.assign) ?_
     refine DL.nil ?_
     have hpi : pre d (i + 1) = n * 10 + dg d i := by rw [pre, ← hnp]; omega
     have hni2 : 10 ^ (i + 1 - 1) ≤ n * 10 + dg d i := by
      rw [← hpi]; exact pre_pos D.first i
     exact ⟨(n * 10 + dg d i, i + 1), ⟨G3, hpi.symm, by omega, Or.inr hni2⟩, by show 20 - (i + 1) < 20 - i; omega, rfl, rfl⟩
    ·refine DL.nil ?_
     show DC _ _ _ _ _ _
     refine DC.condF rfl ?_
     refine DC.skip ?_
     show DC _ _ _ _ _ _
     refine DC.forget [(0, (.pointer (some ⟨c, 0, none⟩))), (1, .int .i64 (k : Int)), (4, .int .u64 ((n * 10 : Nat) : Int)), (5, .int .i64 (i : Int))] ⟨rfl, rfl, rfl, rfl⟩ (fun e0 => ?_)
     refine DC.region ?_
     refine DL.y rfl rfl (Y.move) ?_
     refine DL.y rfl rfl (Y.addI (c := ((i + 1 : Nat) : Int)) rfl rfl (by omega) (by omega) (by omega)) ?_
     refine DL.y rfl rfl (Y.assign) ?_
     refine DL.nil ?_
     have hpi : pre d (i + 1) = n * 10 + dg d i := by rw [pre, ← hnp]; omega
     have hni2 : 10 ^ (i + 1 - 1) ≤ n * 10 + dg d i := by
      rw [← hpi]; exact pre_pos D.first i
     rw [dg_ge (by omega), Nat.add_zero] at hpi hni2
     exact ⟨(n * 10, i + 1), ⟨G3, hpi.symm, by omega, Or.inr hni2⟩, by show 20 - (i + 1) < 20 - i; omega, rfl, rfl⟩
  ·have h2k : 2 ^ k ≤ n := Nat.le_of_not_lt (fun h => c10 (by rw [Nat.div_eq_of_lt h]; rfl))
   have hi1 : 1 ≤ i := by rcases hnpos with h | h; (rw [h] at hnp; simp [pre] at hnp; have := Nat.two_pow_pos k; omega); (rcases Nat.eq_zero_or_pos i with h0 | h0; (rw [h0] at hnp; simp [pre] at hnp; omega); exact h0)
   refine DL.nil ?_
   show DC _ _ _ _ _ _
   refine DC.condF rfl ?_
   refine DC.exit ?_
   show DC _ _ _ _ _ _
   refine DC.seq ?_
   refine DC.region ?_
   refine DL.y rfl rfl (Y.move) ?_
   refine DL.y rfl rfl (Y.nil rfl) ?_
   refine DL.y rfl rfl (Y.field F.fd242_1 rfl) ?_
   refine DL.y rfl rfl (Y.loadB F.sc3 rfl hb rfl) ?_
   refine DL.y rfl rfl (Y.move) ?_
   refine DL.y rfl rfl (Y.subI (c := (i : Int) - 1) rfl rfl (by omega) (by omega) (by omega)) ?_
   refine DL.y rfl rfl (Y.subI (c := dp - ((i : Int) - 1)) rfl rfl (by omega) (by omega) (by omega)) ?_
   refine DL.y rfl rfl (Y.nil rfl) ?_
   refine DL.y rfl rfl (Y.field F.fd242_1 rfl) ?_
   refine DL.store rfl F.co3 F.in3 rfl rfl rfl hb rfl ?_
   intro w4 f5 hs6 hb'
   replace FR := FR.put f5 (by intro i hi; simp only [List.mem_cons, List.mem_singleton, List.not_mem_nil, or_false] at hi; rcases hi with rfl; all_goals (first | (left; simp; done) | (right; omega)))
   replace hv := ownsRow_fr hv f5 (by intro i hi hv'; simp only [List.mem_cons, List.mem_singleton, List.not_mem_nil, or_false] at hi; subst hi; first | exact own_ne_c hv hb (mem_ownL.2 hv') | (have e : g = _ := Option.some.inj hv'; omega))
   replace hb := hb'
   refine DL.nil ?_
   show DC _ _ _ _ _ _
   refine DC.seq ?_
   refine DC.region ?_
   refine DL.y rfl rfl (Y.assign) ?_
   refine DL.nil ?_
   show DC _ _ _ _ _ _
   refine DC.seq ?_
   refine DC.block ?_
   obtain ⟨E0, hE0⟩ : ∃ E0, E0 = w4.heap.size := ⟨_, rfl⟩
   have hgE : g < E0 := by have := (own_ge hv g (by simp [ownL, Value.ownBlock])).2; omega
   have hcE : c < E0 := by have := lt_of_blk hb; omega
   have hwE : w.heap.size ≤ E0 := by have := FR.size; omega
   have hEc := Nat.le_of_eq hE0
   obtain ⟨i0, hi0⟩ : ∃ i0, i0 = i := ⟨_, rfl⟩
   have hi019 : i0 ≤ 19 := by omega
   rw [← hi0] at hb
   have hH : H2 d k i0 n i [] := by rw [hi0]; exact H2.start hnp h2k hnk
   refine DC.loopE (σ := Nat × Nat × List Nat × Value) [(4, 6), (55, 97)] [(0, (.pointer (some ⟨c, 0, none⟩))), (1, .int .i64 (k : Int))] (fun (n, i, _, vo) => [(4, .int .u64 (n : Int)), (5, .int .i64 (i : Int)), (6, vo)]) (fun sg wl => Fr [] w4 wl ∧ (fun (n, i, o, vo) wl => H2 d k i0 n i o ∧ wl.ownsRow E0 5 1 vo o.length (dv o)) sg wl) (fun (_, i, _, _) => max d.length i0 + k + 1 - i) ((n, i, [], .slice none 0 0)) rfl ?_ ?_ ?_ ?_
   ·exact ⟨rfl, rfl⟩
   ·exact ⟨rfl, rfl, rfl⟩
   ·exact ⟨Fr.refl _ _, hH, World.ownsRow_nil _ _ _ _⟩
   ·rintro e0 ⟨n, i, o, vo⟩ j w7 ⟨f8, hH, ho⟩
    replace FR := FR.tr0 f8
    replace hv := ownsRow_fr hv f8 (by simp)
    replace hb := f8.blk0 hb
    replace hEc := Nat.le_trans hEc f8.size
    have G9 := f8
    have HG9 := Fr.refl [] w7
    have hol := hH.len
    have hnk2 := hH.lt
    have hq10 := hH.dlt
    have hibn := hH.bnd
    have hdi := D.lt i
    have hmm := Nat.mod_lt n (Nat.two_pow_pos k)
    refine DC.seq ?_
    refine DC.seq ?_
    refine DC.region ?_
    refine DL.y rfl rfl (Y.move) ?_
    refine DL.y rfl rfl (Y.move) ?_
    refine DL.y rfl rfl (Y.nil rfl) ?_
    refine DL.y rfl rfl (Y.field F.fd242_0 rfl) ?_
    refine DL.y rfl rfl (Y.loadB F.sc107 rfl hb rfl) ?_
    refine DL.y rfl rfl (Y.lenS Tryz.underlying107 rfl) ?_
    refine DL.if rfl rfl (Y.lt rfl rfl) (fun c61 => ?_) (fun c61 => ?_)
    ·refine DL.y rfl rfl (Y.move) ?_
     refine DL.skip rfl rfl ?_
     refine DL.skip rfl rfl ?_
     refine DL.y rfl rfl (Y.pickT rfl) ?_
     refine DL.nil ?_
     show DC _ _ _ _ _ _
     refine DC.condT rfl ?_
     refine DC.skip ?_
     show DC _ _ _ _ _ _
     refine DC.forget [(0, (.pointer (some ⟨c, 0, none⟩))), (1, .int .i64 (k : Int)), (4, .int .u64 ((n : Nat) : Int)), (5, .int .i64 (i : Int)), (6, vo)] ⟨rfl, rfl, rfl, rfl, rfl⟩ (fun e0 => ?_)
     refine DC.seq ?_
     refine DC.block ?_
     refine DC.seq ?_
     refine DC.region ?_
     refine DL.y rfl rfl (Y.move) ?_
     refine DL.y rfl rfl (Y.move) ?_
     refine DL.y rfl rfl (Y.move) ?_
     refine DL.y rfl rfl (Y.shrN (k := .u64) (k' := .i64) (m := k) (a := n) (c := n / 2 ^ k) rfl rfl (by show k ≤ 64; omega) rfl) ?_
     refine DL.y rfl rfl (Y.convC (c := ((n / 2 ^ k : Nat) : Int)) F.us93 Tryz.underlying5 rfl (wrap_u8 (by omega))) ?_
     refine DL.buildSl1 rfl rfl (F.el107) rfl rfl rfl ?_
     intro b73 w10 f11 lo73 hi73 hb73
     have le_E0_b73 : E0 ≤ b73 := Nat.le_trans hEc lo73
     have lo73G9 := Nat.le_trans G9.size lo73
     have lo73HG9 := Nat.le_trans HG9.size lo73
     replace lo73 := Nat.le_trans FR.size lo73
     replace FR := FR.tr0 f11
     replace G9 := G9.tr0 f11
     replace HG9 := HG9.tr0 f11
     replace hv := ownsRow_fr hv f11 (by simp)
     replace hb := f11.blk0 hb
     replace hEc := Nat.le_trans hEc f11.size
     replace ho := ownsRow_fr ho f11 (by intro i hi hv'; first | (simp at hi; done) | (simp only [List.mem_singleton] at hi; subst hi; exact own_ne_c ho hb (mem_ownL.2 hv')))
     refine DL.appendRow (v := vo) (css := (dv (o)).map fun x => #[x]) (cl := fun _ => #[.int .u8 ((n / 2 ^ k : Nat) : Int)]) rfl rfl F.el107 rfl rfl (by rw [flatC_one]; exact ho) (fun ib hib => ⟨b73, 0, rfl, (by obtain rfl : ib = 0 := by { omega }; exact CellsAt.ofBlk hb73), rfl, by simp [Value.oneCell']⟩) (by omega) (by omega) (by omega) ?_
     intro v1 w12 f13 ho1 hat1
     have hlo : ∀ ib ∈ ownL (vo), E0 ≤ ib := fun ib hib => (own_ge ho ib hib).1
     replace FR := FR.put f13 (fun ib hib => Or.inr (by have := hlo ib hib; omega))
     replace G9 := G9.put f13 (fun ib hib => Or.inr (by have := hlo ib hib; omega))
     replace hv := ownsRow_fr hv f13 (fun ib hib hv' => by have := hlo ib hib; have e : g = ib := by { simpa [Value.ownBlock] using hv' }; omega)
     replace hb := f13.blk hb (fun hm => by have := hlo _ hm; omega)
     replace hEc := Nat.le_trans hEc f13.size
     replace hi73 := Nat.lt_of_lt_of_le hi73 f13.size
     rw [flatC_append, flatC_one] at ho1
     have hd1 : flatC ((List.range 1).map fun _ => #[Value.int .u8 ((n / 2 ^ k : Nat) : Int)]) = dv [n / 2 ^ k] := rfl
     rw [hd1, ← dv_append] at ho1
     replace ho := ho1
     refine DL.y rfl rfl (Y.assign) ?_
     refine DL.nil ?_
     show DC _ _ _ _ _ _
     refine DC.forget [(0, (.pointer (some ⟨c, 0, none⟩))), (1, .int .i64 (k : Int)), (4, .int .u64 ((n : Nat) : Int)), (5, .int .i64 (i : Int)), (6, v1)] ⟨rfl, rfl, rfl, rfl, rfl⟩ (fun e0 => ?_)
     refine DC.seq ?_
     refine DC.region ?_
     refine DL.y rfl rfl (Y.move) ?_
     refine DL.y rfl rfl (Y.move) ?_
     refine DL.y rfl rfl (Y.shlN (k := .u64) (k' := .i64) (m := k) (a := 1) (c := ((2 ^ k : Nat) : Int)) rfl rfl (by show k ≤ 64; omega) (by rw [Nat.one_mul]; exact wrap_u64 (by omega))) ?_
     refine DL.y rfl rfl (Y.subC (c := ((2 ^ k - 1 : Nat) : Int)) rfl rfl (by have := Nat.two_pow_pos k; rw [show ((2 ^ k : Nat) : Int) - 1 = ((2 ^ k - 1 : Nat) : Int) by omega]; exact wrap_u64 (by omega))) ?_
     refine DL.y rfl rfl (Y.andN (k := .u64) (a := n) (b := 2 ^ k - 1) rfl rfl (by show n < 18446744073709551616; omega) (by show 2 ^ k - 1 < 18446744073709551616; omega) (and_mask hk (by omega))) ?_
     refine DL.y rfl rfl (Y.mulC (c := ((n % 2 ^ k * 10 : Nat) : Int)) rfl rfl (by rw [show ((n % 2 ^ k : Nat) : Int) * 10 = ((n % 2 ^ k * 10 : Nat) : Int) by omega]; exact wrap_u64 (by omega))) ?_
     refine DL.y rfl rfl (Y.assign) ?_
     refine DL.nil ?_
     show DC _ _ _ _ _ _
     refine DC.forget [(0, (.pointer (some ⟨c, 0, none⟩))), (1, .int .i64 (k : Int)), (4, .int .u64 ((n % 2 ^ k * 10 : Nat) : Int)), (5, .int .i64 (i : Int)), (6, v1)] ⟨rfl, rfl, rfl, rfl, rfl⟩ (fun e0 => ?_)
     refine DC.seq ?_
     refine DC.region ?_
     refine DL.y rfl rfl (Y.move) ?_
     refine DL.y rfl rfl (Y.move) ?_
     refine DL.y rfl rfl (Y.nil rfl) ?_
     refine DL.y rfl rfl (Y.field F.fd242_0 rfl) ?_
     refine DL.y rfl rfl (Y.loadB F.sc107 rfl hb rfl) ?_
     refine DL.y rfl rfl (Y.lenS Tryz.underlying107 rfl) ?_
     refine DL.if rfl rfl (Y.lt rfl rfl) (fun c87 => ?_) (fun c87 => ?_)
     ·refine DL.nil ?_
      show DC _ _ _ _ _ _
      refine DC.condT rfl ?_
      refine DC.region ?_
      refine DL.y rfl rfl (Y.move) ?_
      refine DL.y rfl rfl (Y.move) ?_
      refine DL.y rfl rfl (Y.nil rfl) ?_
      refine DL.y rfl rfl (Y.field F.fd242_0 rfl) ?_
      refine DL.y rfl rfl (Y.loadB F.sc107 rfl hb rfl) ?_
      refine DL.y rfl rfl (Y.move) ?_
      refine DL.y rfl rfl (Y.index F.sl107 rfl rfl (rfl) (by omega)) ?_
      refine DL.y rfl rfl (Y.load F.sc5 rfl (own_dig hv (i := i) (by omega))) ?_
      refine DL.y rfl rfl (Y.convC (c := ((dg d i : Nat) : Int)) F.us5 Tryz.underlying93 rfl (wrap_u64 (by omega))) ?_
      refine DL.y rfl rfl (Y.addC (c := ((n % 2 ^ k * 10 + dg d i : Nat) : Int)) rfl rfl (by rw [show ((n % 2 ^ k * 10 : Nat) : Int) + ((dg d i : Nat) : Int) = ((n % 2 ^ k * 10 + dg d i : Nat) : Int) by omega]; exact wrap_u64 (by omega))) ?_
      refine DL.y rfl rfl (Y.assign) ?_
      refine DL.nil ?_
      show DC _ _ _ _ _ _
      refine DC.forget [(0, (.pointer (some ⟨c, 0, none⟩))), (1, .int .i64 (k : Int)), (4, .int .u64 ((n % 2 ^ k * 10 + dg d i : Nat) : Int)), (5, .int .i64 (i : Int)), (6, v1)] ⟨rfl, rfl, rfl, rfl, rfl⟩ (fun e0 => ?_)
      refine DC.region ?_
      refine DL.y rfl rfl (Y.move) ?_
      refine DL.y rfl rfl (Y.addI (c := ((i + 1 : Nat) : Int)) rfl rfl (by omega) (by omega) (by omega)) ?_
      refine DL.y rfl rfl (Y.assign) ?_
      refine DL.nil ?_
      obtain ⟨hib, hHs⟩ := hH.step D.lt (Or.inl (by omega))
      exact ⟨(n % 2 ^ k * 10 + dg d i, i + 1, o ++ [n / 2 ^ k], v1), ⟨G9, hHs, by simpa using ho⟩, by show max d.length i0 + k + 1 - (i + 1) < max d.length i0 + k + 1 - i; omega, rfl, rfl, rfl⟩
     ·refine DL.nil ?_
      show DC _ _ _ _ _ _
      refine DC.condF rfl ?_
      refine DC.skip ?_
      show DC _ _ _ _ _ _
      refine DC.forget [(0, (.pointer (some ⟨c, 0, none⟩))), (1, .int .i64 (k : Int)), (4, .int .u64 ((n % 2 ^ k * 10 : Nat) : Int)), (5, .int .i64 (i : Int)), (6, v1)] ⟨rfl, rfl, rfl, rfl, rfl⟩ (fun e0 => ?_)
      refine DC.region ?_
      refine DL.y rfl rfl (Y.move) ?_
      refine DL.y rfl rfl (Y.addI (c := ((i + 1 : Nat) : Int)) rfl rfl (by omega) (by omega) (by omega)) ?_
      refine DL.y rfl rfl (Y.assign) ?_
      refine DL.nil ?_
      obtain ⟨hib, hHs⟩ := hH.step D.lt (Or.inl (by omega))
      rw [dg_ge (by omega), Nat.add_zero] at hHs
      exact ⟨(n % 2 ^ k * 10, i + 1, o ++ [n / 2 ^ k], v1), ⟨G9, hHs, by simpa using ho⟩, by show max d.length i0 + k + 1 - (i + 1) < max d.length i0 + k + 1 - i; omega, rfl, rfl, rfl⟩
    ·refine DL.y rfl rfl (Y.move) ?_
     refine DL.y rfl rfl (Y.move) ?_
     refine DL.if rfl rfl (Y.gt rfl rfl) (fun c64 => ?_) (fun c64 => ?_)
     ·refine DL.y rfl rfl (Y.pickF rfl) ?_
      refine DL.nil ?_
      show DC _ _ _ _ _ _
      refine DC.condT rfl ?_
      refine DC.skip ?_
      show DC _ _ _ _ _ _
      refine DC.forget [(0, (.pointer (some ⟨c, 0, none⟩))), (1, .int .i64 (k : Int)), (4, .int .u64 ((n : Nat) : Int)), (5, .int .i64 (i : Int)), (6, vo)] ⟨rfl, rfl, rfl, rfl, rfl⟩ (fun e0 => ?_)
      refine DC.seq ?_
      refine DC.block ?_
      refine DC.seq ?_
      refine DC.region ?_
      refine DL.y rfl rfl (Y.move) ?_
      refine DL.y rfl rfl (Y.move) ?_
      refine DL.y rfl rfl (Y.move) ?_
      refine DL.y rfl rfl (Y.shrN (k := .u64) (k' := .i64) (m := k) (a := n) (c := n / 2 ^ k) rfl rfl (by show k ≤ 64; omega) rfl) ?_
      refine DL.y rfl rfl (Y.convC (c := ((n / 2 ^ k : Nat) : Int)) F.us93 Tryz.underlying5 rfl (wrap_u8 (by omega))) ?_
      refine DL.buildSl1 rfl rfl (F.el107) rfl rfl rfl ?_
      intro b73 w14 f15 lo73 hi73 hb73
      have le_E0_b73 : E0 ≤ b73 := Nat.le_trans hEc lo73
      have lo73G9 := Nat.le_trans G9.size lo73
      have lo73HG9 := Nat.le_trans HG9.size lo73
      replace lo73 := Nat.le_trans FR.size lo73
      replace FR := FR.tr0 f15
      replace G9 := G9.tr0 f15
      replace HG9 := HG9.tr0 f15
      replace hv := ownsRow_fr hv f15 (by simp)
      replace hb := f15.blk0 hb
      replace hEc := Nat.le_trans hEc f15.size
      replace ho := ownsRow_fr ho f15 (by intro i hi hv'; first | (simp at hi; done) | (simp only [List.mem_singleton] at hi; subst hi; exact own_ne_c ho hb (mem_ownL.2 hv')))
      refine DL.appendRow (v := vo) (css := (dv (o)).map fun x => #[x]) (cl := fun _ => #[.int .u8 ((n / 2 ^ k : Nat) : Int)]) rfl rfl F.el107 rfl rfl (by rw [flatC_one]; exact ho) (fun ib hib => ⟨b73, 0, rfl, (by obtain rfl : ib = 0 := by { omega }; exact CellsAt.ofBlk hb73), rfl, by simp [Value.oneCell']⟩) (by omega) (by omega) (by omega) ?_
      intro v1 w16 f17 ho1 hat1
      have hlo : ∀ ib ∈ ownL (vo), E0 ≤ ib := fun ib hib => (own_ge ho ib hib).1
      replace FR := FR.put f17 (fun ib hib => Or.inr (by have := hlo ib hib; omega))
      replace G9 := G9.put f17 (fun ib hib => Or.inr (by have := hlo ib hib; omega))
      replace hv := ownsRow_fr hv f17 (fun ib hib hv' => by have := hlo ib hib; have e : g = ib := by { simpa [Value.ownBlock] using hv' }; omega)
      replace hb := f17.blk hb (fun hm => by have := hlo _ hm; omega)
      replace hEc := Nat.le_trans hEc f17.size
      replace hi73 := Nat.lt_of_lt_of_le hi73 f17.size
      rw [flatC_append, flatC_one] at ho1
      have hd1 : flatC ((List.range 1).map fun _ => #[Value.int .u8 ((n / 2 ^ k : Nat) : Int)]) = dv [n / 2 ^ k] := rfl
      rw [hd1, ← dv_append] at ho1
      replace ho := ho1
      refine DL.y rfl rfl (Y.assign) ?_
      refine DL.nil ?_
      show DC _ _ _ _ _ _
      refine DC.forget [(0, (.pointer (some ⟨c, 0, none⟩))), (1, .int .i64 (k : Int)), (4, .int .u64 ((n : Nat) : Int)), (5, .int .i64 (i : Int)), (6, v1)] ⟨rfl, rfl, rfl, rfl, rfl⟩ (fun e0 => ?_)
      refine DC.seq ?_
      refine DC.region ?_
      refine DL.y rfl rfl (Y.move) ?_
      refine DL.y rfl rfl (Y.move) ?_
      refine DL.y rfl rfl (Y.shlN (k := .u64) (k' := .i64) (m := k) (a := 1) (c := ((2 ^ k : Nat) : Int)) rfl rfl (by show k ≤ 64; omega) (by rw [Nat.one_mul]; exact wrap_u64 (by omega))) ?_
      refine DL.y rfl rfl (Y.subC (c := ((2 ^ k - 1 : Nat) : Int)) rfl rfl (by have := Nat.two_pow_pos k; rw [show ((2 ^ k : Nat) : Int) - 1 = ((2 ^ k - 1 : Nat) : Int) by omega]; exact wrap_u64 (by omega))) ?_
      refine DL.y rfl rfl (Y.andN (k := .u64) (a := n) (b := 2 ^ k - 1) rfl rfl (by show n < 18446744073709551616; omega) (by show 2 ^ k - 1 < 18446744073709551616; omega) (and_mask hk (by omega))) ?_
      refine DL.y rfl rfl (Y.mulC (c := ((n % 2 ^ k * 10 : Nat) : Int)) rfl rfl (by rw [show ((n % 2 ^ k : Nat) : Int) * 10 = ((n % 2 ^ k * 10 : Nat) : Int) by omega]; exact wrap_u64 (by omega))) ?_
      refine DL.y rfl rfl (Y.assign) ?_
      refine DL.nil ?_
      show DC _ _ _ _ _ _
      refine DC.forget [(0, (.pointer (some ⟨c, 0, none⟩))), (1, .int .i64 (k : Int)), (4, .int .u64 ((n % 2 ^ k * 10 : Nat) : Int)), (5, .int .i64 (i : Int)), (6, v1)] ⟨rfl, rfl, rfl, rfl, rfl⟩ (fun e0 => ?_)
      refine DC.seq ?_
      refine DC.region ?_
      refine DL.y rfl rfl (Y.move) ?_
      refine DL.y rfl rfl (Y.move) ?_
      refine DL.y rfl rfl (Y.nil rfl) ?_
      refine DL.y rfl rfl (Y.field F.fd242_0 rfl) ?_
      refine DL.y rfl rfl (Y.loadB F.sc107 rfl hb rfl) ?_
      refine DL.y rfl rfl (Y.lenS Tryz.underlying107 rfl) ?_
      refine DL.if rfl rfl (Y.lt rfl rfl) (fun c87 => ?_) (fun c87 => ?_)
      ·refine DL.nil ?_
       show DC _ _ _ _ _ _
       refine DC.condT rfl ?_
       refine DC.region ?_
       refine DL.y rfl rfl (Y.move) ?_
       refine DL.y rfl rfl (Y.move) ?_
       refine DL.y rfl rfl (Y.nil rfl) ?_
       refine DL.y rfl rfl (Y.field F.fd242_0 rfl) ?_
       refine DL.y rfl rfl (Y.loadB F.sc107 rfl hb rfl) ?_
       refine DL.y rfl rfl (Y.move) ?_
       refine DL.y rfl rfl (Y.index F.sl107 rfl rfl (rfl) (by omega)) ?_
       refine DL.y rfl rfl (Y.load F.sc5 rfl (own_dig hv (i := i) (by omega))) ?_
       refine DL.y rfl rfl (Y.convC (c := ((dg d i : Nat) : Int)) F.us5 Tryz.underlying93 rfl (wrap_u64 (by omega))) ?_
       refine DL.y rfl rfl (Y.addC (c := ((n % 2 ^ k * 10 + dg d i : Nat) : Int)) rfl rfl (by rw [show ((n % 2 ^ k * 10 : Nat) : Int) + ((dg d i : Nat) : Int) = ((n % 2 ^ k * 10 + dg d i : Nat) : Int) by omega]; exact wrap_u64 (by omega))) ?_
       refine DL.y rfl rfl (Y.assign) ?_
       refine DL.nil ?_
       show DC _ _ _ _ _ _
       refine DC.forget [(0, (.pointer (some ⟨c, 0, none⟩))), (1, .int .i64 (k : Int)), (4, .int .u64 ((n % 2 ^ k * 10 + dg d i : Nat) : Int)), (5, .int .i64 (i : Int)), (6, v1)] ⟨rfl, rfl, rfl, rfl, rfl⟩ (fun e0 => ?_)
       refine DC.region ?_
       refine DL.y rfl rfl (Y.move) ?_
       refine DL.y rfl rfl (Y.addI (c := ((i + 1 : Nat) : Int)) rfl rfl (by omega) (by omega) (by omega)) ?_
       refine DL.y rfl rfl (Y.assign) ?_
       refine DL.nil ?_
       obtain ⟨hib, hHs⟩ := hH.step D.lt (Or.inr (by omega))
       exact ⟨(n % 2 ^ k * 10 + dg d i, i + 1, o ++ [n / 2 ^ k], v1), ⟨G9, hHs, by simpa using ho⟩, by show max d.length i0 + k + 1 - (i + 1) < max d.length i0 + k + 1 - i; omega, rfl, rfl, rfl⟩
      ·refine DL.nil ?_
       show DC _ _ _ _ _ _
       refine DC.condF rfl ?_
       refine DC.skip ?_
       show DC _ _ _ _ _ _
       refine DC.forget [(0, (.pointer (some ⟨c, 0, none⟩))), (1, .int .i64 (k : Int)), (4, .int .u64 ((n % 2 ^ k * 10 : Nat) : Int)), (5, .int .i64 (i : Int)), (6, v1)] ⟨rfl, rfl, rfl, rfl, rfl⟩ (fun e0 => ?_)
       refine DC.region ?_
       refine DL.y rfl rfl (Y.move) ?_
       refine DL.y rfl rfl (Y.addI (c := ((i + 1 : Nat) : Int)) rfl rfl (by omega) (by omega) (by omega)) ?_
       refine DL.y rfl rfl (Y.assign) ?_
       refine DL.nil ?_
       obtain ⟨hib, hHs⟩ := hH.step D.lt (Or.inr (by omega))
       rw [dg_ge (by omega), Nat.add_zero] at hHs
       exact ⟨(n % 2 ^ k * 10, i + 1, o ++ [n / 2 ^ k], v1), ⟨G9, hHs, by simpa using ho⟩, by show max d.length i0 + k + 1 - (i + 1) < max d.length i0 + k + 1 - i; omega, rfl, rfl, rfl⟩
     ·refine DL.y rfl rfl (Y.pickF rfl) ?_
      refine DL.nil ?_
      show DC _ _ _ _ _ _
      refine DC.condF rfl ?_
      refine DC.exit ?_
      show DC _ _ _ _ _ _
      refine DC.forget [(0, (.pointer (some ⟨c, 0, none⟩))), (1, .int .i64 (k : Int)), (4, .int .u64 ((n : Nat) : Int)), (5, .int .i64 (i : Int)), (6, vo)] ⟨rfl, rfl, rfl, rfl, rfl⟩ (fun e0 => ?_)
      refine DC.seq ?_
      refine DC.region ?_
      refine DL.y rfl rfl (Y.move) ?_
      refine DL.y rfl rfl (Y.move) ?_
      refine DL.y rfl rfl (Y.nil rfl) ?_
      refine DL.y rfl rfl (Y.field F.fd242_0 rfl) ?_
      refine DL.store rfl F.co107 F.in107 rfl rfl (own_one ho) hb rfl ?_
      intro w18 f19 hs20 hb'
      replace FR := FR.put f19 (by intro i hi; simp only [List.mem_cons, List.mem_singleton, List.not_mem_nil, or_false] at hi; rcases hi with rfl; all_goals (first | (left; simp; done) | (right; omega)))
      replace hv := ownsRow_fr hv f19 (by intro i hi hv'; simp only [List.mem_cons, List.mem_singleton, List.not_mem_nil, or_false] at hi; subst hi; first | exact own_ne_c hv hb (mem_ownL.2 hv') | (have e : g = _ := Option.some.inj hv'; omega))
      replace hEc := Nat.le_trans hEc f19.size
      replace ho := ownsRow_fr ho f19 (by intro i hi hv'; first | (simp at hi; done) | (simp only [List.mem_singleton] at hi; subst hi; exact own_ne_c ho hb (mem_ownL.2 hv')))
      replace hb := hb'
      refine DL.nil ?_
      show DC _ _ _ _ _ _
      refine DC.region ?_
      refine DL.y rfl rfl (Y.move) ?_
      have hol2 : o.length ≤ 1000000 := by omega
      refine DL.call rfl rfl F.nm233 rfl (trim_any ⟨⟨vo, hb, own_base ho (by omega), rfl⟩, hB⟩ hol2) ?_
      rintro _ w21 f22 ⟨rfl, t, z, hcut, hD⟩
      replace FR := FR.put f22 (by intro i hi; simp only [List.mem_cons, List.mem_singleton, List.not_mem_nil, or_false] at hi; rcases hi with rfl; all_goals (first | (left; simp; done) | (right; omega)))
      replace hv := ownsRow_fr hv f22 (by intro i hi hv'; simp only [List.mem_cons, List.mem_singleton, List.not_mem_nil, or_false] at hi; subst hi; first | exact own_ne_c hv hb (mem_ownL.2 hv') | (have e : g = _ := Option.some.inj hv'; omega))
      replace hEc := Nat.le_trans hEc f22.size
      replace ho := ownsRow_fr ho f22 (by intro i hi hv'; first | (simp at hi; done) | (simp only [List.mem_singleton] at hi; subst hi; exact own_ne_c ho hb (mem_ownL.2 hv')))
      refine DL.nil ?_
      have hdn := hH.done (by omega) (by omega)
      have hcan := hcut.canon hH.dig hdn.2
      rw [if_neg hcan.ne] at hD
      refine FinQ.end0 (Ret.mk FR ⟨rfl, _, t, _, hD, ?_, fun Y e hY => ?_⟩)
      ·intro j hj
       rcases List.mem_cons.1 hj with rfl | hj
       ·exact Or.inl rfl
       ·exact Or.inr (by have := (own_ge ho j hj).1; omega)
      ·exact half_fin hY hdn.1 hH.len (by omega) hH.dig hdn.2 hcut

theorem shift_any {B c k : Nat} {X d : List Nat} {dp : Int} {w : World} (h : Dm w B c X d dp) (D : Canon d) (hdl : d.length ≤ 1000) (hdp : -1000000 ≤ dp ∧ dp ≤ 1000000) (hk1 : 1 ≤ k) (hk : k ≤ 59) (hBw : B ≤ w.heap.size) : Calls Tryz.prog 210 #[(.pointer (some ⟨c, 0, none⟩)), .int .i64 (-(k : Int))] w (Ret w [c] fun r w' => r = .tuple #[] ∧ ∃ X' t dp', Dm w' B c X' t dp' ∧ (∀ j ∈ X', j = c ∨ w.heap.size ≤ j) ∧ ∀ Y e, Dv d dp Y e → Dv t dp' (Y * 5 ^ k) (e + k)) := by
 refine calls_of Tryz.func210 rfl rfl rfl rfl ?_
 have FR := Fr.refl [c] w
 refine DC.seq ?_
 refine DC.block ?_
 refine DC.loop (σ := Unit) [(1, 1), (4, 9)] (fun _ => [(1, .int .i64 (-(k : Int)))]) (fun sg wl => Fr [] w wl ∧ (fun _ wl => True) sg wl) (fun _ => 0) (()) rfl ?_ ?_ ?_
 ·exact rfl
 ·exact ⟨Fr.refl _ _, trivial⟩
 ·rintro u j w1 ⟨f2, _⟩
  replace FR := FR.tr0 f2
  try (replace h := Dm.fr0 h f2)
  replace hBw := Nat.le_trans hBw f2.size
  have G3 := f2
  have HG3 := Fr.refl [] w1
  refine DC.seq ?_
  refine DC.seq ?_
  refine DC.region ?_
  refine DL.y rfl rfl (Y.move) ?_
  refine DL.if rfl rfl (Y.gt rfl rfl) (fun c5 => ?_) (fun c5 => ?_)
  ·exfalso; omega
  ·refine DL.nil ?_
   show DC _ _ _ _ _ _
   refine DC.condF rfl ?_
   refine DC.exit ?_
   show DC _ _ _ _ _ _
   refine DC.seq ?_
   refine DC.block ?_
   refine DC.loop (σ := Unit) [(1, 1), (10, 15)] (fun _ => [(1, .int .i64 (-(k : Int)))]) (fun sg wl => Fr [] w1 wl ∧ (fun _ wl => True) sg wl) (fun _ => 0) (()) rfl ?_ ?_ ?_
   ·exact rfl
   ·exact ⟨Fr.refl _ _, trivial⟩
   ·rintro u j w4 ⟨f5, _⟩
    replace FR := FR.tr0 f5
    try (replace h := Dm.fr0 h f5)
    replace hBw := Nat.le_trans hBw f5.size
    have G6 := f5
    have HG6 := Fr.refl [] w4
    refine DC.seq ?_
    refine DC.seq ?_
    refine DC.region ?_
    refine DL.y rfl rfl (Y.move) ?_
    refine DL.if rfl rfl (Y.lt rfl rfl) (fun c11 => ?_) (fun c11 => ?_)
    ·exfalso; omega
    ·refine DL.nil ?_
     show DC _ _ _ _ _ _
     refine DC.condF rfl ?_
     refine DC.exit ?_
     show DC _ _ _ _ _ _
     refine DC.seq ?_
     refine DC.region ?_
     refine DL.y rfl rfl (Y.move) ?_
     refine DL.if rfl rfl (Y.gt rfl rfl) (fun c17 => ?_) (fun c17 => ?_)
     ·exfalso; omega
     ·refine DL.nil ?_
      show DC _ _ _ _ _ _
      refine DC.condF rfl ?_
      refine DC.seq ?_
      refine DC.region ?_
      refine DL.y rfl rfl (Y.move) ?_
      refine DL.if rfl rfl (Y.lt rfl rfl) (fun c22 => ?_) (fun c22 => ?_)
      ·refine DL.nil ?_
       show DC _ _ _ _ _ _
       refine DC.condT rfl ?_
       refine DC.region ?_
       refine DL.y rfl rfl (Y.move) ?_
       refine DL.y rfl rfl (Y.move) ?_
       refine DL.y rfl rfl (Y.negI (c := (k : Int)) rfl (by omega) (by omega) (by omega)) ?_
       have hwc := FR.size
       refine DL.call rfl rfl F.nm235 rfl (half_any h D hdl hdp hk1 hk (by omega)) ?_
       rintro _ w7 f8 ⟨rfl, X', t, dp', hD, hXs, hDv⟩
       replace FR := FR.put f8 (by intro i hi; simp only [List.mem_cons, List.mem_singleton, List.not_mem_nil, or_false] at hi; rcases hi with rfl; all_goals (first | (left; simp; done) | (right; omega)))
       try (replace h := Dm.fr0 h f8)
       replace hBw := Nat.le_trans hBw f8.size
       refine DL.nil ?_
       exact FinQ.end0 (Ret.mk FR ⟨rfl, X', t, dp', hD, fun j hj => (hXs j hj).imp id (fun h => by omega), hDv⟩)
      ·exfalso; omega

end Go.Proofs.YtmbleojlnaofjaaGreatDoor

/- The walks of down and up. -/
namespace Go.Proofs.YtmbleojlnaofjaaGreatDoor
open Go Go.RowKit D Go.Deep
set_option linter.unusedVariables false
set_option linter.unusedSimpArgs false


theorem range_dv (d : List Nat) (n : Nat) (h : n ≤ d.length) : (List.range n).map (fun i => Value.int .u8 ((dg d i : Nat) : Int)) = dv (d.take n) := by
 apply List.ext_getElem
 ·simp [dv]; omega
 ·intro i h1 h2
  have hi : i < n := by simpa using h1
  simp [dv, dg_lt (show i < d.length by omega)]
theorem own_set {w : World} {B m cap g : Nat} {d : List Nat} {x i : Nat} (h : w.ownsRow B 5 1 (.slice (some ⟨g, 0, none⟩) m cap) m (dv d)) (hi : i < m) {w' : World} {cs : Array Value} (hb : w.heap[g]? = some (.cells cs 5 (0, 0))) (hb' : w'.heap[g]? = some (.cells (cs.setIfInBounds (0 + i * 1) (.int .u8 (x : Int))) 5 (0, 0))) : w'.ownsRow B 5 1 (.slice (some ⟨g, 0, none⟩) m cap) m (dv (d.set i x)) := by
 refine ⟨by rw [dv_len, List.length_set, ← dv_len]; exact h.1, ?_⟩
 rcases h.2 with ⟨h1, h2⟩ | ⟨g', c, cur, h1, hB, hg, hnc, hcm, hcs, ht⟩
 ·omega
 ·injection h1 with h1 h3 h4
  injection h1 with h1
  injection h1 with h1
  subst h1; subst h4
  rw [hb] at hg
  simp only [Option.some.injEq, Obj.cells.injEq, and_true] at hg
  subst hg
  refine Or.inr ⟨g, cap, _, rfl, hB, hb', hnc, hcm, by simpa using hcs, ?_⟩
  rw [show 0 + i * 1 = i by omega, Array.toList_setIfInBounds, List.take_set, ht, dv, dv, List.map_set]
theorem all2 {a b : Value} (h1 : a.oneCell' = true) (h2 : b.oneCell' = true) : #[a, b].all (·.oneCell') = true := by simp [h1, h2]
theorem own_blk {w : World} {B m cap g : Nat} {xs : List Value} (h : w.ownsRow B 5 1 (.slice (some ⟨g, 0, none⟩) m cap) m xs) : ∃ cs, w.heap[g]? = some (.cells cs 5 (0, 0)) ∧ m ≤ cs.size := by
 rcases h.2 with ⟨h1, h2⟩ | ⟨g', c, cur, h1, hB, hg, hnc, hcm, hcs, ht⟩
 ·cases h1
 ·injection h1 with h1 h3 h4
  injection h1 with h1
  injection h1 with h1
  subst h1; subst h4
  exact ⟨cur, hg, by omega⟩

theorem down_any {B c n : Nat} {X d : List Nat} {dp : Int} {w : World} (h : Dm w B c X d dp) (hn : n < d.length) (hdl : d.length ≤ 1000) (hBw : B ≤ w.heap.size) : Calls Tryz.prog 236 #[(.pointer (some ⟨c, 0, none⟩)), .int .i64 (n : Int)] w (Ret w [] fun r w' => ∃ c' X' t z, r = .pointer (some ⟨c', 0, none⟩) ∧ Dm w' w.heap.size c' X' t (if t = [] then 0 else dp) ∧ Cut (d.take n) t z) := by
 obtain ⟨v, hb, hv, rfl⟩ := h.out
 have hB := h.lo
 obtain ⟨a, cap, rfl, _, _⟩ := own_cells hv
 have hcp := own_cap hv
 obtain ⟨g, rfl⟩ := own_some hv (by omega)
 refine calls_of Tryz.func236 rfl rfl rfl rfl ?_
 have FR := Fr.refl [] w
 refine DC.seq ?_
 refine DC.region ?_
 refine DL.y rfl rfl (Y.assign) ?_
 refine DL.nil ?_
 show DC _ _ _ _ _ _
 refine DC.seq ?_
 refine DC.seq ?_
 refine DC.region ?_
 refine DL.y rfl rfl (Y.move) ?_
 refine DL.y rfl rfl (Y.move) ?_
 refine DL.y rfl rfl (Y.nil rfl) ?_
 refine DL.y rfl rfl (Y.field F.fd242_0 rfl) ?_
 refine DL.y rfl rfl (Y.loadB F.sc107 rfl hb rfl) ?_
 refine DL.y rfl rfl (Y.lenS Tryz.underlying107 rfl) ?_
 refine DL.if rfl rfl (Y.ge rfl rfl) (fun c12 => ?_) (fun c12 => ?_)
 ·exfalso; omega
 ·refine DL.nil ?_
  show DC _ _ _ _ _ _
  refine DC.condF rfl ?_
  refine DC.skip ?_
  show DC _ _ _ _ _ _
  refine DC.seq ?_
  refine DC.drawnF F.mixed ?_
  intro w1 f2 hsw1
  replace FR := FR.tr0 f2
  replace hv := ownsRow_fr hv f2 (by simp)
  replace hb := f2.blk0 hb
  have FS := Fr.refl [] w1
  obtain ⟨E0, hE0⟩ : ∃ E0, E0 = w1.heap.size := ⟨_, rfl⟩
  have hgE : g < E0 := by have := (own_ge hv g (by simp [ownL, Value.ownBlock])).2; omega
  have hcE : c < E0 := by have := lt_of_blk hb; omega
  have hwE : w.heap.size ≤ E0 := by have := FR.size; omega
  refine DK.take 1 rfl (by kernel_rfl) (by kernel_rfl) (by kernel_rfl) rfl rfl (fun wq sq => Y.move) ?_
  refine DK.take 2 rfl (by kernel_rfl) (by kernel_rfl) (by kernel_rfl) rfl rfl (fun wq sq => Y.nil rfl) ?_
  refine DK.take 3 rfl (by kernel_rfl) (by kernel_rfl) (by kernel_rfl) rfl rfl (fun wq sq => Y.field F.fd242_0 rfl) ?_
  refine DK.take 4 rfl (by kernel_rfl) (by kernel_rfl) (by kernel_rfl) rfl rfl (fun wq sq => Y.loadB F.sc107 rfl (sq.blk0 hb) rfl) ?_
  refine DK.take 5 rfl (by kernel_rfl) (by kernel_rfl) (by kernel_rfl) rfl rfl (fun wq sq => Y.move) ?_
  refine DK.take 6 rfl (by kernel_rfl) (by kernel_rfl) (by kernel_rfl) rfl rfl (fun wq sq => Y.bmax (a := .int .i64 (n : Int)) (b := .int .i64 0) (v := .int .i64 (n : Int)) rfl rfl (by rw [max_int, show max (n : Int) 0 = n by omega])) ?_
  refine DK.take 7 rfl (by kernel_rfl) (by kernel_rfl) (by kernel_rfl) rfl rfl (fun wq sq => Y.sliceH (h := n) F.sl107 rfl rfl rfl (by omega)) ?_
  refine DK.take 9 rfl (by kernel_rfl) (by kernel_rfl) (by kernel_rfl) rfl rfl (fun wq sq => Y.move) ?_
  refine DK.take 10 rfl (by kernel_rfl) (by kernel_rfl) (by kernel_rfl) rfl rfl (fun wq sq => Y.nil rfl) ?_
  refine DK.take 11 rfl (by kernel_rfl) (by kernel_rfl) (by kernel_rfl) rfl rfl (fun wq sq => Y.field F.fd242_1 rfl) ?_
  refine DK.take 12 rfl (by kernel_rfl) (by kernel_rfl) (by kernel_rfl) rfl rfl (fun wq sq => Y.loadB F.sc3 rfl (sq.blk0 hb) rfl) ?_
  refine DK.pick [0, 14] (by kernel_rfl) (by simp) (fun ip hip => ?_)
  simp only [List.mem_cons, List.not_mem_nil, or_false] at hip
  rcases hip with rfl | rfl
  ·refine ⟨_, rfl, ?_⟩
   refine DL.buildSl0 rfl rfl Tryz.underlying107 F.in5 ?_
   intro b14 w3 f4 lo14 hi14 hb14
   have hloE : E0 ≤ b14 := by have := FS.size; omega
   have hown0 : World.ownsRow w3 E0 5 1 (.slice (some ⟨b14, 0, none⟩) 0 0) 0 [] := own_empty hb14 hloE
   have lo14FS := Nat.le_trans FS.size lo14
   replace lo14 := Nat.le_trans FR.size lo14
   replace FR := FR.tr0 f4
   replace FS := FS.tr0 f4
   replace hv := ownsRow_fr hv f4 (by simp)
   replace hb := f4.blk0 hb
   refine DL.nil ⟨FS, ?_⟩
   refine DK.pick [8, 14] (by kernel_rfl) (by simp) (fun ip hip => ?_)
   simp only [List.mem_cons, List.not_mem_nil, or_false] at hip
   rcases hip with rfl | rfl
   ·refine ⟨_, rfl, ?_⟩
    refine DL.appendRow (v := .slice (some ⟨b14, 0, none⟩) 0 0) (css := []) (cl := fun i => #[.int .u8 ((dg d i : Nat) : Int)]) rfl rfl F.el107 rfl rfl hown0 (fun i hi => ⟨g, 0, rfl, (fun j hj => by have hj0 : j = 0 := by { simp at hj; omega }; subst hj0; rw [Nat.add_zero, own_dig hv (by omega)]; rfl), rfl, by simp [Value.oneCell']⟩) (by omega) (by omega) (by have := FS.size; omega) ?_
    intro v1 w5 f6 ho hat1
    have hlo : ∀ i ∈ ownL (.slice (some ⟨b14, 0, none⟩) 0 0), E0 ≤ i := fun i hi => (own_ge hown0 i hi).1
    replace FR := FR.put f6 (fun i hi => Or.inr (by have := hlo i hi; omega))
    replace FS := FS.put f6 (fun i hi => Or.inr (by have := hlo i hi; omega))
    replace hv := ownsRow_fr hv f6 (fun i hi hv' => by have := hlo i hi; have e : g = i := by { simpa [Value.ownBlock] using hv' }; omega)
    replace hb := f6.blk hb (fun hm => own_ne_c hown0 hb hm)
    rw [List.nil_append, flatC_range, range_dv d _ (by omega), Nat.zero_add] at ho
    obtain ⟨a1, cap1, rfl, _, _⟩ := own_cells ho
    refine DL.nil ⟨FS, ?_⟩
    refine DK.take 13 rfl (by kernel_rfl) (by kernel_rfl) (by kernel_rfl) rfl rfl (fun wq sq => Y.build (cs := #[.slice a1 n cap1, .int .i64 dp]) (by kernel_rfl)) ?_
    refine DK.pick [14] (by kernel_rfl) (by simp) (fun ip hip => ?_)
    obtain rfl := List.mem_singleton.1 hip
    refine ⟨_, rfl, ?_⟩
    refine DL.alloc rfl rfl F.z242 rfl ?_
    intro b5 w7 f8 lo5 hi5 hb5
    have lo5FS := Nat.le_trans FS.size lo5
    replace lo5 := Nat.le_trans FR.size lo5
    replace FR := FR.tr0 f8
    replace FS := FS.tr0 f8
    replace hv := ownsRow_fr hv f8 (by simp)
    replace hb := f8.blk0 hb
    replace ho := ownsRow_fr ho f8 (by intro i hi hv'; first | (simp at hi; done) | (simp only [List.mem_singleton] at hi; subst hi; exact own_ne_c ho hb5 (mem_ownL.2 hv')))
    refine DL.nil ⟨FS, ?_⟩
    refine DK.pick [15] (by kernel_rfl) (by simp) (fun ip hip => ?_)
    obtain rfl := List.mem_singleton.1 hip
    refine ⟨_, rfl, ?_⟩
    refine DL.storeA (cs := #[.slice a1 (n) cap1, .int .i64 dp]) rfl F.ag242 rfl rfl rfl (all2 (own_one ho) rfl) hb5 rfl ?_
    intro w9 f10 hs11 hb5'
    replace FR := FR.put f10 (by intro i hi; simp only [List.mem_cons, List.mem_singleton, List.not_mem_nil, or_false] at hi; rcases hi with rfl; all_goals (first | (left; simp; done) | (right; omega)))
    replace FS := FS.put f10 (by intro i hi; simp only [List.mem_cons, List.mem_singleton, List.not_mem_nil, or_false] at hi; rcases hi with rfl; all_goals (first | (left; simp; done) | (right; omega)))
    replace hv := ownsRow_fr hv f10 (by intro i hi hv'; simp only [List.mem_cons, List.mem_singleton, List.not_mem_nil, or_false] at hi; subst hi; first | exact own_ne_c hv hb (mem_ownL.2 hv') | (have e : g = _ := Option.some.inj hv'; omega))
    replace hb := f10.blk hb (by simp only [List.mem_cons, List.not_mem_nil, or_false, not_or]; omega)
    replace ho := ownsRow_fr ho f10 (by intro i hi hv'; first | (simp at hi; done) | (simp only [List.mem_singleton] at hi; subst hi; exact own_ne_c ho hb5 (mem_ownL.2 hv')))
    replace hi5 := Nat.lt_of_lt_of_le hi5 f10.size
    replace hb5 := hb5'
    refine DL.nil ⟨FS, ?_⟩
    refine DK.done (by kernel_rfl) ?_
    show DC _ _ _ _ _ _
    refine DC.seq ?_
    refine DC.region ?_
    have htl : (d.take n).length = n := by rw [List.length_take]; omega
    have hwc := FR.size
    refine DL.call rfl rfl F.nm233 rfl (trim_any (B := w.heap.size) (d := d.take n) ⟨⟨_, hb5, by rw [htl]; exact own_base ho hwE, rfl⟩, by omega⟩ (by omega)) ?_
    rintro _ w12 f13 ⟨rfl, t, z, hcut, hD⟩
    replace FR := FR.put f13 (by intro i hi; simp only [List.mem_cons, List.mem_singleton, List.not_mem_nil, or_false] at hi; rcases hi with rfl; all_goals (first | (left; simp; done) | (right; omega)))
    replace hv := ownsRow_fr hv f13 (by intro i hi hv'; simp only [List.mem_cons, List.mem_singleton, List.not_mem_nil, or_false] at hi; subst hi; first | exact own_ne_c hv hb (mem_ownL.2 hv') | (have e : g = _ := Option.some.inj hv'; omega))
    replace hb := f13.blk hb (by simp only [List.mem_cons, List.not_mem_nil, or_false, not_or]; omega)
    replace ho := ownsRow_fr ho f13 (by intro i hi hv'; first | (simp at hi; done) | (simp only [List.mem_singleton] at hi; subst hi; exact own_ne_c ho hb5 (mem_ownL.2 hv')))
    replace hi5 := Nat.lt_of_lt_of_le hi5 f13.size
    refine DL.y rfl rfl (Y.assign) ?_
    refine DL.nil ?_
    show DC _ _ _ _ _ _
    refine DC.ret ?_
    exact FinQ.ret1 rfl (Ret.mk FR ⟨b5, _, t, z, rfl, hD, hcut⟩)
   ·refine ⟨_, rfl, ?_⟩
    refine DL.alloc rfl rfl F.z242 rfl ?_
    intro b5 w14 f15 lo5 hi5 hb5
    have lo5FS := Nat.le_trans FS.size lo5
    replace lo5 := Nat.le_trans FR.size lo5
    replace FR := FR.tr0 f15
    replace FS := FS.tr0 f15
    replace hv := ownsRow_fr hv f15 (by simp)
    replace hb := f15.blk0 hb
    replace hown0 := ownsRow_fr hown0 f15 (by simp)
    refine DL.nil ⟨FS, ?_⟩
    refine DK.pick [8] (by kernel_rfl) (by simp) (fun ip hip => ?_)
    obtain rfl := List.mem_singleton.1 hip
    refine ⟨_, rfl, ?_⟩
    refine DL.appendRow (v := .slice (some ⟨b14, 0, none⟩) 0 0) (css := []) (cl := fun i => #[.int .u8 ((dg d i : Nat) : Int)]) rfl rfl F.el107 rfl rfl hown0 (fun i hi => ⟨g, 0, rfl, (fun j hj => by have hj0 : j = 0 := by { simp at hj; omega }; subst hj0; rw [Nat.add_zero, own_dig hv (by omega)]; rfl), rfl, by simp [Value.oneCell']⟩) (by omega) (by omega) (by have := FS.size; omega) ?_
    intro v1 w16 f17 ho hat1
    have hlo : ∀ i ∈ ownL (.slice (some ⟨b14, 0, none⟩) 0 0), E0 ≤ i := fun i hi => (own_ge hown0 i hi).1
    replace FR := FR.put f17 (fun i hi => Or.inr (by have := hlo i hi; omega))
    replace FS := FS.put f17 (fun i hi => Or.inr (by have := hlo i hi; omega))
    replace hv := ownsRow_fr hv f17 (fun i hi hv' => by have := hlo i hi; have e : g = i := by { simpa [Value.ownBlock] using hv' }; omega)
    replace hb := f17.blk hb (fun hm => own_ne_c hown0 hb hm)
    replace hb5 := f17.blk hb5 (fun hm => own_ne_c hown0 hb5 hm)
    replace hi5 := Nat.lt_of_lt_of_le hi5 f17.size
    rw [List.nil_append, flatC_range, range_dv d _ (by omega), Nat.zero_add] at ho
    obtain ⟨a1, cap1, rfl, _, _⟩ := own_cells ho
    refine DL.nil ⟨FS, ?_⟩
    refine DK.take 13 rfl (by kernel_rfl) (by kernel_rfl) (by kernel_rfl) rfl rfl (fun wq sq => Y.build (cs := #[.slice a1 n cap1, .int .i64 dp]) (by kernel_rfl)) ?_
    refine DK.pick [15] (by kernel_rfl) (by simp) (fun ip hip => ?_)
    obtain rfl := List.mem_singleton.1 hip
    refine ⟨_, rfl, ?_⟩
    refine DL.storeA (cs := #[.slice a1 (n) cap1, .int .i64 dp]) rfl F.ag242 rfl rfl rfl (all2 (own_one ho) rfl) hb5 rfl ?_
    intro w18 f19 hs20 hb5'
    replace FR := FR.put f19 (by intro i hi; simp only [List.mem_cons, List.mem_singleton, List.not_mem_nil, or_false] at hi; rcases hi with rfl; all_goals (first | (left; simp; done) | (right; omega)))
    replace FS := FS.put f19 (by intro i hi; simp only [List.mem_cons, List.mem_singleton, List.not_mem_nil, or_false] at hi; rcases hi with rfl; all_goals (first | (left; simp; done) | (right; omega)))
    replace hv := ownsRow_fr hv f19 (by intro i hi hv'; simp only [List.mem_cons, List.mem_singleton, List.not_mem_nil, or_false] at hi; subst hi; first | exact own_ne_c hv hb (mem_ownL.2 hv') | (have e : g = _ := Option.some.inj hv'; omega))
    replace hb := f19.blk hb (by simp only [List.mem_cons, List.not_mem_nil, or_false, not_or]; omega)
    replace hi5 := Nat.lt_of_lt_of_le hi5 f19.size
    replace ho := ownsRow_fr ho f19 (by intro i hi hv'; first | (simp at hi; done) | (simp only [List.mem_singleton] at hi; subst hi; exact own_ne_c ho hb5 (mem_ownL.2 hv')))
    replace hb5 := hb5'
    refine DL.nil ⟨FS, ?_⟩
    refine DK.done (by kernel_rfl) ?_
    show DC _ _ _ _ _ _
    refine DC.seq ?_
    refine DC.region ?_
    have htl : (d.take n).length = n := by rw [List.length_take]; omega
    have hwc := FR.size
    refine DL.call rfl rfl F.nm233 rfl (trim_any (B := w.heap.size) (d := d.take n) ⟨⟨_, hb5, by rw [htl]; exact own_base ho hwE, rfl⟩, by omega⟩ (by omega)) ?_
    rintro _ w21 f22 ⟨rfl, t, z, hcut, hD⟩
    replace FR := FR.put f22 (by intro i hi; simp only [List.mem_cons, List.mem_singleton, List.not_mem_nil, or_false] at hi; rcases hi with rfl; all_goals (first | (left; simp; done) | (right; omega)))
    replace hv := ownsRow_fr hv f22 (by intro i hi hv'; simp only [List.mem_cons, List.mem_singleton, List.not_mem_nil, or_false] at hi; subst hi; first | exact own_ne_c hv hb (mem_ownL.2 hv') | (have e : g = _ := Option.some.inj hv'; omega))
    replace hb := f22.blk hb (by simp only [List.mem_cons, List.not_mem_nil, or_false, not_or]; omega)
    replace hi5 := Nat.lt_of_lt_of_le hi5 f22.size
    replace ho := ownsRow_fr ho f22 (by intro i hi hv'; first | (simp at hi; done) | (simp only [List.mem_singleton] at hi; subst hi; exact own_ne_c ho hb5 (mem_ownL.2 hv')))
    refine DL.y rfl rfl (Y.assign) ?_
    refine DL.nil ?_
    show DC _ _ _ _ _ _
    refine DC.ret ?_
    exact FinQ.ret1 rfl (Ret.mk FR ⟨b5, _, t, z, rfl, hD, hcut⟩)
  ·refine ⟨_, rfl, ?_⟩
   refine DL.alloc rfl rfl F.z242 rfl ?_
   intro b5 w23 f24 lo5 hi5 hb5
   have lo5FS := Nat.le_trans FS.size lo5
   replace lo5 := Nat.le_trans FR.size lo5
   replace FR := FR.tr0 f24
   replace FS := FS.tr0 f24
   replace hv := ownsRow_fr hv f24 (by simp)
   replace hb := f24.blk0 hb
   refine DL.nil ⟨FS, ?_⟩
   refine DK.pick [0] (by kernel_rfl) (by simp) (fun ip hip => ?_)
   obtain rfl := List.mem_singleton.1 hip
   refine ⟨_, rfl, ?_⟩
   refine DL.buildSl0 rfl rfl Tryz.underlying107 F.in5 ?_
   intro b14 w25 f26 lo14 hi14 hb14
   have hloE : E0 ≤ b14 := by have := FS.size; omega
   have hown0 : World.ownsRow w25 E0 5 1 (.slice (some ⟨b14, 0, none⟩) 0 0) 0 [] := own_empty hb14 hloE
   have lt_b5_b14 : b5 < b14 := Nat.lt_of_lt_of_le hi5 lo14
   have lo14FS := Nat.le_trans FS.size lo14
   replace lo14 := Nat.le_trans FR.size lo14
   replace FR := FR.tr0 f26
   replace FS := FS.tr0 f26
   replace hv := ownsRow_fr hv f26 (by simp)
   replace hb := f26.blk0 hb
   replace hb5 := f26.blk0 hb5
   replace hi5 := Nat.lt_of_lt_of_le hi5 f26.size
   refine DL.nil ⟨FS, ?_⟩
   refine DK.pick [8] (by kernel_rfl) (by simp) (fun ip hip => ?_)
   obtain rfl := List.mem_singleton.1 hip
   refine ⟨_, rfl, ?_⟩
   refine DL.appendRow (v := .slice (some ⟨b14, 0, none⟩) 0 0) (css := []) (cl := fun i => #[.int .u8 ((dg d i : Nat) : Int)]) rfl rfl F.el107 rfl rfl hown0 (fun i hi => ⟨g, 0, rfl, (fun j hj => by have hj0 : j = 0 := by { simp at hj; omega }; subst hj0; rw [Nat.add_zero, own_dig hv (by omega)]; rfl), rfl, by simp [Value.oneCell']⟩) (by omega) (by omega) (by have := FS.size; omega) ?_
   intro v1 w27 f28 ho hat1
   have hlo : ∀ i ∈ ownL (.slice (some ⟨b14, 0, none⟩) 0 0), E0 ≤ i := fun i hi => (own_ge hown0 i hi).1
   replace FR := FR.put f28 (fun i hi => Or.inr (by have := hlo i hi; omega))
   replace FS := FS.put f28 (fun i hi => Or.inr (by have := hlo i hi; omega))
   replace hv := ownsRow_fr hv f28 (fun i hi hv' => by have := hlo i hi; have e : g = i := by { simpa [Value.ownBlock] using hv' }; omega)
   replace hb := f28.blk hb (fun hm => own_ne_c hown0 hb hm)
   replace hb5 := f28.blk hb5 (fun hm => own_ne_c hown0 hb5 hm)
   replace hi5 := Nat.lt_of_lt_of_le hi5 f28.size
   rw [List.nil_append, flatC_range, range_dv d _ (by omega), Nat.zero_add] at ho
   obtain ⟨a1, cap1, rfl, _, _⟩ := own_cells ho
   refine DL.nil ⟨FS, ?_⟩
   refine DK.take 13 rfl (by kernel_rfl) (by kernel_rfl) (by kernel_rfl) rfl rfl (fun wq sq => Y.build (cs := #[.slice a1 n cap1, .int .i64 dp]) (by kernel_rfl)) ?_
   refine DK.pick [15] (by kernel_rfl) (by simp) (fun ip hip => ?_)
   obtain rfl := List.mem_singleton.1 hip
   refine ⟨_, rfl, ?_⟩
   refine DL.storeA (cs := #[.slice a1 (n) cap1, .int .i64 dp]) rfl F.ag242 rfl rfl rfl (all2 (own_one ho) rfl) hb5 rfl ?_
   intro w29 f30 hs31 hb5'
   replace FR := FR.put f30 (by intro i hi; simp only [List.mem_cons, List.mem_singleton, List.not_mem_nil, or_false] at hi; rcases hi with rfl; all_goals (first | (left; simp; done) | (right; omega)))
   replace FS := FS.put f30 (by intro i hi; simp only [List.mem_cons, List.mem_singleton, List.not_mem_nil, or_false] at hi; rcases hi with rfl; all_goals (first | (left; simp; done) | (right; omega)))
   replace hv := ownsRow_fr hv f30 (by intro i hi hv'; simp only [List.mem_cons, List.mem_singleton, List.not_mem_nil, or_false] at hi; subst hi; first | exact own_ne_c hv hb (mem_ownL.2 hv') | (have e : g = _ := Option.some.inj hv'; omega))
   replace hb := f30.blk hb (by simp only [List.mem_cons, List.not_mem_nil, or_false, not_or]; omega)
   replace hi5 := Nat.lt_of_lt_of_le hi5 f30.size
   replace ho := ownsRow_fr ho f30 (by intro i hi hv'; first | (simp at hi; done) | (simp only [List.mem_singleton] at hi; subst hi; exact own_ne_c ho hb5 (mem_ownL.2 hv')))
   replace hb5 := hb5'
   refine DL.nil ⟨FS, ?_⟩
   refine DK.done (by kernel_rfl) ?_
   show DC _ _ _ _ _ _
   refine DC.seq ?_
   refine DC.region ?_
   have htl : (d.take n).length = n := by rw [List.length_take]; omega
   have hwc := FR.size
   refine DL.call rfl rfl F.nm233 rfl (trim_any (B := w.heap.size) (d := d.take n) ⟨⟨_, hb5, by rw [htl]; exact own_base ho hwE, rfl⟩, by omega⟩ (by omega)) ?_
   rintro _ w32 f33 ⟨rfl, t, z, hcut, hD⟩
   replace FR := FR.put f33 (by intro i hi; simp only [List.mem_cons, List.mem_singleton, List.not_mem_nil, or_false] at hi; rcases hi with rfl; all_goals (first | (left; simp; done) | (right; omega)))
   replace hv := ownsRow_fr hv f33 (by intro i hi hv'; simp only [List.mem_cons, List.mem_singleton, List.not_mem_nil, or_false] at hi; subst hi; first | exact own_ne_c hv hb (mem_ownL.2 hv') | (have e : g = _ := Option.some.inj hv'; omega))
   replace hb := f33.blk hb (by simp only [List.mem_cons, List.not_mem_nil, or_false, not_or]; omega)
   replace hi5 := Nat.lt_of_lt_of_le hi5 f33.size
   replace ho := ownsRow_fr ho f33 (by intro i hi hv'; first | (simp at hi; done) | (simp only [List.mem_singleton] at hi; subst hi; exact own_ne_c ho hb5 (mem_ownL.2 hv')))
   refine DL.y rfl rfl (Y.assign) ?_
   refine DL.nil ?_
   show DC _ _ _ _ _ _
   refine DC.ret ?_
   exact FinQ.ret1 rfl (Ret.mk FR ⟨b5, _, t, z, rfl, hD, hcut⟩)


theorem set_last {d : List Nat} {i x : Nat} (h0 : 0 < i) (hi : i ≤ d.length) : (d.take i).set (i - 1) x = d.take (i - 1) ++ [x] := by
 obtain ⟨m, rfl⟩ : ∃ m, i = m + 1 := ⟨i - 1, by omega⟩
 have hl : (d.take m).length = m := by rw [List.length_take]; omega
 rw [Nat.add_sub_cancel, take_dg (by omega), List.set_append_right _ _ (by omega), hl, Nat.sub_self]; rfl


theorem own_lit1 {w : World} {E0 b x : Nat} (hb : w.heap[b]? = some (.cells #[.int .u8 (x : Int)] 5 (0, 0))) (hE : E0 ≤ b) : w.ownsRow E0 5 1 (.slice (some ⟨b, 0, none⟩) 1 1) 1 (dv [x]) :=
 ⟨by simp [dv], .inr ⟨b, 1, #[.int .u8 (x : Int)], rfl, hE, hb, Nat.le_refl _, by decide, by simp, by simp [dv]⟩⟩

theorem up_any {B c n : Nat} {X d : List Nat} {dp : Int} {w : World} (h : Dm w B c X d dp) (D : Canon d) (hn : n < d.length) (hdl : d.length ≤ 1000) (hdp : -1000000 ≤ dp ∧ dp ≤ 1000000) (hBw : B ≤ w.heap.size) : Calls Tryz.prog 237 #[(.pointer (some ⟨c, 0, none⟩)), .int .i64 (n : Int)] w (Ret w [] fun r w' => ∃ c' X' u pu, r = .pointer (some ⟨c', 0, none⟩) ∧ Dm w' w.heap.size c' X' u pu ∧ ((∃ i, i < n ∧ dg d i < 9 ∧ (∀ q, i < q → q < n → dg d q = 9) ∧ u = d.take i ++ [dg d i + 1] ∧ pu = dp) ∨ ((∀ q, q < n → dg d q = 9) ∧ u = [1] ∧ pu = dp + 1))) := by
 obtain ⟨v, hb, hv, rfl⟩ := h.out
 have hB := h.lo
 obtain ⟨a, cap, rfl, _, _⟩ := own_cells hv
 have hcp := own_cap hv
 obtain ⟨g, rfl⟩ := own_some hv (by omega)
 refine calls_of Tryz.func237 rfl rfl rfl rfl ?_
 have FR := Fr.refl [] w
 refine DC.seq ?_
 refine DC.region ?_
 refine DL.y rfl rfl (Y.assign) ?_
 refine DL.nil ?_
 show DC _ _ _ _ _ _
 refine DC.seq ?_
 refine DC.seq ?_
 refine DC.region ?_
 refine DL.y rfl rfl (Y.move) ?_
 refine DL.y rfl rfl (Y.move) ?_
 refine DL.y rfl rfl (Y.nil rfl) ?_
 refine DL.y rfl rfl (Y.field F.fd242_0 rfl) ?_
 refine DL.y rfl rfl (Y.loadB F.sc107 rfl hb rfl) ?_
 refine DL.y rfl rfl (Y.lenS Tryz.underlying107 rfl) ?_
 refine DL.if rfl rfl (Y.ge rfl rfl) (fun c13 => ?_) (fun c13 => ?_)
 ·exfalso; omega
 ·refine DL.nil ?_
  show DC _ _ _ _ _ _
  refine DC.condF rfl ?_
  refine DC.skip ?_
  show DC _ _ _ _ _ _
  refine DC.seq ?_
  refine DC.seq ?_
  refine DC.region ?_
  refine DL.y rfl rfl (Y.move) ?_
  refine DL.y rfl rfl (Y.subI (c := (n : Int) - 1) rfl rfl (by omega) (by omega) (by omega)) ?_
  refine DL.y rfl rfl (Y.assign) ?_
  refine DL.nil ?_
  show DC _ _ _ _ _ _
  refine DC.block ?_
  refine DC.loopE (σ := Nat) [(4, 6), (17, 49)] [(0, (.pointer (some ⟨c, 0, none⟩))), (1, .int .i64 (n : Int))] (fun i => [(5, .int .i64 ((i : Int) - 1))]) (fun sg wl => Fr [] w wl ∧ (fun i wl => i ≤ n ∧ ∀ q, i ≤ q → q < n → dg d q = 9) sg wl) (fun i => i) (n) rfl ?_ ?_ ?_ ?_
  ·exact ⟨rfl, rfl⟩
  ·exact rfl
  ·exact ⟨Fr.refl _ _, Nat.le_refl _, fun q h1 h2 => by omega⟩
  ·rintro e0 i j w1 ⟨f2, hin, h9⟩
   replace FR := FR.tr0 f2
   replace hv := ownsRow_fr hv f2 (by simp)
   replace hb := f2.blk0 hb
   have G3 := f2
   have HG3 := Fr.refl [] w1
   refine DC.seq ?_
   refine DC.seq ?_
   refine DC.region ?_
   refine DL.y rfl rfl (Y.move) ?_
   refine DL.if rfl rfl (Y.ge rfl rfl) (fun c18 => ?_) (fun c18 => ?_)
   ·have hi0 : 0 < i := by omega
    refine DL.nil ?_
    show DC _ _ _ _ _ _
    refine DC.condT rfl ?_
    refine DC.skip ?_
    show DC _ _ _ _ _ _
    refine DC.seq ?_
    refine DC.block ?_
    refine DC.seq ?_
    refine DC.region ?_
    refine DL.y rfl rfl (Y.move) ?_
    refine DL.y rfl rfl (Y.nil rfl) ?_
    refine DL.y rfl rfl (Y.field F.fd242_0 rfl) ?_
    refine DL.y rfl rfl (Y.loadB F.sc107 rfl hb rfl) ?_
    refine DL.y rfl rfl (Y.move) ?_
    refine DL.y rfl rfl (Y.index (i := i - 1) F.sl107 rfl rfl (by omega) (by omega)) ?_
    refine DL.y rfl rfl (v := .int .u8 ((dg d (i - 1) : Nat) : Int)) (Y.load F.sc5 rfl (own_dig hv (by omega))) ?_
    refine DL.if rfl rfl (Y.lt rfl rfl) (fun c28 => ?_) (fun c28 => ?_)
    ·refine DL.nil ?_
     show DC _ _ _ _ _ _
     refine DC.condT rfl ?_
     refine DC.seq ?_
     refine DC.drawnF F.mixed ?_
     intro w4 f5 hsw4
     replace FR := FR.tr0 f5
     replace G3 := G3.tr0 f5
     replace HG3 := HG3.tr0 f5
     replace hv := ownsRow_fr hv f5 (by simp)
     replace hb := f5.blk0 hb
     have FS := Fr.refl [] w4
     obtain ⟨E0, hE0⟩ : ∃ E0, E0 = w4.heap.size := ⟨_, rfl⟩
     have hgE : g < E0 := by have := (own_ge hv g (by simp [ownL, Value.ownBlock])).2; omega
     have hcE : c < E0 := by have := lt_of_blk hb; omega
     have hwE : w.heap.size ≤ E0 := by have := FR.size; omega
     refine DK.take 1 rfl (by kernel_rfl) (by kernel_rfl) (by kernel_rfl) rfl rfl (fun wq sq => Y.move) ?_
     refine DK.take 2 rfl (by kernel_rfl) (by kernel_rfl) (by kernel_rfl) rfl rfl (fun wq sq => Y.nil rfl) ?_
     refine DK.take 3 rfl (by kernel_rfl) (by kernel_rfl) (by kernel_rfl) rfl rfl (fun wq sq => Y.field F.fd242_0 rfl) ?_
     refine DK.take 4 rfl (by kernel_rfl) (by kernel_rfl) (by kernel_rfl) rfl rfl (fun wq sq => Y.loadB F.sc107 rfl (sq.blk0 hb) rfl) ?_
     refine DK.take 5 rfl (by kernel_rfl) (by kernel_rfl) (by kernel_rfl) rfl rfl (fun wq sq => Y.move) ?_
     refine DK.take 6 rfl (by kernel_rfl) (by kernel_rfl) (by kernel_rfl) rfl rfl (fun wq sq => Y.addI (c := (i : Int)) rfl rfl (by omega) (by omega) (by omega)) ?_
     refine DK.take 7 rfl (by kernel_rfl) (by kernel_rfl) (by kernel_rfl) rfl rfl (fun wq sq => Y.sliceH (h := i) F.sl107 rfl rfl rfl (by omega)) ?_
     refine DK.take 9 rfl (by kernel_rfl) (by kernel_rfl) (by kernel_rfl) rfl rfl (fun wq sq => Y.move) ?_
     refine DK.take 10 rfl (by kernel_rfl) (by kernel_rfl) (by kernel_rfl) rfl rfl (fun wq sq => Y.nil rfl) ?_
     refine DK.take 11 rfl (by kernel_rfl) (by kernel_rfl) (by kernel_rfl) rfl rfl (fun wq sq => Y.field F.fd242_1 rfl) ?_
     refine DK.take 12 rfl (by kernel_rfl) (by kernel_rfl) (by kernel_rfl) rfl rfl (fun wq sq => Y.loadB F.sc3 rfl (sq.blk0 hb) rfl) ?_
     refine DK.pick [0, 14] (by kernel_rfl) (by simp) (fun ip hip => ?_)
     simp only [List.mem_cons, List.not_mem_nil, or_false] at hip
     rcases hip with rfl | rfl
     ·refine ⟨_, rfl, ?_⟩
      refine DL.buildSl0 rfl rfl Tryz.underlying107 F.in5 ?_
      intro b29 w6 f7 lo29 hi29 hb29
      have hloE : E0 ≤ b29 := by have := FS.size; omega
      have hown0 : World.ownsRow w6 E0 5 1 (.slice (some ⟨b29, 0, none⟩) 0 0) 0 [] := own_empty hb29 hloE
      have lo29G3 := Nat.le_trans G3.size lo29
      have lo29HG3 := Nat.le_trans HG3.size lo29
      have lo29FS := Nat.le_trans FS.size lo29
      replace lo29 := Nat.le_trans FR.size lo29
      replace FR := FR.tr0 f7
      replace G3 := G3.tr0 f7
      replace HG3 := HG3.tr0 f7
      replace FS := FS.tr0 f7
      replace hv := ownsRow_fr hv f7 (by simp)
      replace hb := f7.blk0 hb
      refine DL.nil ⟨FS, ?_⟩
      refine DK.pick [8, 14] (by kernel_rfl) (by simp) (fun ip hip => ?_)
      simp only [List.mem_cons, List.not_mem_nil, or_false] at hip
      rcases hip with rfl | rfl
      ·refine ⟨_, rfl, ?_⟩
       refine DL.appendRow (v := .slice (some ⟨b29, 0, none⟩) 0 0) (css := []) (cl := fun i => #[.int .u8 ((dg d i : Nat) : Int)]) rfl rfl F.el107 rfl rfl hown0 (fun i hi => ⟨g, 0, rfl, (fun j hj => by have hj0 : j = 0 := by { simp at hj; omega }; subst hj0; rw [Nat.add_zero, own_dig hv (by omega)]; rfl), rfl, by simp [Value.oneCell']⟩) (by omega) (by omega) (by have := FS.size; omega) ?_
       intro v1 w8 f9 ho hat1
       have hlo : ∀ i ∈ ownL (.slice (some ⟨b29, 0, none⟩) 0 0), E0 ≤ i := fun i hi => (own_ge hown0 i hi).1
       replace FR := FR.put f9 (fun i hi => Or.inr (by have := hlo i hi; omega))
       replace G3 := G3.put f9 (fun i hi => Or.inr (by have := hlo i hi; omega))
       replace HG3 := HG3.put f9 (fun i hi => Or.inr (by have := hlo i hi; omega))
       replace FS := FS.put f9 (fun i hi => Or.inr (by have := hlo i hi; omega))
       replace hv := ownsRow_fr hv f9 (fun i hi hv' => by have := hlo i hi; have e : g = i := by { simpa [Value.ownBlock] using hv' }; omega)
       replace hb := f9.blk hb (fun hm => own_ne_c hown0 hb hm)
       rw [List.nil_append, flatC_range, range_dv d _ (by omega), Nat.zero_add] at ho
       obtain ⟨a1, cap1, rfl, _, _⟩ := own_cells ho
       refine DL.nil ⟨FS, ?_⟩
       refine DK.take 13 rfl (by kernel_rfl) (by kernel_rfl) (by kernel_rfl) rfl rfl (fun wq sq => Y.build (cs := #[.slice a1 i cap1, .int .i64 dp]) (by kernel_rfl)) ?_
       refine DK.pick [14] (by kernel_rfl) (by simp) (fun ip hip => ?_)
       obtain rfl := List.mem_singleton.1 hip
       refine ⟨_, rfl, ?_⟩
       refine DL.alloc rfl rfl F.z242 rfl ?_
       intro b6 w10 f11 lo6 hi6 hb6
       have lo6G3 := Nat.le_trans G3.size lo6
       have lo6HG3 := Nat.le_trans HG3.size lo6
       have lo6FS := Nat.le_trans FS.size lo6
       replace lo6 := Nat.le_trans FR.size lo6
       replace FR := FR.tr0 f11
       replace G3 := G3.tr0 f11
       replace HG3 := HG3.tr0 f11
       replace FS := FS.tr0 f11
       replace hv := ownsRow_fr hv f11 (by simp)
       replace hb := f11.blk0 hb
       replace ho := ownsRow_fr ho f11 (by intro i hi hv'; first | (simp at hi; done) | (simp only [List.mem_singleton] at hi; subst hi; exact own_ne_c ho hb6 (mem_ownL.2 hv')))
       refine DL.nil ⟨FS, ?_⟩
       refine DK.pick [15] (by kernel_rfl) (by simp) (fun ip hip => ?_)
       obtain rfl := List.mem_singleton.1 hip
       refine ⟨_, rfl, ?_⟩
       refine DL.storeA (cs := #[.slice a1 (i) cap1, .int .i64 dp]) rfl F.ag242 rfl rfl rfl (all2 (own_one ho) rfl) hb6 rfl ?_
       intro w12 f13 hs14 hb6'
       replace FR := FR.put f13 (by intro i hi; simp only [List.mem_cons, List.mem_singleton, List.not_mem_nil, or_false] at hi; rcases hi with rfl; all_goals (first | (left; simp; done) | (right; omega)))
       replace G3 := G3.put f13 (by intro i hi; simp only [List.mem_cons, List.mem_singleton, List.not_mem_nil, or_false] at hi; rcases hi with rfl; all_goals (first | (left; simp; done) | (right; omega)))
       replace HG3 := HG3.put f13 (by intro i hi; simp only [List.mem_cons, List.mem_singleton, List.not_mem_nil, or_false] at hi; rcases hi with rfl; all_goals (first | (left; simp; done) | (right; omega)))
       replace FS := FS.put f13 (by intro i hi; simp only [List.mem_cons, List.mem_singleton, List.not_mem_nil, or_false] at hi; rcases hi with rfl; all_goals (first | (left; simp; done) | (right; omega)))
       replace hv := ownsRow_fr hv f13 (by intro i hi hv'; simp only [List.mem_cons, List.mem_singleton, List.not_mem_nil, or_false] at hi; subst hi; first | exact own_ne_c hv hb (mem_ownL.2 hv') | (have e : g = _ := Option.some.inj hv'; omega))
       replace hb := f13.blk hb (by simp only [List.mem_cons, List.not_mem_nil, or_false, not_or]; omega)
       replace ho := ownsRow_fr ho f13 (by intro i hi hv'; first | (simp at hi; done) | (simp only [List.mem_singleton] at hi; subst hi; exact own_ne_c ho hb6 (mem_ownL.2 hv')))
       replace hi6 := Nat.lt_of_lt_of_le hi6 f13.size
       replace hb6 := hb6'
       refine DL.nil ⟨FS, ?_⟩
       refine DK.done (by kernel_rfl) ?_
       show DC _ _ _ _ _ _
       refine DC.seq ?_
       refine DC.region ?_
       refine DL.y rfl rfl (Y.field F.fd242_0 rfl) ?_
       obtain ⟨g2, rfl⟩ := own_some ho (by omega)
       refine DL.y rfl rfl (Y.loadB F.sc107 rfl hb6 rfl) ?_
       refine DL.y rfl rfl (Y.move) ?_
       refine DL.y rfl rfl (Y.index (i := i - 1) F.sl107 rfl rfl (by omega) (by omega)) ?_
       refine DL.y rfl rfl (v := .int .u8 ((dg d (i - 1) : Nat) : Int)) (by have h := own_dig ho (i := i - 1) (by omega); rw [dg_take (by omega)] at h; exact Y.load F.sc5 rfl h) ?_
       refine DL.y rfl rfl (Y.addC (c := ((dg d (i - 1) + 1 : Nat) : Int)) rfl rfl (by rw [show ((dg d (i - 1) : Nat) : Int) + 1 = ((dg d (i - 1) + 1 : Nat) : Int) by omega]; exact wrap_u8 (by omega))) ?_
       refine DL.y rfl rfl (Y.index (i := i - 1) F.sl107 rfl rfl (by omega) (by omega)) ?_
       obtain ⟨cs8, hb8, hcs8⟩ := own_blk ho
       have hg2n : b6 ≠ g2 := fun e => own_ne_c ho hb6 (by rw [e]; simp [ownL, Value.ownBlock])
       have hg2E := (own_ge ho g2 (by simp [ownL, Value.ownBlock])).1
       refine DL.store rfl F.co5 F.in5 rfl rfl rfl hb8 (by rw [Nat.blt_eq]; omega) ?_
       intro w15 f16 hs17 hb8'
       have ho2 := own_set ho (by omega) hb8 hb8'
       replace FR := FR.put f16 (fun i hi => Or.inr (by rcases List.mem_singleton.1 hi with rfl; omega))
       replace hb6 := f16.blk hb6 (by simp only [List.mem_singleton]; omega)
       refine DL.nil ?_
       show DC _ _ _ _ _ _
       refine DC.seq ?_
       refine DC.region ?_
       refine DL.y rfl rfl (Y.assign) ?_
       refine DL.nil ?_
       show DC _ _ _ _ _ _
       refine DC.ret ?_
       have hsl := set_last (d := d) (i := i) (x := dg d (i - 1) + 1) (by omega) (by omega)
       rw [hsl] at ho2
       have hlen : (d.take (i - 1) ++ [dg d (i - 1) + 1]).length = i := by rw [List.length_append, List.length_take]; simp; omega
       refine FinQ.ret1 rfl (Ret.mk FR ⟨b6, _, _, _, rfl, ⟨⟨_, hb6, by rw [hlen]; exact own_base ho2 hwE, rfl⟩, by omega⟩, Or.inl ⟨i - 1, by omega, by omega, ?_, rfl, rfl⟩⟩)
       intro q h1 h2; exact h9 q (by omega) h2
      ·refine ⟨_, rfl, ?_⟩
       refine DL.alloc rfl rfl F.z242 rfl ?_
       intro b6 w18 f19 lo6 hi6 hb6
       have lo6G3 := Nat.le_trans G3.size lo6
       have lo6HG3 := Nat.le_trans HG3.size lo6
       have lo6FS := Nat.le_trans FS.size lo6
       replace lo6 := Nat.le_trans FR.size lo6
       replace FR := FR.tr0 f19
       replace G3 := G3.tr0 f19
       replace HG3 := HG3.tr0 f19
       replace FS := FS.tr0 f19
       replace hv := ownsRow_fr hv f19 (by simp)
       replace hb := f19.blk0 hb
       replace hown0 := ownsRow_fr hown0 f19 (by simp)
       refine DL.nil ⟨FS, ?_⟩
       refine DK.pick [8] (by kernel_rfl) (by simp) (fun ip hip => ?_)
       obtain rfl := List.mem_singleton.1 hip
       refine ⟨_, rfl, ?_⟩
       refine DL.appendRow (v := .slice (some ⟨b29, 0, none⟩) 0 0) (css := []) (cl := fun i => #[.int .u8 ((dg d i : Nat) : Int)]) rfl rfl F.el107 rfl rfl hown0 (fun i hi => ⟨g, 0, rfl, (fun j hj => by have hj0 : j = 0 := by { simp at hj; omega }; subst hj0; rw [Nat.add_zero, own_dig hv (by omega)]; rfl), rfl, by simp [Value.oneCell']⟩) (by omega) (by omega) (by have := FS.size; omega) ?_
       intro v1 w20 f21 ho hat1
       have hlo : ∀ i ∈ ownL (.slice (some ⟨b29, 0, none⟩) 0 0), E0 ≤ i := fun i hi => (own_ge hown0 i hi).1
       replace FR := FR.put f21 (fun i hi => Or.inr (by have := hlo i hi; omega))
       replace G3 := G3.put f21 (fun i hi => Or.inr (by have := hlo i hi; omega))
       replace HG3 := HG3.put f21 (fun i hi => Or.inr (by have := hlo i hi; omega))
       replace FS := FS.put f21 (fun i hi => Or.inr (by have := hlo i hi; omega))
       replace hv := ownsRow_fr hv f21 (fun i hi hv' => by have := hlo i hi; have e : g = i := by { simpa [Value.ownBlock] using hv' }; omega)
       replace hb := f21.blk hb (fun hm => own_ne_c hown0 hb hm)
       replace hb6 := f21.blk hb6 (fun hm => own_ne_c hown0 hb6 hm)
       replace hi6 := Nat.lt_of_lt_of_le hi6 f21.size
       rw [List.nil_append, flatC_range, range_dv d _ (by omega), Nat.zero_add] at ho
       obtain ⟨a1, cap1, rfl, _, _⟩ := own_cells ho
       refine DL.nil ⟨FS, ?_⟩
       refine DK.take 13 rfl (by kernel_rfl) (by kernel_rfl) (by kernel_rfl) rfl rfl (fun wq sq => Y.build (cs := #[.slice a1 i cap1, .int .i64 dp]) (by kernel_rfl)) ?_
       refine DK.pick [15] (by kernel_rfl) (by simp) (fun ip hip => ?_)
       obtain rfl := List.mem_singleton.1 hip
       refine ⟨_, rfl, ?_⟩
       refine DL.storeA (cs := #[.slice a1 (i) cap1, .int .i64 dp]) rfl F.ag242 rfl rfl rfl (all2 (own_one ho) rfl) hb6 rfl ?_
       intro w22 f23 hs24 hb6'
       replace FR := FR.put f23 (by intro i hi; simp only [List.mem_cons, List.mem_singleton, List.not_mem_nil, or_false] at hi; rcases hi with rfl; all_goals (first | (left; simp; done) | (right; omega)))
       replace G3 := G3.put f23 (by intro i hi; simp only [List.mem_cons, List.mem_singleton, List.not_mem_nil, or_false] at hi; rcases hi with rfl; all_goals (first | (left; simp; done) | (right; omega)))
       replace HG3 := HG3.put f23 (by intro i hi; simp only [List.mem_cons, List.mem_singleton, List.not_mem_nil, or_false] at hi; rcases hi with rfl; all_goals (first | (left; simp; done) | (right; omega)))
       replace FS := FS.put f23 (by intro i hi; simp only [List.mem_cons, List.mem_singleton, List.not_mem_nil, or_false] at hi; rcases hi with rfl; all_goals (first | (left; simp; done) | (right; omega)))
       replace hv := ownsRow_fr hv f23 (by intro i hi hv'; simp only [List.mem_cons, List.mem_singleton, List.not_mem_nil, or_false] at hi; subst hi; first | exact own_ne_c hv hb (mem_ownL.2 hv') | (have e : g = _ := Option.some.inj hv'; omega))
       replace hb := f23.blk hb (by simp only [List.mem_cons, List.not_mem_nil, or_false, not_or]; omega)
       replace hi6 := Nat.lt_of_lt_of_le hi6 f23.size
       replace ho := ownsRow_fr ho f23 (by intro i hi hv'; first | (simp at hi; done) | (simp only [List.mem_singleton] at hi; subst hi; exact own_ne_c ho hb6 (mem_ownL.2 hv')))
       replace hb6 := hb6'
       refine DL.nil ⟨FS, ?_⟩
       refine DK.done (by kernel_rfl) ?_
       show DC _ _ _ _ _ _
       refine DC.seq ?_
       refine DC.region ?_
       refine DL.y rfl rfl (Y.field F.fd242_0 rfl) ?_
       obtain ⟨g2, rfl⟩ := own_some ho (by omega)
       refine DL.y rfl rfl (Y.loadB F.sc107 rfl hb6 rfl) ?_
       refine DL.y rfl rfl (Y.move) ?_
       refine DL.y rfl rfl (Y.index (i := i - 1) F.sl107 rfl rfl (by omega) (by omega)) ?_
       refine DL.y rfl rfl (v := .int .u8 ((dg d (i - 1) : Nat) : Int)) (by have h := own_dig ho (i := i - 1) (by omega); rw [dg_take (by omega)] at h; exact Y.load F.sc5 rfl h) ?_
       refine DL.y rfl rfl (Y.addC (c := ((dg d (i - 1) + 1 : Nat) : Int)) rfl rfl (by rw [show ((dg d (i - 1) : Nat) : Int) + 1 = ((dg d (i - 1) + 1 : Nat) : Int) by omega]; exact wrap_u8 (by omega))) ?_
       refine DL.y rfl rfl (Y.index (i := i - 1) F.sl107 rfl rfl (by omega) (by omega)) ?_
       obtain ⟨cs8, hb8, hcs8⟩ := own_blk ho
       have hg2n : b6 ≠ g2 := fun e => own_ne_c ho hb6 (by rw [e]; simp [ownL, Value.ownBlock])
       have hg2E := (own_ge ho g2 (by simp [ownL, Value.ownBlock])).1
       refine DL.store rfl F.co5 F.in5 rfl rfl rfl hb8 (by rw [Nat.blt_eq]; omega) ?_
       intro w25 f26 hs27 hb8'
       have ho2 := own_set ho (by omega) hb8 hb8'
       replace FR := FR.put f26 (fun i hi => Or.inr (by rcases List.mem_singleton.1 hi with rfl; omega))
       replace hb6 := f26.blk hb6 (by simp only [List.mem_singleton]; omega)
       refine DL.nil ?_
       show DC _ _ _ _ _ _
       refine DC.seq ?_
       refine DC.region ?_
       refine DL.y rfl rfl (Y.assign) ?_
       refine DL.nil ?_
       show DC _ _ _ _ _ _
       refine DC.ret ?_
       have hsl := set_last (d := d) (i := i) (x := dg d (i - 1) + 1) (by omega) (by omega)
       rw [hsl] at ho2
       have hlen : (d.take (i - 1) ++ [dg d (i - 1) + 1]).length = i := by rw [List.length_append, List.length_take]; simp; omega
       refine FinQ.ret1 rfl (Ret.mk FR ⟨b6, _, _, _, rfl, ⟨⟨_, hb6, by rw [hlen]; exact own_base ho2 hwE, rfl⟩, by omega⟩, Or.inl ⟨i - 1, by omega, by omega, ?_, rfl, rfl⟩⟩)
       intro q h1 h2; exact h9 q (by omega) h2
     ·refine ⟨_, rfl, ?_⟩
      refine DL.alloc rfl rfl F.z242 rfl ?_
      intro b6 w28 f29 lo6 hi6 hb6
      have lo6G3 := Nat.le_trans G3.size lo6
      have lo6HG3 := Nat.le_trans HG3.size lo6
      have lo6FS := Nat.le_trans FS.size lo6
      replace lo6 := Nat.le_trans FR.size lo6
      replace FR := FR.tr0 f29
      replace G3 := G3.tr0 f29
      replace HG3 := HG3.tr0 f29
      replace FS := FS.tr0 f29
      replace hv := ownsRow_fr hv f29 (by simp)
      replace hb := f29.blk0 hb
      refine DL.nil ⟨FS, ?_⟩
      refine DK.pick [0] (by kernel_rfl) (by simp) (fun ip hip => ?_)
      obtain rfl := List.mem_singleton.1 hip
      refine ⟨_, rfl, ?_⟩
      refine DL.buildSl0 rfl rfl Tryz.underlying107 F.in5 ?_
      intro b29 w30 f31 lo29 hi29 hb29
      have hloE : E0 ≤ b29 := by have := FS.size; omega
      have hown0 : World.ownsRow w30 E0 5 1 (.slice (some ⟨b29, 0, none⟩) 0 0) 0 [] := own_empty hb29 hloE
      have lt_b6_b29 : b6 < b29 := Nat.lt_of_lt_of_le hi6 lo29
      have lo29G3 := Nat.le_trans G3.size lo29
      have lo29HG3 := Nat.le_trans HG3.size lo29
      have lo29FS := Nat.le_trans FS.size lo29
      replace lo29 := Nat.le_trans FR.size lo29
      replace FR := FR.tr0 f31
      replace G3 := G3.tr0 f31
      replace HG3 := HG3.tr0 f31
      replace FS := FS.tr0 f31
      replace hv := ownsRow_fr hv f31 (by simp)
      replace hb := f31.blk0 hb
      replace hb6 := f31.blk0 hb6
      replace hi6 := Nat.lt_of_lt_of_le hi6 f31.size
      refine DL.nil ⟨FS, ?_⟩
      refine DK.pick [8] (by kernel_rfl) (by simp) (fun ip hip => ?_)
      obtain rfl := List.mem_singleton.1 hip
      refine ⟨_, rfl, ?_⟩
      refine DL.appendRow (v := .slice (some ⟨b29, 0, none⟩) 0 0) (css := []) (cl := fun i => #[.int .u8 ((dg d i : Nat) : Int)]) rfl rfl F.el107 rfl rfl hown0 (fun i hi => ⟨g, 0, rfl, (fun j hj => by have hj0 : j = 0 := by { simp at hj; omega }; subst hj0; rw [Nat.add_zero, own_dig hv (by omega)]; rfl), rfl, by simp [Value.oneCell']⟩) (by omega) (by omega) (by have := FS.size; omega) ?_
      intro v1 w32 f33 ho hat1
      have hlo : ∀ i ∈ ownL (.slice (some ⟨b29, 0, none⟩) 0 0), E0 ≤ i := fun i hi => (own_ge hown0 i hi).1
      replace FR := FR.put f33 (fun i hi => Or.inr (by have := hlo i hi; omega))
      replace G3 := G3.put f33 (fun i hi => Or.inr (by have := hlo i hi; omega))
      replace HG3 := HG3.put f33 (fun i hi => Or.inr (by have := hlo i hi; omega))
      replace FS := FS.put f33 (fun i hi => Or.inr (by have := hlo i hi; omega))
      replace hv := ownsRow_fr hv f33 (fun i hi hv' => by have := hlo i hi; have e : g = i := by { simpa [Value.ownBlock] using hv' }; omega)
      replace hb := f33.blk hb (fun hm => own_ne_c hown0 hb hm)
      replace hb6 := f33.blk hb6 (fun hm => own_ne_c hown0 hb6 hm)
      replace hi6 := Nat.lt_of_lt_of_le hi6 f33.size
      rw [List.nil_append, flatC_range, range_dv d _ (by omega), Nat.zero_add] at ho
      obtain ⟨a1, cap1, rfl, _, _⟩ := own_cells ho
      refine DL.nil ⟨FS, ?_⟩
      refine DK.take 13 rfl (by kernel_rfl) (by kernel_rfl) (by kernel_rfl) rfl rfl (fun wq sq => Y.build (cs := #[.slice a1 i cap1, .int .i64 dp]) (by kernel_rfl)) ?_
      refine DK.pick [15] (by kernel_rfl) (by simp) (fun ip hip => ?_)
      obtain rfl := List.mem_singleton.1 hip
      refine ⟨_, rfl, ?_⟩
      refine DL.storeA (cs := #[.slice a1 (i) cap1, .int .i64 dp]) rfl F.ag242 rfl rfl rfl (all2 (own_one ho) rfl) hb6 rfl ?_
      intro w34 f35 hs36 hb6'
      replace FR := FR.put f35 (by intro i hi; simp only [List.mem_cons, List.mem_singleton, List.not_mem_nil, or_false] at hi; rcases hi with rfl; all_goals (first | (left; simp; done) | (right; omega)))
      replace G3 := G3.put f35 (by intro i hi; simp only [List.mem_cons, List.mem_singleton, List.not_mem_nil, or_false] at hi; rcases hi with rfl; all_goals (first | (left; simp; done) | (right; omega)))
      replace HG3 := HG3.put f35 (by intro i hi; simp only [List.mem_cons, List.mem_singleton, List.not_mem_nil, or_false] at hi; rcases hi with rfl; all_goals (first | (left; simp; done) | (right; omega)))
      replace FS := FS.put f35 (by intro i hi; simp only [List.mem_cons, List.mem_singleton, List.not_mem_nil, or_false] at hi; rcases hi with rfl; all_goals (first | (left; simp; done) | (right; omega)))
      replace hv := ownsRow_fr hv f35 (by intro i hi hv'; simp only [List.mem_cons, List.mem_singleton, List.not_mem_nil, or_false] at hi; subst hi; first | exact own_ne_c hv hb (mem_ownL.2 hv') | (have e : g = _ := Option.some.inj hv'; omega))
      replace hb := f35.blk hb (by simp only [List.mem_cons, List.not_mem_nil, or_false, not_or]; omega)
      replace hi6 := Nat.lt_of_lt_of_le hi6 f35.size
      replace ho := ownsRow_fr ho f35 (by intro i hi hv'; first | (simp at hi; done) | (simp only [List.mem_singleton] at hi; subst hi; exact own_ne_c ho hb6 (mem_ownL.2 hv')))
      replace hb6 := hb6'
      refine DL.nil ⟨FS, ?_⟩
      refine DK.done (by kernel_rfl) ?_
      show DC _ _ _ _ _ _
      refine DC.seq ?_
      refine DC.region ?_
      refine DL.y rfl rfl (Y.field F.fd242_0 rfl) ?_
      obtain ⟨g2, rfl⟩ := own_some ho (by omega)
      refine DL.y rfl rfl (Y.loadB F.sc107 rfl hb6 rfl) ?_
      refine DL.y rfl rfl (Y.move) ?_
      refine DL.y rfl rfl (Y.index (i := i - 1) F.sl107 rfl rfl (by omega) (by omega)) ?_
      refine DL.y rfl rfl (v := .int .u8 ((dg d (i - 1) : Nat) : Int)) (by have h := own_dig ho (i := i - 1) (by omega); rw [dg_take (by omega)] at h; exact Y.load F.sc5 rfl h) ?_
      refine DL.y rfl rfl (Y.addC (c := ((dg d (i - 1) + 1 : Nat) : Int)) rfl rfl (by rw [show ((dg d (i - 1) : Nat) : Int) + 1 = ((dg d (i - 1) + 1 : Nat) : Int) by omega]; exact wrap_u8 (by omega))) ?_
      refine DL.y rfl rfl (Y.index (i := i - 1) F.sl107 rfl rfl (by omega) (by omega)) ?_
      obtain ⟨cs8, hb8, hcs8⟩ := own_blk ho
      have hg2n : b6 ≠ g2 := fun e => own_ne_c ho hb6 (by rw [e]; simp [ownL, Value.ownBlock])
      have hg2E := (own_ge ho g2 (by simp [ownL, Value.ownBlock])).1
      refine DL.store rfl F.co5 F.in5 rfl rfl rfl hb8 (by rw [Nat.blt_eq]; omega) ?_
      intro w37 f38 hs39 hb8'
      have ho2 := own_set ho (by omega) hb8 hb8'
      replace FR := FR.put f38 (fun i hi => Or.inr (by rcases List.mem_singleton.1 hi with rfl; omega))
      replace hb6 := f38.blk hb6 (by simp only [List.mem_singleton]; omega)
      refine DL.nil ?_
      show DC _ _ _ _ _ _
      refine DC.seq ?_
      refine DC.region ?_
      refine DL.y rfl rfl (Y.assign) ?_
      refine DL.nil ?_
      show DC _ _ _ _ _ _
      refine DC.ret ?_
      have hsl := set_last (d := d) (i := i) (x := dg d (i - 1) + 1) (by omega) (by omega)
      rw [hsl] at ho2
      have hlen : (d.take (i - 1) ++ [dg d (i - 1) + 1]).length = i := by rw [List.length_append, List.length_take]; simp; omega
      refine FinQ.ret1 rfl (Ret.mk FR ⟨b6, _, _, _, rfl, ⟨⟨_, hb6, by rw [hlen]; exact own_base ho2 hwE, rfl⟩, by omega⟩, Or.inl ⟨i - 1, by omega, by omega, ?_, rfl, rfl⟩⟩)
      intro q h1 h2; exact h9 q (by omega) h2
    ·refine DL.nil ?_
     show DC _ _ _ _ _ _
     refine DC.condF rfl ?_
     refine DC.skip ?_
     show DC _ _ _ _ _ _
     refine DC.region ?_
     refine DL.y rfl rfl (Y.move) ?_
     refine DL.y rfl rfl (Y.subI (c := (i : Int) - 1 - 1) rfl rfl (by omega) (by omega) (by omega)) ?_
     refine DL.y rfl rfl (Y.assign) ?_
     refine DL.nil ?_
     have hdi := D.lt (i - 1)
     refine ⟨i - 1, ⟨G3, by omega, fun q h1 h2 => ?_⟩, by show i - 1 < i; omega, ?_⟩
     ·rcases (by omega : q = i - 1 ∨ i ≤ q) with rfl | h3
      ·omega
      ·exact h9 q h3 h2
     ·show Value.int .i64 ((i : Int) - 1 - 1) = Value.int .i64 (((i - 1 : Nat) : Int) - 1); rw [show (((i - 1 : Nat) : Int) - 1) = (i : Int) - 1 - 1 by omega]
   ·have hi0 : i = 0 := by omega
    refine DL.nil ?_
    show DC _ _ _ _ _ _
    refine DC.condF rfl ?_
    refine DC.exit ?_
    show DC _ _ _ _ _ _
    refine DC.seq ?_
    refine DC.region ?_
    refine DL.buildSl1 (cs := #[.int .u8 ((1 : Nat) : Int)]) rfl rfl F.el107 rfl rfl rfl ?_
    intro b50 w40 f41 lo50 hi50 hb50
    have ho50 : World.ownsRow w40 w.heap.size 5 1 (.slice (some ⟨b50, 0, none⟩) 1 1) 1 (dv [1]) := own_lit1 hb50 (by have := FR.size; omega)
    replace lo50 := Nat.le_trans FR.size lo50
    replace FR := FR.tr0 f41
    replace hv := ownsRow_fr hv f41 (by simp)
    replace hb := f41.blk0 hb
    refine DL.y rfl rfl (Y.move) ?_
    refine DL.y rfl rfl (Y.nil rfl) ?_
    refine DL.y rfl rfl (Y.field F.fd242_1 rfl) ?_
    refine DL.y rfl rfl (Y.loadB F.sc3 rfl hb rfl) ?_
    refine DL.y rfl rfl (Y.addI (c := dp + 1) rfl rfl (by omega) (by omega) (by omega)) ?_
    refine DL.y rfl rfl (Y.build (cs := #[.slice (some ⟨b50, 0, none⟩) 1 1, .int .i64 (dp + 1)]) (by kernel_rfl)) ?_
    refine DL.boxA rfl rfl rfl ?_
    intro b57 w42 f43 lo57 hi57 hb57
    replace lo57 := Nat.le_trans FR.size lo57
    replace FR := FR.tr0 f43
    replace hv := ownsRow_fr hv f43 (by simp)
    replace hb := f43.blk0 hb
    replace ho50 := ownsRow_fr ho50 f43 (by simp)
    refine DL.y rfl rfl (Y.assign) ?_
    refine DL.nil ?_
    show DC _ _ _ _ _ _
    refine DC.ret ?_
    refine FinQ.ret1 rfl (Ret.mk FR ⟨b57, _, [1], dp + 1, rfl, ⟨⟨_, hb57, ?_, rfl⟩, by omega⟩, Or.inr ⟨fun q hq => h9 q (by omega) hq, rfl, rfl⟩⟩)
    exact ho50

end Go.Proofs.YtmbleojlnaofjaaGreatDoor

/- The walks of cmp and text. -/
namespace Go.Proofs.YtmbleojlnaofjaaGreatDoor
open Go Go.RowKit D Go.Deep
set_option linter.unusedVariables false
set_option linter.unusedSimpArgs false


theorem cmp_gt {x y : List Nat} {i : Nat} (hx : ∀ i, dg x i < 10) (hy : ∀ i, dg y i < 10) (he : ∀ j, j < i → dg x j = dg y j) (hn : ¬ dg x i = dg y i) (h : ∃ m, pre y m < pre x m) : dg y i < dg x i := by
 rcases Nat.lt_or_ge (dg y i) (dg x i) with h1 | h1
 ·exact h1
 ·exfalso
  obtain ⟨m, hm⟩ := h
  have hp : pre x i = pre y i := pre_congr i he
  have h2 : pre x (i + 1) < pre y (i + 1) := by simp only [pre]; omega
  rcases Nat.lt_or_ge i m with h3 | h3
  ·have := pre_mono hx h2 (m - (i + 1))
   rw [show i + 1 + (m - (i + 1)) = m by omega] at this; omega
  ·have : pre x m = pre y m := pre_congr m (fun j hj => he j (by omega))
   omega
theorem cmp_end {x y : List Nat} {i : Nat} (he : ∀ j, j < i → dg x j = dg y j) (h1 : x.length ≤ i) (h2 : y.length ≤ i) (h : ∃ m, pre y m < pre x m) : False := by
 obtain ⟨m, hm⟩ := h
 have : pre x m = pre y m := pre_congr m (fun j _ => by
  rcases Nat.lt_or_ge j i with h3 | h3
  ·exact he j h3
  ·rw [dg_ge (by omega), dg_ge (by omega)])
 omega

theorem dcmp_any {B B' c1 c2 : Nat} {X1 X2 x y : List Nat} {px py : Int} {w : World} (h1 : Dm w B c1 X1 x px) (h2 : Dm w B' c2 X2 y py) (hxl : x.length ≤ 1000) (hyl : y.length ≤ 1000) (hpx : -1000000 ≤ px ∧ px ≤ 1000000) (hpy : -1000000 ≤ py ∧ py ≤ 1000000) (hdx : ∀ i, dg x i < 10) (hdy : ∀ i, dg y i < 10) (G : Gt x px y py) :
  Calls Tryz.prog 238 #[(.pointer (some ⟨c1, 0, none⟩)), (.pointer (some ⟨c2, 0, none⟩))] w (Ret w [] fun r w' => ∃ z : Int, r = .int .i64 z ∧ 1 ≤ z) := by
 have hx1 : 1 ≤ x.length := List.length_pos_iff.2 G.1
 obtain ⟨v1, hb1, hv1, rfl⟩ := h1.out
 obtain ⟨v2, hb2, hv2, rfl⟩ := h2.out
 obtain ⟨a1, cap1, rfl, _, _⟩ := own_cells hv1
 obtain ⟨a2, cap2, rfl, _, _⟩ := own_cells hv2
 refine calls_of Tryz.func238 rfl rfl rfl rfl ?_
 have FR := Fr.refl [] w
 refine DC.seq ?_
 refine DC.region ?_
 refine DL.y rfl rfl (Y.assign) ?_
 refine DL.nil ?_
 show DC _ _ _ _ _ _
 refine DC.seq ?_
 refine DC.block ?_
 refine DC.seq ?_
 refine DC.region ?_
 refine DL.y rfl rfl (Y.move) ?_
 refine DL.y rfl rfl (Y.nil rfl) ?_
 refine DL.y rfl rfl (Y.field F.fd242_0 rfl) ?_
 refine DL.y rfl rfl (Y.loadB F.sc107 rfl hb1 rfl) ?_
 refine DL.y rfl rfl (Y.lenS Tryz.underlying107 rfl) ?_
 refine DL.if rfl rfl (Y.eq rfl rfl) (fun c12 => ?_) (fun c12 => ?_)
 ·exfalso; omega
 ·refine DL.y rfl rfl (Y.move) ?_
  refine DL.y rfl rfl (Y.move) ?_
  refine DL.y rfl rfl (Y.nil rfl) ?_
  refine DL.y rfl rfl (Y.field F.fd242_0 rfl) ?_
  refine DL.y rfl rfl (Y.loadB F.sc107 rfl hb2 rfl) ?_
  refine DL.y rfl rfl (Y.lenS Tryz.underlying107 rfl) ?_
  refine DL.if rfl rfl (Y.eq rfl rfl) (fun c19 => ?_) (fun c19 => ?_)
  ·refine DL.y rfl rfl (Y.pickF rfl) ?_
   refine DL.y rfl rfl (Y.assign) ?_
   refine DL.nil ?_
   show DC _ _ _ _ _ _
   refine DC.condT rfl ?_
   refine DC.seq ?_
   refine DC.still F.mixed (by kernel_rfl) ?_
   intro w1 f2 hsw1
   replace FR := FR.tr0 f2
   replace h1 := Dm.fr0 h1 f2
   replace h2 := Dm.fr0 h2 f2
   replace hb1 := f2.blk0 hb1
   replace hb2 := f2.blk0 hb2
   refine DS.y rfl rfl (Y.move) ?_
   refine DS.y rfl rfl (Y.nil rfl) ?_
   refine DS.y rfl rfl (Y.field F.fd242_0 rfl) ?_
   refine DS.y rfl rfl (Y.loadB F.sc107 rfl hb1 rfl) ?_
   refine DS.y rfl rfl (Y.lenS Tryz.underlying107 rfl) ?_
   refine DS.y rfl rfl (Y.move) ?_
   refine DS.y rfl rfl (Y.nil rfl) ?_
   refine DS.y rfl rfl (Y.field F.fd242_0 rfl) ?_
   refine DS.y rfl rfl (Y.loadB F.sc107 rfl hb2 rfl) ?_
   refine DS.y rfl rfl (Y.lenS Tryz.underlying107 rfl) ?_
   refine DS.y rfl rfl (Y.subI (c := (x.length : Int) - y.length) rfl rfl (by omega) (by omega) (by omega)) ?_
   refine DS.y rfl rfl (Y.assign) ?_
   refine DS.nil ?_
   show DC _ _ _ _ _ _
   refine DC.ret ?_
   have hyl : y.length = 0 := by omega
   exact FinQ.ret1 rfl (Ret.mk FR ⟨_, rfl, by omega⟩)
  ·refine DL.y rfl rfl (Y.pickF rfl) ?_
   refine DL.y rfl rfl (Y.assign) ?_
   refine DL.nil ?_
   show DC _ _ _ _ _ _
   refine DC.condF rfl ?_
   refine DC.seq ?_
   refine DC.still F.mixed (by kernel_rfl) ?_
   intro w3 f4 hsw3
   replace FR := FR.tr0 f4
   replace h1 := Dm.fr0 h1 f4
   replace h2 := Dm.fr0 h2 f4
   replace hb1 := f4.blk0 hb1
   replace hb2 := f4.blk0 hb2
   refine DS.y rfl rfl (Y.move) ?_
   refine DS.y rfl rfl (Y.nil rfl) ?_
   refine DS.y rfl rfl (Y.field F.fd242_1 rfl) ?_
   refine DS.y rfl rfl (Y.loadB F.sc3 rfl hb1 rfl) ?_
   refine DS.y rfl rfl (Y.move) ?_
   refine DS.y rfl rfl (Y.nil rfl) ?_
   refine DS.y rfl rfl (Y.field F.fd242_1 rfl) ?_
   refine DS.y rfl rfl (Y.loadB F.sc3 rfl hb2 rfl) ?_
   refine DS.if rfl rfl (Y.ne rfl rfl) (fun c41 => ?_) (fun c41 => ?_)
   ·refine DS.y rfl rfl (Y.assign) ?_
    refine DS.nil ?_
    show DC _ _ _ _ _ _
    refine DC.condT rfl ?_
    refine DC.seq ?_
    refine DC.still F.mixed (by kernel_rfl) ?_
    intro w5 f6 hsw5
    replace FR := FR.tr0 f6
    replace h1 := Dm.fr0 h1 f6
    replace h2 := Dm.fr0 h2 f6
    replace hb1 := f6.blk0 hb1
    replace hb2 := f6.blk0 hb2
    refine DS.y rfl rfl (Y.move) ?_
    refine DS.y rfl rfl (Y.nil rfl) ?_
    refine DS.y rfl rfl (Y.field F.fd242_1 rfl) ?_
    refine DS.y rfl rfl (Y.loadB F.sc3 rfl hb1 rfl) ?_
    refine DS.y rfl rfl (Y.move) ?_
    refine DS.y rfl rfl (Y.nil rfl) ?_
    refine DS.y rfl rfl (Y.field F.fd242_1 rfl) ?_
    refine DS.y rfl rfl (Y.loadB F.sc3 rfl hb2 rfl) ?_
    refine DS.y rfl rfl (Y.subI (c := px - py) rfl rfl (by omega) (by omega) (by omega)) ?_
    refine DS.y rfl rfl (Y.assign) ?_
    refine DS.nil ?_
    show DC _ _ _ _ _ _
    refine DC.ret ?_
    exact FinQ.ret1 rfl (Ret.mk FR ⟨_, rfl, by rcases G.2 with h | h | h; (rw [h] at c19; simp at c19); omega; omega⟩)
   ·have hm : ∃ m, pre y m < pre x m := by
     rcases G.2 with h | h | h
     ·rw [h] at c19; simp at c19
     ·omega
     ·exact h.2
    refine DS.y rfl rfl (Y.assign) ?_
    refine DS.nil ?_
    show DC _ _ _ _ _ _
    refine DC.condF rfl ?_
    refine DC.skip ?_
    show DC _ _ _ _ _ _
    refine DC.seq ?_
    refine DC.seq ?_
    refine DC.region ?_
    refine DL.y rfl rfl (Y.assign) ?_
    refine DL.nil ?_
    show DC _ _ _ _ _ _
    refine DC.block ?_
    refine DC.loopE (σ := Nat) [(4, 5), (51, 84)] [(0, (.pointer (some ⟨c1, 0, none⟩))), (1, (.pointer (some ⟨c2, 0, none⟩)))] (fun i => [(5, .int .i64 (i : Int))]) (fun sg wl => Fr [] w3 wl ∧ (fun i wl => i ≤ 2000 ∧ ∀ j, j < i → dg x j = dg y j) sg wl) (fun i => max x.length y.length - i) (0) rfl ?_ ?_ ?_ ?_
    ·exact ⟨rfl, rfl⟩
    ·exact rfl
    ·exact ⟨Fr.refl _ _, by omega, fun j hj => by omega⟩
    ·rintro e0 i j w7 ⟨f8, hi2, heq⟩
     replace FR := FR.tr0 f8
     replace h1 := Dm.fr0 h1 f8
     replace h2 := Dm.fr0 h2 f8
     replace hb1 := f8.blk0 hb1
     replace hb2 := f8.blk0 hb2
     have G9 := f8
     have HG9 := Fr.refl [] w7
     refine DC.seq ?_
     refine DC.seq ?_
     refine DC.region ?_
     refine DL.y rfl rfl (Y.move) ?_
     refine DL.y rfl rfl (Y.move) ?_
     refine DL.y rfl rfl (Y.nil rfl) ?_
     refine DL.y rfl rfl (Y.field F.fd242_0 rfl) ?_
     refine DL.y rfl rfl (Y.loadB F.sc107 rfl hb1 rfl) ?_
     refine DL.y rfl rfl (Y.lenS Tryz.underlying107 rfl) ?_
     refine DL.if rfl rfl (Y.lt rfl rfl) (fun c57 => ?_) (fun c57 => ?_)
     ·refine DL.y rfl rfl (Y.move) ?_
      refine DL.skip rfl rfl ?_
      refine DL.skip rfl rfl ?_
      refine DL.skip rfl rfl ?_
      refine DL.skip rfl rfl ?_
      refine DL.skip rfl rfl ?_
      refine DL.skip rfl rfl ?_
      refine DL.skip rfl rfl ?_
      refine DL.y rfl rfl (Y.pickT rfl) ?_
      refine DL.nil ?_
      show DC _ _ _ _ _ _
      refine DC.condT rfl ?_
      refine DC.skip ?_
      show DC _ _ _ _ _ _
      refine DC.seq ?_
      refine DC.block ?_
      refine DC.seq ?_
      refine DC.region ?_
      refine DL.y rfl rfl (Y.move) ?_
      refine DL.y rfl rfl (Y.move) ?_
      refine DL.call rfl rfl F.nm240 rfl (digit_any h1) ?_
      rintro _ w10 f11 rfl
      replace FR := FR.tr0 f11
      replace G9 := G9.tr0 f11
      replace HG9 := HG9.tr0 f11
      replace h1 := Dm.fr0 h1 f11
      replace h2 := Dm.fr0 h2 f11
      replace hb1 := f11.blk0 hb1
      replace hb2 := f11.blk0 hb2
      refine DL.y rfl rfl (Y.move) ?_
      refine DL.y rfl rfl (Y.move) ?_
      refine DL.call rfl rfl F.nm240 rfl (digit_any h2) ?_
      rintro _ w12 f13 rfl
      replace FR := FR.tr0 f13
      replace G9 := G9.tr0 f13
      replace HG9 := HG9.tr0 f13
      replace h1 := Dm.fr0 h1 f13
      replace h2 := Dm.fr0 h2 f13
      replace hb1 := f13.blk0 hb1
      replace hb2 := f13.blk0 hb2
      have hxi := hdx i
      have hyi := hdy i
      refine DL.if rfl rfl (Y.ne rfl rfl) (fun c75 => ?_) (fun c75 => ?_)
      ·refine DL.nil ?_
       show DC _ _ _ _ _ _
       refine DC.condT rfl ?_
       refine DC.seq ?_
       refine DC.region ?_
       refine DL.y rfl rfl (Y.move) ?_
       refine DL.y rfl rfl (Y.move) ?_
       refine DL.call rfl rfl F.nm240 rfl (digit_any h1) ?_
       rintro _ w14 f15 rfl
       replace FR := FR.tr0 f15
       replace G9 := G9.tr0 f15
       replace HG9 := HG9.tr0 f15
       replace h1 := Dm.fr0 h1 f15
       replace h2 := Dm.fr0 h2 f15
       replace hb1 := f15.blk0 hb1
       replace hb2 := f15.blk0 hb2
       refine DL.y rfl rfl (Y.convC (c := ((dg x i : Nat) : Int)) F.us5 Tryz.underlying3 rfl (wrap_i64 (by omega) (by omega))) ?_
       refine DL.y rfl rfl (Y.move) ?_
       refine DL.y rfl rfl (Y.move) ?_
       refine DL.call rfl rfl F.nm240 rfl (digit_any h2) ?_
       rintro _ w16 f17 rfl
       replace FR := FR.tr0 f17
       replace G9 := G9.tr0 f17
       replace HG9 := HG9.tr0 f17
       replace h1 := Dm.fr0 h1 f17
       replace h2 := Dm.fr0 h2 f17
       replace hb1 := f17.blk0 hb1
       replace hb2 := f17.blk0 hb2
       refine DL.y rfl rfl (Y.convC (c := ((dg y i : Nat) : Int)) F.us5 Tryz.underlying3 rfl (wrap_i64 (by omega) (by omega))) ?_
       refine DL.y rfl rfl (Y.subI (c := ((dg x i : Nat) : Int) - ((dg y i : Nat) : Int)) rfl rfl (by omega) (by omega) (by omega)) ?_
       refine DL.y rfl rfl (Y.assign) ?_
       refine DL.nil ?_
       show DC _ _ _ _ _ _
       refine DC.ret ?_
       have hg := cmp_gt hdx hdy heq (by omega) hm
       exact FinQ.ret1 rfl (Ret.mk FR ⟨_, rfl, by omega⟩)
      ·refine DL.nil ?_
       show DC _ _ _ _ _ _
       refine DC.condF rfl ?_
       refine DC.skip ?_
       show DC _ _ _ _ _ _
       refine DC.region ?_
       refine DL.y rfl rfl (Y.move) ?_
       refine DL.y rfl rfl (Y.addI (c := ((i + 1 : Nat) : Int)) rfl rfl (by omega) (by omega) (by omega)) ?_
       refine DL.y rfl rfl (Y.assign) ?_
       refine DL.nil ?_
       refine ⟨i + 1, ⟨G9, by omega, fun j hj => ?_⟩, by show max x.length y.length - (i + 1) < max x.length y.length - i; omega, rfl⟩
       rcases (by omega : j < i ∨ j = i) with h3 | rfl
       ·exact heq j h3
       ·omega
     ·refine DL.y rfl rfl (Y.move) ?_
      refine DL.y rfl rfl (Y.move) ?_
      refine DL.y rfl rfl (Y.move) ?_
      refine DL.y rfl rfl (Y.nil rfl) ?_
      refine DL.y rfl rfl (Y.field F.fd242_0 rfl) ?_
      refine DL.y rfl rfl (Y.loadB F.sc107 rfl hb2 rfl) ?_
      refine DL.y rfl rfl (Y.lenS Tryz.underlying107 rfl) ?_
      refine DL.if rfl rfl (Y.lt rfl rfl) (fun c65 => ?_) (fun c65 => ?_)
      ·refine DL.y rfl rfl (Y.pickF rfl) ?_
       refine DL.nil ?_
       show DC _ _ _ _ _ _
       refine DC.condT rfl ?_
       refine DC.skip ?_
       show DC _ _ _ _ _ _
       refine DC.seq ?_
       refine DC.block ?_
       refine DC.seq ?_
       refine DC.region ?_
       refine DL.y rfl rfl (Y.move) ?_
       refine DL.y rfl rfl (Y.move) ?_
       refine DL.call rfl rfl F.nm240 rfl (digit_any h1) ?_
       rintro _ w18 f19 rfl
       replace FR := FR.tr0 f19
       replace G9 := G9.tr0 f19
       replace HG9 := HG9.tr0 f19
       replace h1 := Dm.fr0 h1 f19
       replace h2 := Dm.fr0 h2 f19
       replace hb1 := f19.blk0 hb1
       replace hb2 := f19.blk0 hb2
       refine DL.y rfl rfl (Y.move) ?_
       refine DL.y rfl rfl (Y.move) ?_
       refine DL.call rfl rfl F.nm240 rfl (digit_any h2) ?_
       rintro _ w20 f21 rfl
       replace FR := FR.tr0 f21
       replace G9 := G9.tr0 f21
       replace HG9 := HG9.tr0 f21
       replace h1 := Dm.fr0 h1 f21
       replace h2 := Dm.fr0 h2 f21
       replace hb1 := f21.blk0 hb1
       replace hb2 := f21.blk0 hb2
       have hxi := hdx i
       have hyi := hdy i
       refine DL.if rfl rfl (Y.ne rfl rfl) (fun c75 => ?_) (fun c75 => ?_)
       ·refine DL.nil ?_
        show DC _ _ _ _ _ _
        refine DC.condT rfl ?_
        refine DC.seq ?_
        refine DC.region ?_
        refine DL.y rfl rfl (Y.move) ?_
        refine DL.y rfl rfl (Y.move) ?_
        refine DL.call rfl rfl F.nm240 rfl (digit_any h1) ?_
        rintro _ w22 f23 rfl
        replace FR := FR.tr0 f23
        replace G9 := G9.tr0 f23
        replace HG9 := HG9.tr0 f23
        replace h1 := Dm.fr0 h1 f23
        replace h2 := Dm.fr0 h2 f23
        replace hb1 := f23.blk0 hb1
        replace hb2 := f23.blk0 hb2
        refine DL.y rfl rfl (Y.convC (c := ((dg x i : Nat) : Int)) F.us5 Tryz.underlying3 rfl (wrap_i64 (by omega) (by omega))) ?_
        refine DL.y rfl rfl (Y.move) ?_
        refine DL.y rfl rfl (Y.move) ?_
        refine DL.call rfl rfl F.nm240 rfl (digit_any h2) ?_
        rintro _ w24 f25 rfl
        replace FR := FR.tr0 f25
        replace G9 := G9.tr0 f25
        replace HG9 := HG9.tr0 f25
        replace h1 := Dm.fr0 h1 f25
        replace h2 := Dm.fr0 h2 f25
        replace hb1 := f25.blk0 hb1
        replace hb2 := f25.blk0 hb2
        refine DL.y rfl rfl (Y.convC (c := ((dg y i : Nat) : Int)) F.us5 Tryz.underlying3 rfl (wrap_i64 (by omega) (by omega))) ?_
        refine DL.y rfl rfl (Y.subI (c := ((dg x i : Nat) : Int) - ((dg y i : Nat) : Int)) rfl rfl (by omega) (by omega) (by omega)) ?_
        refine DL.y rfl rfl (Y.assign) ?_
        refine DL.nil ?_
        show DC _ _ _ _ _ _
        refine DC.ret ?_
        have hg := cmp_gt hdx hdy heq (by omega) hm
        exact FinQ.ret1 rfl (Ret.mk FR ⟨_, rfl, by omega⟩)
       ·refine DL.nil ?_
        show DC _ _ _ _ _ _
        refine DC.condF rfl ?_
        refine DC.skip ?_
        show DC _ _ _ _ _ _
        refine DC.region ?_
        refine DL.y rfl rfl (Y.move) ?_
        refine DL.y rfl rfl (Y.addI (c := ((i + 1 : Nat) : Int)) rfl rfl (by omega) (by omega) (by omega)) ?_
        refine DL.y rfl rfl (Y.assign) ?_
        refine DL.nil ?_
        refine ⟨i + 1, ⟨G9, by omega, fun j hj => ?_⟩, by show max x.length y.length - (i + 1) < max x.length y.length - i; omega, rfl⟩
        rcases (by omega : j < i ∨ j = i) with h3 | rfl
        ·exact heq j h3
        ·omega
      ·refine DL.y rfl rfl (Y.pickF rfl) ?_
       refine DL.nil ?_
       show DC _ _ _ _ _ _
       refine DC.condF rfl ?_
       refine DC.exit ?_
       show DC _ _ _ _ _ _
       refine DC.seq ?_
       refine DC.region ?_
       refine DL.y rfl rfl (Y.assign) ?_
       refine DL.nil ?_
       show DC _ _ _ _ _ _
       refine DC.ret ?_
       exact (cmp_end heq (by omega) (by omega) hm).elim


/-- A half's text: the whole digits, and the last one behind the point. -/
def wholeD (d : List Nat) : List Nat := if d.length = 1 then [48] else (d.take (d.length - 1)).map fun x => 48 + x
def textD (d : List Nat) : List Nat := wholeD d ++ [46, 48 + dg d (d.length - 1)]
theorem dv_bytes : ∀ (l : List Nat), (∀ x ∈ l, x < 256) → dv l = (l.map UInt8.ofNat).map fun c => Value.int .u8 (c.toNat : Int)
 | [], _ => rfl
 | x :: l, h => by
  have h1 := dv_bytes l (fun y hy => h y (by simp [hy]))
  have h2 := h x (by simp)
  simp only [dv, List.map_cons] at h1 ⊢
  rw [h1, UInt8.toNat_ofNat', Nat.mod_eq_of_lt (by omega)]
theorem dg_mem {d : List Nat} (h : ∀ i, dg d i < 10) : ∀ x ∈ d, x < 10 := fun x hx => by
 obtain ⟨i, hi, rfl⟩ := List.getElem_of_mem hx
 have := h i
 rwa [dg_lt hi] at this
theorem textD_lt {d : List Nat} (h : ∀ i, dg d i < 10) : ∀ x ∈ textD d, x < 256 := by
 intro x hx
 have hl := h (d.length - 1)
 have hd := dg_mem h
 unfold textD wholeD at hx
 rcases List.mem_append.1 hx with hx | hx
 ·split at hx
  ·simp at hx; omega
  ·obtain ⟨y, hy, rfl⟩ := List.mem_map.1 hx
   have := hd y (List.mem_of_mem_take hy); omega
 ·simp at hx; omega


theorem own_sub {v v1 : Value} {w : World} (h : v1.ownBlock = v.ownBlock ∨ v1.ownBlock = some w.heap.size) : Sub (ownL v1) (ownL v) w := fun i hi => by
 have h1 := mem_ownL.1 hi
 rcases h with h | h
 ·left; rw [mem_ownL, ← h]; exact h1
 ·rw [h] at h1; injection h1 with h1; right; omega

set_option maxHeartbeats 1000000 in
theorem dtext_any {B c : Nat} {X d : List Nat} {dp : Int} {w : World} (h : Dm w B c X d dp) (hd : ∀ i, dg d i < 10) (hdp : dp = (d.length : Int) - 1) (hd1 : 1 ≤ d.length) (hdl : d.length ≤ 1000) : Calls Tryz.prog 214 #[(.pointer (some ⟨c, 0, none⟩)), .int .i64 1] w (Ret w [] fun r w' => ∃ s : ByteArray, r = .string s ∧ s.data.toList = (textD d).map UInt8.ofNat) := by
 obtain ⟨vd, hb, hv, rfl⟩ := h.out
 obtain ⟨a, cap, rfl, _, _⟩ := own_cells hv
 refine calls_of Tryz.func214 rfl rfl rfl rfl ?_
 have FR := Fr.refl [] w
 refine DC.seq ?_
 refine DC.region ?_
 refine DL.y rfl rfl (Y.assign) ?_
 refine DL.nil ?_
 show DC _ _ _ _ _ _
 refine DC.seq ?_
 refine DC.region ?_
 refine DL.y rfl rfl (Y.assign) ?_
 refine DL.nil ?_
 show DC _ _ _ _ _ _
 refine DC.seq ?_
 refine DC.seq ?_
 refine DC.region ?_
 refine DL.y rfl rfl (Y.assign) ?_
 refine DL.nil ?_
 show DC _ _ _ _ _ _
 refine DC.block ?_
 obtain ⟨E0, hE0⟩ : ∃ E0, E0 = w.heap.size := ⟨_, rfl⟩
 have hwE : w.heap.size ≤ E0 := by have := FR.size; omega
 have hcE : c < E0 := by have := lt_of_blk hb; omega
 have hXE : ∀ i ∈ (c :: ownL (Value.slice a d.length cap)), i < E0 := fun i hi => by have := (h.ge i hi).2; omega
 have hEc := Nat.le_of_eq hE0
 refine DC.loopE (σ := Nat × Value) [(5, 6), (8, 22)] [(0, (.pointer (some ⟨c, 0, none⟩))), (1, .int .i64 1)] (fun (i, v) => [(5, v), (6, .int .i64 (i : Int))]) (fun sg wl => Fr [] w wl ∧ (fun (i, v) wl => (i : Int) ≤ dp ∧ wl.ownsRow E0 5 1 v i (dv ((d.take i).map fun x => 48 + x))) sg wl) (fun (i, _) => d.length - i) ((0, .slice none 0 0)) rfl ?_ ?_ ?_ ?_
 ·exact ⟨rfl, rfl⟩
 ·exact ⟨rfl, rfl⟩
 ·exact ⟨Fr.refl _ _, by simp; omega, World.ownsRow_nil _ _ _ _⟩
 ·rintro e0 ⟨i, v⟩ j w1 ⟨f2, hip, ho⟩
  replace FR := FR.tr0 f2
  replace hb := f2.blk0 hb
  replace hEc := Nat.le_trans hEc f2.size
  replace h := h.fr0 f2
  have G3 := f2
  have HG3 := Fr.refl [] w1
  refine DC.seq ?_
  refine DC.seq ?_
  refine DC.region ?_
  refine DL.y rfl rfl (Y.move) ?_
  refine DL.y rfl rfl (Y.move) ?_
  refine DL.y rfl rfl (Y.nil rfl) ?_
  refine DL.y rfl rfl (Y.field F.fd242_1 rfl) ?_
  refine DL.y rfl rfl (Y.loadB F.sc3 rfl hb rfl) ?_
  refine DL.if rfl rfl (Y.lt rfl rfl) (fun c13 => ?_) (fun c13 => ?_)
  ·refine DL.nil ?_
   show DC _ _ _ _ _ _
   refine DC.condT rfl ?_
   refine DC.skip ?_
   show DC _ _ _ _ _ _
   refine DC.seq ?_
   refine DC.block ?_
   refine DC.region ?_
   refine DL.y rfl rfl (Y.move) ?_
   refine DL.y rfl rfl (Y.move) ?_
   refine DL.y rfl rfl (Y.move) ?_
   refine DL.call rfl rfl F.nm240 rfl (digit_any h) ?_
   rintro _ w4 f5 rfl
   replace FR := FR.tr0 f5
   replace G3 := G3.tr0 f5
   replace HG3 := HG3.tr0 f5
   replace hb := f5.blk0 hb
   replace hEc := Nat.le_trans hEc f5.size
   replace h := h.fr0 f5
   replace ho := ownsRow_fr ho f5 (by intro i hi hv'; simp at hi)
   refine DL.y rfl rfl (Y.addC (c := ((48 + dg d i : Nat) : Int)) rfl rfl (by have := hd i; rw [show (48 : Int) + ((dg d i : Nat) : Int) = ((48 + dg d i : Nat) : Int) by omega]; exact wrap_u8 (by omega))) ?_
   refine DL.buildSl1 rfl rfl (F.el107) rfl rfl rfl ?_
   intro b21 w6 f7 lo21 hi21 hb21
   have le_E0_b21 : E0 ≤ b21 := Nat.le_trans hEc lo21
   have lo21G3 := Nat.le_trans G3.size lo21
   have lo21HG3 := Nat.le_trans HG3.size lo21
   replace lo21 := Nat.le_trans FR.size lo21
   replace FR := FR.tr0 f7
   replace G3 := G3.tr0 f7
   replace HG3 := HG3.tr0 f7
   replace hb := f7.blk0 hb
   replace hEc := Nat.le_trans hEc f7.size
   replace h := h.fr0 f7
   replace ho := ownsRow_fr ho f7 (by intro i hi hv'; simp at hi)
   refine DL.appendRow (v := v) (css := (dv ((d.take i).map fun x => 48 + x)).map fun x => #[x]) (cl := fun _ => #[.int .u8 ((48 + dg d i : Nat) : Int)]) rfl rfl F.el107 rfl rfl (by rw [flatC_one]; exact ho) (fun ib hib => ⟨b21, 0, rfl, (by obtain rfl : ib = 0 := by { omega }; exact CellsAt.ofBlk hb21), rfl, by simp [Value.oneCell']⟩) (by omega) (by omega) (by omega) ?_
   intro v1 w8 f9 ho1 hat1
   have hlo : ∀ ib ∈ ownL (v), E0 ≤ ib := fun ib hib => (own_ge ho ib hib).1
   replace FR := FR.put f9 (fun ib hib => Or.inr (by have := hlo ib hib; omega))
   replace G3 := G3.put f9 (fun ib hib => Or.inr (by have := hlo ib hib; omega))
   replace hb := f9.blk hb (fun hm => by have := hlo _ hm; omega)
   replace hEc := Nat.le_trans hEc f9.size
   replace h := h.fr f9 (fun ib hib hm => by have := hlo _ hib; have := hXE ib hm; omega)
   replace hi21 := Nat.lt_of_lt_of_le hi21 f9.size
   rw [flatC_append, flatC_one] at ho1
   have hd1 : flatC ((List.range 1).map fun _ => #[Value.int .u8 ((48 + dg d i : Nat) : Int)]) = dv [48 + dg d i] := rfl
   rw [hd1, ← dv_append] at ho1
   replace ho := ho1
   have hmt : (d.take (i + 1)).map (fun x => 48 + x) = (d.take i).map (fun x => 48 + x) ++ [48 + dg d i] := by rw [take_dg (by omega)]; simp
   rw [← hmt] at ho
   refine DL.y rfl rfl (Y.assign) ?_
   refine DL.nil ?_
   show DC _ _ _ _ _ _
   refine DC.region ?_
   refine DL.y rfl rfl (Y.move) ?_
   refine DL.y rfl rfl (Y.addI (c := ((i + 1 : Nat) : Int)) rfl rfl (by omega) (by omega) (by omega)) ?_
   refine DL.y rfl rfl (Y.assign) ?_
   refine DL.nil ?_
   exact ⟨(i + 1, v1), ⟨G3, by omega, ho⟩, by show d.length - (i + 1) < d.length - i; omega, rfl, rfl⟩
  ·refine DL.nil ?_
   show DC _ _ _ _ _ _
   refine DC.condF rfl ?_
   refine DC.exit ?_
   show DC _ _ _ _ _ _
   refine DC.seq ?_
   refine DC.seq ?_
   refine DC.region ?_
   refine DL.y rfl rfl (Y.move) ?_
   have hie : (i : Int) = dp := by omega
   obtain ⟨a1, cap1, rfl, _, _⟩ := own_cells ho
   refine DL.y rfl rfl (Y.lenS Tryz.underlying107 rfl) ?_
   refine DL.if rfl rfl (Y.eq rfl rfl) (fun c25 => ?_) (fun c25 => ?_)
   ·refine DL.nil ?_
    show DC _ _ _ _ _ _
    refine DC.condT rfl ?_
    refine DC.region ?_
    refine DL.y rfl rfl (Y.move) ?_
    refine DL.buildSl1 rfl rfl (F.el107) rfl rfl rfl ?_
    intro b27 w10 f11 lo27 hi27 hb27
    have le_E0_b27 : E0 ≤ b27 := Nat.le_trans hEc lo27
    replace lo27 := Nat.le_trans FR.size lo27
    replace FR := FR.tr0 f11
    replace hb := f11.blk0 hb
    replace hEc := Nat.le_trans hEc f11.size
    replace h := h.fr0 f11
    replace ho := ownsRow_fr ho f11 (by intro i hi hv'; simp at hi)
    refine DL.appendRow (v := (.slice a1 i cap1)) (css := (dv ((d.take i).map fun x => 48 + x)).map fun x => #[x]) (cl := fun _ => #[.int .u8 ((48 : Nat) : Int)]) rfl rfl F.el107 rfl rfl (by rw [flatC_one]; exact ho) (fun ib hib => ⟨b27, 0, rfl, (by obtain rfl : ib = 0 := by { omega }; exact CellsAt.ofBlk hb27), rfl, by simp [Value.oneCell']⟩) (by omega) (by omega) (by omega) ?_
    intro v4 w12 f13 ho1 hat1
    have hlo : ∀ ib ∈ ownL ((.slice a1 i cap1)), E0 ≤ ib := fun ib hib => (own_ge ho ib hib).1
    replace FR := FR.put f13 (fun ib hib => Or.inr (by have := hlo ib hib; omega))
    replace hb := f13.blk hb (fun hm => by have := hlo _ hm; omega)
    replace hEc := Nat.le_trans hEc f13.size
    replace h := h.fr f13 (fun ib hib hm => by have := hlo _ hib; have := hXE ib hm; omega)
    replace hi27 := Nat.lt_of_lt_of_le hi27 f13.size
    rw [flatC_append, flatC_one] at ho1
    have hd1 : flatC ((List.range 1).map fun _ => #[Value.int .u8 ((48 : Nat) : Int)]) = dv [48] := rfl
    rw [hd1, ← dv_append] at ho1
    replace ho := ho1
    have hi0 : i = 0 := by omega
    have hwz : (d.take i).map (fun x => 48 + x) ++ [48] = [48] := by rw [hi0]; rfl
    refine DL.y rfl rfl (Y.assign) ?_
    refine DL.nil ?_
    show DC _ _ _ _ _ _
    refine DC.seq ?_
    refine DC.seq ?_
    refine DC.region ?_
    refine DL.y rfl rfl (Y.move) ?_
    refine DL.if rfl rfl (Y.gt rfl rfl) (fun c30 => ?_) (fun c30 => ?_)
    ·refine DL.nil ?_
     show DC _ _ _ _ _ _
     refine DC.condT rfl ?_
     refine DC.seq ?_
     refine DC.region ?_
     refine DL.y rfl rfl (Y.move) ?_
     refine DL.buildSl1 rfl rfl (F.el107) rfl rfl rfl ?_
     intro b32 w14 f15 lo32 hi32 hb32
     have le_E0_b32 : E0 ≤ b32 := Nat.le_trans hEc lo32
     have lt_b27_b32 : b27 < b32 := Nat.lt_of_lt_of_le hi27 lo32
     replace lo32 := Nat.le_trans FR.size lo32
     replace FR := FR.tr0 f15
     replace hb := f15.blk0 hb
     replace hEc := Nat.le_trans hEc f15.size
     replace h := h.fr0 f15
     replace hi27 := Nat.lt_of_lt_of_le hi27 f15.size
     replace ho := ownsRow_fr ho f15 (by intro i hi hv'; simp at hi)
     have hwd : (dv (((d.take i).map fun x => 48 + x) ++ [48])) = dv (wholeD d) := by rw [hwz, show wholeD d = [48] by unfold wholeD; rw [if_pos (by omega)]]
     rw [hwd] at ho
     refine DL.appendRow (v := v4) (css := (dv (wholeD d)).map fun x => #[x]) (cl := fun _ => #[.int .u8 ((46 : Nat) : Int)]) rfl rfl F.el107 rfl rfl (by rw [flatC_one]; exact ho) (fun ib hib => ⟨b32, 0, rfl, (by obtain rfl : ib = 0 := by { omega }; exact CellsAt.ofBlk hb32), rfl, by simp [Value.oneCell']⟩) (by omega) (by omega) (by omega) ?_
     intro v5 w16 f17 ho1 hat1
     have hlo : ∀ ib ∈ ownL (v4), E0 ≤ ib := fun ib hib => (own_ge ho ib hib).1
     replace FR := FR.put f17 (fun ib hib => Or.inr (by have := hlo ib hib; omega))
     replace hb := f17.blk hb (fun hm => by have := hlo _ hm; omega)
     replace hEc := Nat.le_trans hEc f17.size
     replace h := h.fr f17 (fun ib hib hm => by have := hlo _ hib; have := hXE ib hm; omega)
     replace hi27 := Nat.lt_of_lt_of_le hi27 f17.size
     replace hi32 := Nat.lt_of_lt_of_le hi32 f17.size
     rw [flatC_append, flatC_one] at ho1
     have hd1 : flatC ((List.range 1).map fun _ => #[Value.int .u8 ((46 : Nat) : Int)]) = dv [46] := rfl
     rw [hd1, ← dv_append] at ho1
     replace ho := ho1
     have hoW : World.ownsRow w16 E0 5 1 v5 (wholeD d ++ [46]).length (dv (wholeD d ++ [46])) := by have e : (wholeD d ++ [46]).length = (i + 1) + 1 := by { unfold wholeD; split <;> simp <;> (first | done | omega) }; rw [e]; exact ho
     refine DL.y rfl rfl (Y.assign) ?_
     refine DL.nil ?_
     show DC _ _ _ _ _ _
     refine DC.seq ?_
     refine DC.region ?_
     refine DL.y rfl rfl (Y.assign) ?_
     refine DL.nil ?_
     show DC _ _ _ _ _ _
     refine DC.block ?_
     obtain ⟨v2, hv2⟩ : ∃ v2, v2 = v5 := ⟨_, rfl⟩
     obtain ⟨N2, hN2⟩ : ∃ N2, N2 = (wholeD d ++ [46]).length := ⟨_, rfl⟩
     have ho2 : World.ownsRow w16 E0 5 1 v2 N2 (dv (wholeD d ++ [46])) := by rw [hv2, hN2]; exact hoW
     have xFR : Sub (ownL v2) [] w := fun i hi => Or.inr (by have := (own_ge ho2 i hi).1; omega)
     have nx_c : c ∉ ownL v2 := own_ne_c ho2 hb
     have nx_h : ∀ i ∈ (c :: ownL (Value.slice a d.length cap)), i ∉ ownL v2 := fun i hi hm => by have := (own_ge ho2 i hm).1; have := hXE i hi; omega
     have hN2b : N2 ≤ 2000 := by rw [hN2]; unfold wholeD; split <;> simp <;> omega
     refine DC.loopE (σ := Nat × Value) [(5, 5), (7, 7), (34, 50)] [(0, (.pointer (some ⟨c, 0, none⟩))), (1, .int .i64 1)] (fun (i, v) => [(5, v), (7, .int .i64 (i : Int))]) (fun sg wl => Fr (ownL v2) w16 wl ∧ (fun (i, v) wl => i ≤ 1 ∧ Sub (ownL v) (ownL v2) w16 ∧ E0 ≤ wl.heap.size ∧ wl.ownsRow E0 5 1 v (N2 + i) (dv (wholeD d ++ [46] ++ (if i = 0 then [] else [48 + dg d (d.length - 1)])))) sg wl) (fun (i, _) => 1 - i) ((0, v2)) rfl ?_ ?_ ?_ ?_
     ·exact ⟨rfl, rfl⟩
     ·exact ⟨by rw [hv2]; rfl, rfl⟩
     ·exact ⟨Fr.refl _ _, by omega, Sub.refl _ _, hEc, by simpa using ho2⟩
     ·rintro e0 ⟨i, v⟩ j w18 ⟨f19, hi1, hsl, hEw, ho⟩
      have xFR' := xFR.step FR.size hsl
      replace FR := FR.put f19 xFR
      replace xFR := xFR'
      have nx_c' := hsl.not nx_c (lt_of_blk hb)
      replace hb := f19.blk hb nx_c
      replace nx_c := nx_c'
      have nx_h' := fun i (hi : i ∈ _) => Sub.not hsl (nx_h i hi) (Dm.ge h i hi).2
      replace h := Dm.fr h f19 (fun i hi hm => nx_h i hm hi)
      replace nx_h := nx_h'
      replace hi27 := Nat.lt_of_lt_of_le hi27 f19.size
      replace hi32 := Nat.lt_of_lt_of_le hi32 f19.size
      have G20 := f19
      have xG20 := hsl
      replace hEc := hEw
      refine DC.seq ?_
      refine DC.seq ?_
      refine DC.region ?_
      refine DL.y rfl rfl (Y.move) ?_
      refine DL.y rfl rfl (Y.move) ?_
      refine DL.if rfl rfl (Y.lt rfl rfl) (fun c36 => ?_) (fun c36 => ?_)
      ·refine DL.nil ?_
       show DC _ _ _ _ _ _
       refine DC.condT rfl ?_
       refine DC.skip ?_
       show DC _ _ _ _ _ _
       refine DC.seq ?_
       refine DC.block ?_
       refine DC.region ?_
       refine DL.y rfl rfl (Y.move) ?_
       refine DL.y rfl rfl (Y.move) ?_
       refine DL.y rfl rfl (Y.move) ?_
       refine DL.y rfl rfl (Y.nil rfl) ?_
       refine DL.y rfl rfl (Y.field F.fd242_1 rfl) ?_
       refine DL.y rfl rfl (Y.loadB F.sc3 rfl hb rfl) ?_
       refine DL.y rfl rfl (Y.move) ?_
       refine DL.y rfl rfl (Y.addI (c := ((d.length - 1 : Nat) : Int)) rfl rfl (by omega) (by omega) (by omega)) ?_
       refine DL.call rfl rfl F.nm240 rfl (digit_any h) ?_
       rintro _ w21 f22 rfl
       replace FR := FR.tr0 f22
       replace G20 := G20.tr0 f22
       replace hb := f22.blk0 hb
       replace h := h.fr0 f22
       replace hi27 := Nat.lt_of_lt_of_le hi27 f22.size
       replace hi32 := Nat.lt_of_lt_of_le hi32 f22.size
       replace ho := ownsRow_fr ho f22 (by intro i hi hv'; simp at hi)
       replace hEc := Nat.le_trans hEc f22.size
       refine DL.y rfl rfl (Y.addC (c := ((48 + dg d (d.length - 1) : Nat) : Int)) rfl rfl (by have := hd (d.length - 1); rw [show (48 : Int) + ((dg d (d.length - 1) : Nat) : Int) = ((48 + dg d (d.length - 1) : Nat) : Int) by omega]; exact wrap_u8 (by omega))) ?_
       refine DL.buildSl1 rfl rfl (F.el107) rfl rfl rfl ?_
       intro b49 w23 f24 lo49 hi49 hb49
       have lt_b27_b49 : b27 < b49 := Nat.lt_of_lt_of_le hi27 lo49
       have lt_b32_b49 : b32 < b49 := Nat.lt_of_lt_of_le hi32 lo49
       have le_E0_b49 : E0 ≤ b49 := Nat.le_trans hEc lo49
       have lo49G20 := Nat.le_trans G20.size lo49
       replace lo49 := Nat.le_trans FR.size lo49
       replace FR := FR.tr0 f24
       replace G20 := G20.tr0 f24
       replace hb := f24.blk0 hb
       replace h := h.fr0 f24
       replace hi27 := Nat.lt_of_lt_of_le hi27 f24.size
       replace hi32 := Nat.lt_of_lt_of_le hi32 f24.size
       replace ho := ownsRow_fr ho f24 (by intro i hi hv'; simp at hi)
       replace hEc := Nat.le_trans hEc f24.size
       refine DL.appendRow (v := v) (css := (dv (wholeD d ++ [46] ++ (if i = 0 then [] else [48 + dg d (d.length - 1)]))).map fun x => #[x]) (cl := fun _ => #[.int .u8 ((48 + dg d (d.length - 1) : Nat) : Int)]) rfl rfl F.el107 rfl rfl (by rw [flatC_one]; exact ho) (fun i hi => ⟨b49, 0, rfl, (by obtain rfl : i = 0 := by { omega }; exact CellsAt.ofBlk hb49), rfl, by simp [Value.oneCell']⟩) (by omega) (by omega) (by omega) ?_
       intro v3 w25 f26 ho1 hat1
       have hsu : Sub (ownL v3) (ownL (v)) w23 := own_sub hat1
       have xFR' := xFR.step FR.size hsu
       replace FR := FR.put f26 xFR
       replace xFR := xFR'
       have xG20' := xG20.step G20.size hsu
       replace G20 := G20.put f26 xG20
       replace xG20 := xG20'
       have nx_c' := hsu.not nx_c (lt_of_blk hb)
       replace hb := f26.blk hb nx_c
       replace nx_c := nx_c'
       have nx_h' := fun i (hi : i ∈ _) => Sub.not hsu (nx_h i hi) (Dm.ge h i hi).2
       replace h := Dm.fr h f26 (fun i hi hm => nx_h i hm hi)
       replace nx_h := nx_h'
       replace hi27 := Nat.lt_of_lt_of_le hi27 f26.size
       replace hi32 := Nat.lt_of_lt_of_le hi32 f26.size
       replace hEc := Nat.le_trans hEc f26.size
       rw [flatC_append, flatC_one] at ho1
       have hd1 : flatC ((List.range 1).map fun _ => #[Value.int .u8 ((48 + dg d (d.length - 1) : Nat) : Int)]) = dv [48 + dg d (d.length - 1)] := rfl
       rw [hd1, ← dv_append] at ho1
       replace ho := ho1
       refine DL.y rfl rfl (Y.assign) ?_
       refine DL.nil ?_
       show DC _ _ _ _ _ _
       refine DC.region ?_
       refine DL.y rfl rfl (Y.move) ?_
       refine DL.y rfl rfl (Y.addI (c := ((i + 1 : Nat) : Int)) rfl rfl (by omega) (by omega) (by omega)) ?_
       refine DL.y rfl rfl (Y.assign) ?_
       refine DL.nil ?_
       obtain rfl : i = 0 := by omega
       refine ⟨(1, v3), ⟨G20, by omega, xG20, by omega, ?_⟩, by show 1 - 1 < 1 - 0; omega, rfl, rfl⟩
       simpa using ho
      ·refine DL.nil ?_
       show DC _ _ _ _ _ _
       refine DC.condF rfl ?_
       refine DC.exit ?_
       show DC _ _ _ _ _ _
       refine DC.seq ?_
       refine DC.region ?_
       refine DL.y rfl rfl (Y.move) ?_
       obtain rfl : i = 1 := by omega
       have hot : World.ownsRow w18 E0 5 1 v (N2 + 1) ((textD d |>.map UInt8.ofNat).map fun c => Value.int .u8 (c.toNat : Int)) := by rw [← dv_bytes _ (textD_lt hd)]; simpa [textD] using ho
       refine DL.y rfl rfl (Y.bytesStr Tryz.underlying107 Tryz.underlying5 Tryz.underlying9 rfl hot) ?_
       refine DL.y rfl rfl (Y.assign) ?_
       refine DL.nil ?_
       show DC _ _ _ _ _ _
       refine DC.ret ?_
       exact FinQ.ret1 rfl (Ret.mk FR ⟨_, rfl, rfl⟩)
    ·exfalso; omega
   ·refine DL.nil ?_
    show DC _ _ _ _ _ _
    refine DC.condF rfl ?_
    refine DC.skip ?_
    show DC _ _ _ _ _ _
    refine DC.seq ?_
    refine DC.seq ?_
    refine DC.region ?_
    refine DL.y rfl rfl (Y.move) ?_
    refine DL.if rfl rfl (Y.gt rfl rfl) (fun c30 => ?_) (fun c30 => ?_)
    ·refine DL.nil ?_
     show DC _ _ _ _ _ _
     refine DC.condT rfl ?_
     refine DC.seq ?_
     refine DC.region ?_
     refine DL.y rfl rfl (Y.move) ?_
     refine DL.buildSl1 rfl rfl (F.el107) rfl rfl rfl ?_
     intro b32 w27 f28 lo32 hi32 hb32
     have le_E0_b32 : E0 ≤ b32 := Nat.le_trans hEc lo32
     replace lo32 := Nat.le_trans FR.size lo32
     replace FR := FR.tr0 f28
     replace hb := f28.blk0 hb
     replace hEc := Nat.le_trans hEc f28.size
     replace h := h.fr0 f28
     replace ho := ownsRow_fr ho f28 (by intro i hi hv'; simp at hi)
     have hwd : dv ((d.take i).map fun x => 48 + x) = dv (wholeD d) := by rw [show wholeD d = (d.take i).map fun x => 48 + x by unfold wholeD; rw [if_neg (by omega), show d.length - 1 = i by omega]]
     rw [hwd] at ho
     refine DL.appendRow (v := (.slice a1 i cap1)) (css := (dv (wholeD d)).map fun x => #[x]) (cl := fun _ => #[.int .u8 ((46 : Nat) : Int)]) rfl rfl F.el107 rfl rfl (by rw [flatC_one]; exact ho) (fun ib hib => ⟨b32, 0, rfl, (by obtain rfl : ib = 0 := by { omega }; exact CellsAt.ofBlk hb32), rfl, by simp [Value.oneCell']⟩) (by omega) (by omega) (by omega) ?_
     intro v5 w29 f30 ho1 hat1
     have hlo : ∀ ib ∈ ownL ((.slice a1 i cap1)), E0 ≤ ib := fun ib hib => (own_ge ho ib hib).1
     replace FR := FR.put f30 (fun ib hib => Or.inr (by have := hlo ib hib; omega))
     replace hb := f30.blk hb (fun hm => by have := hlo _ hm; omega)
     replace hEc := Nat.le_trans hEc f30.size
     replace h := h.fr f30 (fun ib hib hm => by have := hlo _ hib; have := hXE ib hm; omega)
     replace hi32 := Nat.lt_of_lt_of_le hi32 f30.size
     rw [flatC_append, flatC_one] at ho1
     have hd1 : flatC ((List.range 1).map fun _ => #[Value.int .u8 ((46 : Nat) : Int)]) = dv [46] := rfl
     rw [hd1, ← dv_append] at ho1
     replace ho := ho1
     have hoW : World.ownsRow w29 E0 5 1 v5 (wholeD d ++ [46]).length (dv (wholeD d ++ [46])) := by have e : (wholeD d ++ [46]).length = i + 1 := by { unfold wholeD; split <;> simp <;> (first | done | omega) }; rw [e]; exact ho
     refine DL.y rfl rfl (Y.assign) ?_
     refine DL.nil ?_
     show DC _ _ _ _ _ _
     refine DC.seq ?_
     refine DC.region ?_
     refine DL.y rfl rfl (Y.assign) ?_
     refine DL.nil ?_
     show DC _ _ _ _ _ _
     refine DC.block ?_
     obtain ⟨v2, hv2⟩ : ∃ v2, v2 = v5 := ⟨_, rfl⟩
     obtain ⟨N2, hN2⟩ : ∃ N2, N2 = (wholeD d ++ [46]).length := ⟨_, rfl⟩
     have ho2 : World.ownsRow w29 E0 5 1 v2 N2 (dv (wholeD d ++ [46])) := by rw [hv2, hN2]; exact hoW
     have xFR : Sub (ownL v2) [] w := fun i hi => Or.inr (by have := (own_ge ho2 i hi).1; omega)
     have nx_c : c ∉ ownL v2 := own_ne_c ho2 hb
     have nx_h : ∀ i ∈ (c :: ownL (Value.slice a d.length cap)), i ∉ ownL v2 := fun i hi hm => by have := (own_ge ho2 i hm).1; have := hXE i hi; omega
     have hN2b : N2 ≤ 2000 := by rw [hN2]; unfold wholeD; split <;> simp <;> omega
     refine DC.loopE (σ := Nat × Value) [(5, 5), (7, 7), (34, 50)] [(0, (.pointer (some ⟨c, 0, none⟩))), (1, .int .i64 1)] (fun (i, v) => [(5, v), (7, .int .i64 (i : Int))]) (fun sg wl => Fr (ownL v2) w29 wl ∧ (fun (i, v) wl => i ≤ 1 ∧ Sub (ownL v) (ownL v2) w29 ∧ E0 ≤ wl.heap.size ∧ wl.ownsRow E0 5 1 v (N2 + i) (dv (wholeD d ++ [46] ++ (if i = 0 then [] else [48 + dg d (d.length - 1)])))) sg wl) (fun (i, _) => 1 - i) ((0, v2)) rfl ?_ ?_ ?_ ?_
     ·exact ⟨rfl, rfl⟩
     ·exact ⟨by rw [hv2]; rfl, rfl⟩
     ·exact ⟨Fr.refl _ _, by omega, Sub.refl _ _, hEc, by simpa using ho2⟩
     ·rintro e0 ⟨i, v⟩ j w31 ⟨f32, hi1, hsl, hEw, ho⟩
      have xFR' := xFR.step FR.size hsl
      replace FR := FR.put f32 xFR
      replace xFR := xFR'
      have nx_c' := hsl.not nx_c (lt_of_blk hb)
      replace hb := f32.blk hb nx_c
      replace nx_c := nx_c'
      have nx_h' := fun i (hi : i ∈ _) => Sub.not hsl (nx_h i hi) (Dm.ge h i hi).2
      replace h := Dm.fr h f32 (fun i hi hm => nx_h i hm hi)
      replace nx_h := nx_h'
      replace hi32 := Nat.lt_of_lt_of_le hi32 f32.size
      have G33 := f32
      have xG33 := hsl
      replace hEc := hEw
      refine DC.seq ?_
      refine DC.seq ?_
      refine DC.region ?_
      refine DL.y rfl rfl (Y.move) ?_
      refine DL.y rfl rfl (Y.move) ?_
      refine DL.if rfl rfl (Y.lt rfl rfl) (fun c36 => ?_) (fun c36 => ?_)
      ·refine DL.nil ?_
       show DC _ _ _ _ _ _
       refine DC.condT rfl ?_
       refine DC.skip ?_
       show DC _ _ _ _ _ _
       refine DC.seq ?_
       refine DC.block ?_
       refine DC.region ?_
       refine DL.y rfl rfl (Y.move) ?_
       refine DL.y rfl rfl (Y.move) ?_
       refine DL.y rfl rfl (Y.move) ?_
       refine DL.y rfl rfl (Y.nil rfl) ?_
       refine DL.y rfl rfl (Y.field F.fd242_1 rfl) ?_
       refine DL.y rfl rfl (Y.loadB F.sc3 rfl hb rfl) ?_
       refine DL.y rfl rfl (Y.move) ?_
       refine DL.y rfl rfl (Y.addI (c := ((d.length - 1 : Nat) : Int)) rfl rfl (by omega) (by omega) (by omega)) ?_
       refine DL.call rfl rfl F.nm240 rfl (digit_any h) ?_
       rintro _ w34 f35 rfl
       replace FR := FR.tr0 f35
       replace G33 := G33.tr0 f35
       replace hb := f35.blk0 hb
       replace h := h.fr0 f35
       replace hi32 := Nat.lt_of_lt_of_le hi32 f35.size
       replace ho := ownsRow_fr ho f35 (by intro i hi hv'; simp at hi)
       replace hEc := Nat.le_trans hEc f35.size
       refine DL.y rfl rfl (Y.addC (c := ((48 + dg d (d.length - 1) : Nat) : Int)) rfl rfl (by have := hd (d.length - 1); rw [show (48 : Int) + ((dg d (d.length - 1) : Nat) : Int) = ((48 + dg d (d.length - 1) : Nat) : Int) by omega]; exact wrap_u8 (by omega))) ?_
       refine DL.buildSl1 rfl rfl (F.el107) rfl rfl rfl ?_
       intro b49 w36 f37 lo49 hi49 hb49
       have lt_b32_b49 : b32 < b49 := Nat.lt_of_lt_of_le hi32 lo49
       have le_E0_b49 : E0 ≤ b49 := Nat.le_trans hEc lo49
       have lo49G33 := Nat.le_trans G33.size lo49
       replace lo49 := Nat.le_trans FR.size lo49
       replace FR := FR.tr0 f37
       replace G33 := G33.tr0 f37
       replace hb := f37.blk0 hb
       replace h := h.fr0 f37
       replace hi32 := Nat.lt_of_lt_of_le hi32 f37.size
       replace ho := ownsRow_fr ho f37 (by intro i hi hv'; simp at hi)
       replace hEc := Nat.le_trans hEc f37.size
       refine DL.appendRow (v := v) (css := (dv (wholeD d ++ [46] ++ (if i = 0 then [] else [48 + dg d (d.length - 1)]))).map fun x => #[x]) (cl := fun _ => #[.int .u8 ((48 + dg d (d.length - 1) : Nat) : Int)]) rfl rfl F.el107 rfl rfl (by rw [flatC_one]; exact ho) (fun i hi => ⟨b49, 0, rfl, (by obtain rfl : i = 0 := by { omega }; exact CellsAt.ofBlk hb49), rfl, by simp [Value.oneCell']⟩) (by omega) (by omega) (by omega) ?_
       intro v3 w38 f39 ho1 hat1
       have hsu : Sub (ownL v3) (ownL (v)) w36 := own_sub hat1
       have xFR' := xFR.step FR.size hsu
       replace FR := FR.put f39 xFR
       replace xFR := xFR'
       have xG33' := xG33.step G33.size hsu
       replace G33 := G33.put f39 xG33
       replace xG33 := xG33'
       have nx_c' := hsu.not nx_c (lt_of_blk hb)
       replace hb := f39.blk hb nx_c
       replace nx_c := nx_c'
       have nx_h' := fun i (hi : i ∈ _) => Sub.not hsu (nx_h i hi) (Dm.ge h i hi).2
       replace h := Dm.fr h f39 (fun i hi hm => nx_h i hm hi)
       replace nx_h := nx_h'
       replace hi32 := Nat.lt_of_lt_of_le hi32 f39.size
       replace hEc := Nat.le_trans hEc f39.size
       rw [flatC_append, flatC_one] at ho1
       have hd1 : flatC ((List.range 1).map fun _ => #[Value.int .u8 ((48 + dg d (d.length - 1) : Nat) : Int)]) = dv [48 + dg d (d.length - 1)] := rfl
       rw [hd1, ← dv_append] at ho1
       replace ho := ho1
       refine DL.y rfl rfl (Y.assign) ?_
       refine DL.nil ?_
       show DC _ _ _ _ _ _
       refine DC.region ?_
       refine DL.y rfl rfl (Y.move) ?_
       refine DL.y rfl rfl (Y.addI (c := ((i + 1 : Nat) : Int)) rfl rfl (by omega) (by omega) (by omega)) ?_
       refine DL.y rfl rfl (Y.assign) ?_
       refine DL.nil ?_
       obtain rfl : i = 0 := by omega
       refine ⟨(1, v3), ⟨G33, by omega, xG33, by omega, ?_⟩, by show 1 - 1 < 1 - 0; omega, rfl, rfl⟩
       simpa using ho
      ·refine DL.nil ?_
       show DC _ _ _ _ _ _
       refine DC.condF rfl ?_
       refine DC.exit ?_
       show DC _ _ _ _ _ _
       refine DC.seq ?_
       refine DC.region ?_
       refine DL.y rfl rfl (Y.move) ?_
       obtain rfl : i = 1 := by omega
       have hot : World.ownsRow w31 E0 5 1 v (N2 + 1) ((textD d |>.map UInt8.ofNat).map fun c => Value.int .u8 (c.toNat : Int)) := by rw [← dv_bytes _ (textD_lt hd)]; simpa [textD] using ho
       refine DL.y rfl rfl (Y.bytesStr Tryz.underlying107 Tryz.underlying5 Tryz.underlying9 rfl hot) ?_
       refine DL.y rfl rfl (Y.assign) ?_
       refine DL.nil ?_
       show DC _ _ _ _ _ _
       refine DC.ret ?_
       exact FinQ.ret1 rfl (Ret.mk FR ⟨_, rfl, rfl⟩)
    ·exfalso; omega

end Go.Proofs.YtmbleojlnaofjaaGreatDoor

