/- Own texts, merged: DEC, O12, O13, Enc1, Dec1, Dec2. -/
import Derived.Test.YtmbleojlnaofjaaGreatDoorMt04
import Derived.Test.YtmbleojlnaofjaaGreatDoorMt05
import Derived.Laws.MakeOwn
import Derived.Test.YtmbleojlnaofjaaGreatDoorMt02
/- Decimal numbers as digits and a place: what halving, cutting and rounding up make of them; no program in sight. -/
namespace Go.Proofs.YtmbleojlnaofjaaGreatDoor
set_option linter.unusedVariables false
set_option linter.unusedSimpArgs false
def dg (d : List Nat) (i : Nat) : Nat := d.getD i 0
def pre (d : List Nat) : Nat → Nat
  | 0 => 0
  | i + 1 => 10 * pre d i + dg d i
def val (d : List Nat) : Nat := pre d d.length
theorem dg_lt {d : List Nat} {i : Nat} (h : i < d.length) : dg d i = d[i] := by simp [dg, List.getD_eq_getElem?_getD, h]
theorem dg_ge {d : List Nat} {i : Nat} (h : d.length ≤ i) : dg d i = 0 := by simp [dg, List.getD_eq_getElem?_getD, List.getElem?_eq_none h]
theorem dg_left {a b : List Nat} {i : Nat} (h : i < a.length) : dg (a ++ b) i = dg a i := by simp [dg, List.getD_eq_getElem?_getD, List.getElem?_append_left h]
theorem dg_right {a b : List Nat} {i : Nat} : dg (a ++ b) (a.length + i) = dg b i := by simp [dg, List.getD_eq_getElem?_getD, List.getElem?_append_right]
theorem dg_take {d : List Nat} {n i : Nat} (h : i < n) : dg (d.take n) i = dg d i := by
  simp only [dg, List.getD_eq_getElem?_getD, List.getElem?_take, if_pos h]
theorem pre_congr {d e : List Nat} : ∀ n, (∀ i, i < n → dg d i = dg e i) → pre d n = pre e n
  | 0, _ => rfl
  | n + 1, h => by simp only [pre]; rw [pre_congr n (fun i hi => h i (by omega)), h n (by omega)]
theorem val_snoc (d : List Nat) (x : Nat) : val (d ++ [x]) = 10 * val d + x := by
  have h1 : pre (d ++ [x]) d.length = pre d d.length := pre_congr _ (fun i hi => dg_left hi)
  have h2 : dg (d ++ [x]) d.length = x := by simp [dg]
  simp only [val, List.length_append, List.length_singleton, pre, h1, h2]
theorem pre_ge {d : List Nat} : ∀ k, pre d (d.length + k) = val d * 10 ^ k
  | 0 => by simp [val]
  | k + 1 => by
    have := pre_ge (d := d) k
    rw [← Nat.add_assoc]
    simp only [pre]
    rw [this, dg_ge (by omega), Nat.pow_succ]; simp [Nat.mul_comm, Nat.mul_assoc, Nat.mul_left_comm]
theorem pre_ge' {d : List Nat} {i : Nat} (h : d.length ≤ i) : pre d i = val d * 10 ^ (i - d.length) := by
  have := pre_ge (d := d) (i - d.length)
  rwa [show d.length + (i - d.length) = i by omega] at this
theorem val_zeros (t : List Nat) : ∀ k, val (t ++ List.replicate k 0) = val t * 10 ^ k
  | 0 => by simp
  | k + 1 => by
    rw [List.replicate_succ', ← List.append_assoc, val_snoc, val_zeros t k, Nat.pow_succ]; simp [Nat.mul_comm, Nat.mul_assoc, Nat.mul_left_comm]
theorem val_take {d : List Nat} {n : Nat} (h : n ≤ d.length) : val (d.take n) = pre d n := by
  have e : (d.take n).length = n := by rw [List.length_take]; omega
  unfold val
  rw [e]
  exact pre_congr n (fun i hi => dg_take hi)
theorem pre_lt {d : List Nat} (hd : ∀ i, dg d i < 10) : ∀ n, pre d n < 10 ^ n
  | 0 => by simp [pre]
  | n + 1 => by have := pre_lt hd n; have := hd n; simp only [pre, Nat.pow_succ]; omega
theorem pre_pos {d : List Nat} (hd : dg d 0 ≠ 0) : ∀ n, 10 ^ n ≤ pre d (n + 1)
  | 0 => by simp [pre]; omega
  | n + 1 => by have := pre_pos hd n; rw [pre, Nat.pow_succ]; omega
theorem pre_mono {x y : List Nat} (hx : ∀ i, dg x i < 10) {i : Nat} (h : pre x i < pre y i) : ∀ m, pre x (i + m) < pre y (i + m)
  | 0 => h
  | m + 1 => by have h1 := pre_mono hx h m; have := hx (i + m); rw [← Nat.add_assoc]; simp only [pre]; omega
theorem pre_between {d : List Nat} (hd : ∀ i, dg d i < 10) (n : Nat) : ∀ m, pre d n * 10 ^ m ≤ pre d (n + m) ∧ pre d (n + m) < (pre d n + 1) * 10 ^ m
  | 0 => by simp
  | m + 1 => by
    obtain ⟨h1, h2⟩ := pre_between hd n m
    have := hd (n + m)
    rw [← Nat.add_assoc]
    simp only [pre, Nat.pow_succ]
    rw [← Nat.mul_assoc, ← Nat.mul_assoc]
    omega
structure Canon (d : List Nat) : Prop where
  lt : ∀ i, dg d i < 10
  first : dg d 0 ≠ 0
  last : dg d (d.length - 1) ≠ 0
theorem Canon.pos {d : List Nat} (h : Canon d) : 1 ≤ d.length := by
  rcases Nat.eq_zero_or_pos d.length with h0 | h0
  · exact absurd (dg_ge (by omega)) h.first
  · exact h0
theorem Canon.ne {d : List Nat} (h : Canon d) : d ≠ [] := fun e => by have := h.pos; rw [e] at this; simp at this
theorem val_mod {d : List Nat} {m : Nat} (h : d.length = m + 1) : val d = 10 * pre d m + dg d m := by unfold val; rw [h, pre]
theorem Canon.not10 {d : List Nat} (h : Canon d) : val d % 10 ≠ 0 := by
  have hp := h.pos
  obtain ⟨m, hm⟩ : ∃ m, d.length = m + 1 := ⟨d.length - 1, by omega⟩
  have h1 := h.last
  rw [hm, Nat.add_sub_cancel] at h1
  have h2 := h.lt m
  rw [val_mod hm]; omega
theorem Canon.lo {d : List Nat} (h : Canon d) : 10 ^ (d.length - 1) ≤ val d := by
  have hp := h.pos
  have := pre_pos h.first (d.length - 1)
  unfold val
  rwa [show d.length - 1 + 1 = d.length by omega] at this
theorem Canon.hi {d : List Nat} (h : Canon d) : val d < 10 ^ d.length := pre_lt h.lt _
/-- d at the place dp is X / 10^e. -/
structure Dv (d : List Nat) (dp : Int) (X e : Nat) : Prop where
  canon : Canon d
  eq : ∃ j : Nat, dp = (d.length : Int) + j - e ∧ val d * 10 ^ j = X
theorem pow10_cancel {v a b Y : Nat} (hv : v % 10 ≠ 0) (h : v * 10 ^ a = Y * 10 ^ b) : b ≤ a ∧ v * 10 ^ (a - b) = Y := by
  have hle : b ≤ a := by
    rcases Nat.lt_or_ge a b with hlt | hge
    · exfalso
      obtain ⟨c, rfl⟩ : ∃ c, b = a + 1 + c := ⟨b - a - 1, by omega⟩
      have e1 : Y * 10 ^ (a + 1 + c) = (Y * 10 ^ c * 10) * 10 ^ a := by rw [Nat.pow_add, Nat.pow_add]; simp [Nat.mul_comm, Nat.mul_assoc, Nat.mul_left_comm]
      rw [e1] at h
      have := Nat.eq_of_mul_eq_mul_right (Nat.pow_pos (by decide)) h
      omega
    · exact hge
  refine ⟨hle, ?_⟩
  have e1 : v * 10 ^ a = (v * 10 ^ (a - b)) * 10 ^ b := by rw [Nat.mul_assoc, ← Nat.pow_add, Nat.sub_add_cancel hle]
  rw [e1] at h
  exact Nat.eq_of_mul_eq_mul_right (Nat.pow_pos (by decide)) h
theorem Dv.scale {d : List Nat} {dp : Int} {X e X' e' a b : Nat} (h : Dv d dp X e) (hx : X * 10 ^ a = X' * 10 ^ b) (he : e + a = e' + b) : Dv d dp X' e' := by
  obtain ⟨j, h1, h2⟩ := h.eq
  have h3 : val d * 10 ^ (j + a) = X' * 10 ^ b := by rw [Nat.pow_add, ← Nat.mul_assoc, h2, hx]
  obtain ⟨h4, h5⟩ := pow10_cancel h.canon.not10 h3
  exact ⟨h.canon, j + a - b, by omega, h5⟩
def Gt (x : List Nat) (px : Int) (y : List Nat) (py : Int) : Prop := x ≠ [] ∧ (y = [] ∨ py < px ∨ (px = py ∧ ∃ m, pre y m < pre x m))
theorem Dv.gt {x y : List Nat} {px py : Int} {X Y e e' : Nat} (hx : Dv x px X e) (hy : Dv y py Y e') (h : Y * 10 ^ e < X * 10 ^ e') : Gt x px y py := by
  obtain ⟨j, h1, h2⟩ := hx.eq
  obtain ⟨q, h3, h4⟩ := hy.eq
  refine ⟨hx.canon.ne, Or.inr ?_⟩
  have xl := hx.canon.lo; have xh := hx.canon.hi; have yl := hy.canon.lo; have yh := hy.canon.hi
  have yp := hy.canon.pos; have xp := hx.canon.pos
  subst h2; subst h4
  have hle : py ≤ px := by
    rcases (by omega : px < py ∨ py ≤ px) with hlt | hle
    · exfalso
      have a1 : val x * 10 ^ j * 10 ^ e' < 10 ^ x.length * 10 ^ j * 10 ^ e' := Nat.mul_lt_mul_of_pos_right (Nat.mul_lt_mul_of_pos_right xh (Nat.pow_pos (by decide))) (Nat.pow_pos (by decide))
      have a2 : 10 ^ (y.length - 1) * 10 ^ q * 10 ^ e ≤ val y * 10 ^ q * 10 ^ e := Nat.mul_le_mul_right _ (Nat.mul_le_mul_right _ yl)
      rw [← Nat.pow_add, ← Nat.pow_add] at a1 a2
      have a3 : 10 ^ (x.length + j + e') ≤ 10 ^ (y.length - 1 + q + e) := Nat.pow_le_pow_right (by decide) (by omega)
      omega
    · exact hle
  rcases (by omega : py < px ∨ px = py) with h5 | h5
  · exact Or.inl h5
  · refine Or.inr ⟨h5, x.length + y.length, ?_⟩
    rw [pre_ge, Nat.add_comm x.length y.length, pre_ge]
    have hs : x.length + j + e' = y.length + q + e := by omega
    have hP : 0 < 10 ^ (x.length + y.length) := Nat.pow_pos (by decide)
    have b1 := Nat.mul_lt_mul_of_pos_right h hP
    have e1 : val y * 10 ^ q * 10 ^ e * 10 ^ (x.length + y.length) = val y * 10 ^ x.length * 10 ^ (y.length + q + e) := by
      rw [show val y * 10 ^ q * 10 ^ e * 10 ^ (x.length + y.length) = val y * (10 ^ q * 10 ^ e * 10 ^ (x.length + y.length)) by simp [Nat.mul_assoc], show val y * 10 ^ x.length * 10 ^ (y.length + q + e) = val y * (10 ^ x.length * 10 ^ (y.length + q + e)) by simp [Nat.mul_assoc]]
      rw [← Nat.pow_add, ← Nat.pow_add, ← Nat.pow_add]
      congr 2; omega
    have e2 : val x * 10 ^ j * 10 ^ e' * 10 ^ (x.length + y.length) = val x * 10 ^ y.length * 10 ^ (y.length + q + e) := by
      rw [show val x * 10 ^ j * 10 ^ e' * 10 ^ (x.length + y.length) = val x * (10 ^ j * 10 ^ e' * 10 ^ (x.length + y.length)) by simp [Nat.mul_assoc], show val x * 10 ^ y.length * 10 ^ (y.length + q + e) = val x * (10 ^ y.length * 10 ^ (y.length + q + e)) by simp [Nat.mul_assoc]]
      rw [← Nat.pow_add, ← Nat.pow_add, ← Nat.pow_add]
      congr 2; omega
    rw [e1, e2] at b1
    exact Nat.lt_of_mul_lt_mul_right b1
/-- The zeros at a row's end are cut off. -/
structure Cut (o t : List Nat) (z : Nat) : Prop where
  eq : o = t ++ List.replicate z 0
  last : t ≠ [] → dg t (t.length - 1) ≠ 0
theorem Cut.canon {o t : List Nat} {z : Nat} (h : Cut o t z) (hl : ∀ i, dg o i < 10) (hf : dg o 0 ≠ 0) : Canon t := by
  have hne : t ≠ [] := fun e => by
    have := h.eq; rw [e, List.nil_append] at this
    rw [this] at hf
    exact hf (by cases z <;> simp [dg, List.replicate_succ])
  have hp : 0 < t.length := List.length_pos_iff.2 hne
  refine ⟨fun i => ?_, ?_, h.last hne⟩
  · rcases Nat.lt_or_ge i t.length with hi | hi
    · rw [← dg_left (b := List.replicate z 0) hi, ← h.eq]; exact hl i
    · rw [dg_ge hi]; decide
  · rw [← dg_left (b := List.replicate z 0) hp, ← h.eq]; exact hf
theorem Cut.val {o t : List Nat} {z : Nat} (h : Cut o t z) : val o = val t * 10 ^ z := by rw [h.eq, val_zeros]
theorem Cut.len {o t : List Nat} {z : Nat} (h : Cut o t z) : o.length = t.length + z := by rw [h.eq]; simp
theorem half_fin {d o t : List Nat} {dp : Int} {X e k i i0 z : Nat} (h : Dv d dp X e) (heq : pre d i = val o * 10 * 2 ^ k) (hlen : o.length + i0 = i) (hi : d.length ≤ i) (hl : ∀ i, dg o i < 10) (hf : dg o 0 ≠ 0) (hc : Cut o t z) : Dv t (dp - ((i0 : Int) - 1)) (X * 5 ^ k) (e + k) := by
  obtain ⟨j, h1, h2⟩ := h.eq
  have hcan := hc.canon hl hf
  rw [pre_ge' hi, hc.val] at heq
  have h3 : val t * 10 ^ (z + 1 + k + j) = X * 5 ^ k * 10 ^ (i - d.length) := by
    have e1 : val t * 10 ^ (z + 1 + k + j) = (val t * 10 ^ z * 10 * 2 ^ k) * (5 ^ k * 10 ^ j) := by
      rw [Nat.pow_add, Nat.pow_add, Nat.pow_add, show (10 : Nat) ^ k = 2 ^ k * 5 ^ k by rw [← Nat.mul_pow]]
      simp [Nat.mul_comm, Nat.mul_assoc, Nat.mul_left_comm]
    rw [e1, ← heq, ← h2]
    simp [Nat.mul_comm, Nat.mul_assoc, Nat.mul_left_comm]
  obtain ⟨h4, h5⟩ := pow10_cancel hcan.not10 h3
  have := hc.len
  exact ⟨hcan, z + 1 + k + j - (i - d.length), by omega, h5⟩
/-! ### Digits of numbers -/
def digL (n : Nat) : List Nat := (decL n).map fun c => c.toNat - 48
theorem ofNat_dig {d : Nat} (h : d < 10) : (UInt8.ofNat (48 + d)).toNat - 48 = d := by rw [UInt8.toNat_ofNat']; omega
theorem digL_lt {n : Nat} (h : n < 10) : digL n = [n] := by simp only [digL, decL_lt h, List.map_cons, List.map_nil, ofNat_dig h]
theorem digL_ge {n : Nat} (h : 10 ≤ n) : digL n = digL (n / 10) ++ [n % 10] := by
  simp only [digL, decL_ge h, List.map_append, List.map_cons, List.map_nil, ofNat_dig (Nat.mod_lt n (by decide : 0 < 10))]
theorem val_one (x : Nat) : val [x] = x := by simp [val, pre, dg]
theorem digL_val : ∀ (k n : Nat), n < 10 ^ (k + 1) → val (digL n) = n
  | k, n, hk => by
    by_cases h : n < 10
    · rw [digL_lt h, val_one]
    · cases k with
      | zero => simp at hk; omega
      | succ k =>
        rw [digL_ge (by omega), val_snoc, digL_val k (n / 10) (by rw [Nat.pow_succ] at hk; omega)]; omega
theorem digL_ne (n : Nat) : 1 ≤ (digL n).length := by
  by_cases h : n < 10
  · rw [digL_lt h]; simp
  · rw [digL_ge (by omega)]; simp
theorem digL_ok : ∀ (k n : Nat), n < 10 ^ (k + 1) → (∀ i, dg (digL n) i < 10) ∧ (0 < n → dg (digL n) 0 ≠ 0)
  | k, n, hk => by
    by_cases h : n < 10
    · rw [digL_lt h]
      refine ⟨fun i => ?_, fun h0 => by simp [dg]; omega⟩
      cases i with
      | zero => simpa [dg] using h
      | succ i => rw [dg_ge (by simp)]; decide
    · cases k with
      | zero => simp at hk; omega
      | succ k =>
        obtain ⟨h1, h2⟩ := digL_ok k (n / 10) (by rw [Nat.pow_succ] at hk; omega)
        rw [digL_ge (by omega)]
        refine ⟨fun i => ?_, fun h0 => ?_⟩
        · rcases Nat.lt_or_ge i (digL (n / 10)).length with hi | hi
          · rw [dg_left hi]; exact h1 i
          · obtain ⟨q, rfl⟩ : ∃ q, i = (digL (n / 10)).length + q := ⟨i - (digL (n / 10)).length, by omega⟩
            rw [dg_right]
            cases q with
            | zero => simp [dg]; omega
            | succ q => rw [dg_ge (by simp)]; decide
        · rw [dg_left (by have := digL_ne (n / 10); omega)]; exact h2 (by omega)
theorem new_fin {n k z : Nat} {t : List Nat} (h0 : 0 < n) (hk : n < 10 ^ (k + 1)) (hc : Cut (digL n) t z) : Dv t ((digL n).length : Int) n 0 := by
  obtain ⟨h1, h2⟩ := digL_ok k n hk
  have hcan := hc.canon h1 (h2 h0)
  have := hc.len
  exact ⟨hcan, z, by omega, by rw [← hc.val, digL_val k n hk]⟩
/-- Digits back to a text. -/
theorem decL_digits : ∀ (d : List Nat), (∀ i, dg d i < 10) → dg d 0 ≠ 0 → decL (val d) = d.map fun x => UInt8.ofNat (48 + x) := by
  intro d
  induction hn : d.length generalizing d with
  | zero => intro _ h0; exact absurd (dg_ge (by omega)) h0
  | succ m ih =>
    intro hl h0
    have hd : d = d.take m ++ [dg d m] := by
      have h1 : m < d.length := by omega
      rw [dg_lt h1, List.take_append_getElem h1, List.take_of_length_le (by omega)]
    have hlen : (d.take m).length = m := by rw [List.length_take]; omega
    rw [hd, val_snoc, List.map_append]
    by_cases hm : m = 0
    · subst hm
      simp only [List.take_zero, List.map_nil, List.nil_append, List.map_cons]
      have : val [] = 0 := rfl
      rw [this, decL_lt (by have := hl 0; omega)]; simp
    · have h2 := ih (d.take m) hlen (fun i => by
        rcases Nat.lt_or_ge i m with hi | hi
        · rw [dg_take hi]; exact hl i
        · rw [dg_ge (by omega)]; decide) (by rw [dg_take (by omega)]; exact h0)
      have h3 := hl m
      have hpos : 1 ≤ val (d.take m) := by
        rw [val_take (by omega)]
        have := pre_pos h0 (m - 1)
        rw [show m - 1 + 1 = m by omega] at this
        exact Nat.le_trans (Nat.pow_pos (by decide)) this
      rw [decL_ge (by omega), show (10 * val (d.take m) + dg d m) / 10 = val (d.take m) by omega, show (10 * val (d.take m) + dg d m) % 10 = dg d m by omega, h2]; simp
/-! ### A half, cut and rounded -/
section
variable {a : List Nat} {h : Nat}
/-- The digits of an odd number's half. -/
structure Half (a : List Nat) (dp : Int) (h : Nat) : Prop where
  canon : Canon a
  dp : dp = (a.length : Int) - 1
  val : val a = 5 * h
  odd : h % 2 = 1
theorem half_of {a : List Nat} {dp : Int} {h : Nat} (D : Dv a dp (5 * h) 1) (ho : h % 2 = 1) : Half a dp h := by
  obtain ⟨j, h1, h2⟩ := D.eq
  have hj : j = 0 := by
    cases j with
    | zero => rfl
    | succ j =>
      exfalso
      rw [Nat.pow_succ, ← Nat.mul_assoc] at h2; omega
  subst hj
  exact ⟨D.canon, by omega, by simpa using h2, ho⟩
theorem Half.split {dp : Int} (H : Half a dp h) {n : Nat} (hn : n < a.length) : pre a n * 10 ^ (a.length - n) + 5 ≤ 5 * h ∧ 5 * h + 5 ≤ (pre a n + 1) * 10 ^ (a.length - n) := by
  have hb := pre_between H.canon.lt n (a.length - n)
  rw [show n + (a.length - n) = a.length by omega] at hb
  have hv : pre a a.length = 5 * h := H.val
  rw [hv] at hb
  have ho := H.odd
  obtain ⟨c, hc⟩ : ∃ c, a.length - n = c + 1 := ⟨a.length - n - 1, by omega⟩
  rw [hc, Nat.pow_succ, ← Nat.mul_assoc, ← Nat.mul_assoc] at hb ⊢
  omega
theorem Half.down {dp : Int} (H : Half a dp h) {n z : Nat} (hn : n < a.length) (h0 : 1 ≤ n) {t : List Nat} (hc : Cut (a.take n) t z) : Dv t dp (pre a n * 10 ^ (a.length - n)) 1 := by
  have hcan : Canon t := hc.canon (fun i => by
    rcases Nat.lt_or_ge i n with hi | hi
    · rw [dg_take hi]; exact H.canon.lt i
    · rw [dg_ge (by rw [List.length_take]; omega)]; decide) (by rw [dg_take (by omega)]; exact H.canon.first)
  have hl := hc.len
  rw [List.length_take] at hl
  have hv := hc.val
  rw [val_take (by omega)] at hv
  have := H.dp
  exact ⟨hcan, z + (a.length - n), by omega, by rw [hv, Nat.pow_add, Nat.mul_assoc]⟩
theorem up_carry {n i : Nat} (hi : i < n) (h9 : ∀ q, i < q → q < n → dg a q = 9) : (pre a (i + 1) + 1) * 10 ^ (n - 1 - i) = pre a n + 1 := by
  obtain ⟨c, rfl⟩ : ∃ c, n = i + 1 + c := ⟨n - i - 1, by omega⟩
  rw [show i + 1 + c - 1 - i = c by omega]
  induction c with
  | zero => simp
  | succ c ih =>
    have h1 := ih (by omega) (fun q h1 h2 => h9 q h1 (by omega))
    have h2 := h9 (i + 1 + c) (by omega) (by omega)
    rw [← Nat.add_assoc]
    simp only [pre] at h1 ⊢
    rw [h2, Nat.pow_succ, ← Nat.mul_assoc, h1]; omega
theorem up_all {n : Nat} (h9 : ∀ q, q < n → dg a q = 9) : pre a n + 1 = 10 ^ n := by
  induction n with
  | zero => rfl
  | succ n ih =>
    have h1 := ih (fun q hq => h9 q (by omega))
    have h2 := h9 n (by omega)
    simp only [pre, Nat.pow_succ]; omega
theorem Half.up1 {dp : Int} (H : Half a dp h) {n i : Nat} (hn : n < a.length) (hi : i < n) (hd : dg a i < 9) (h9 : ∀ q, i < q → q < n → dg a q = 9) : Dv (a.take i ++ [dg a i + 1]) dp ((pre a n + 1) * 10 ^ (a.length - n)) 1 := by
  have hlen : (a.take i).length = i := by rw [List.length_take]; omega
  have hcan : Canon (a.take i ++ [dg a i + 1]) := by
    refine ⟨fun q => ?_, ?_, ?_⟩
    · rcases Nat.lt_or_ge q i with hq | hq
      · rw [dg_left (by omega), dg_take hq]; exact H.canon.lt q
      · obtain ⟨r, rfl⟩ : ∃ r, q = (a.take i).length + r := ⟨q - i, by omega⟩
        rw [dg_right]
        cases r with
        | zero => simp [dg] at hd ⊢; omega
        | succ r => rw [dg_ge (by simp)]; decide
    · rcases Nat.eq_zero_or_pos i with h0 | h0
      · subst h0; simp [dg]
      · rw [dg_left (by omega), dg_take h0]; exact H.canon.first
    · have e : (a.take i ++ [dg a i + 1]).length - 1 = (a.take i).length + 0 := by simp
      rw [e, dg_right]; simp [dg]
  have hv : Go.Proofs.YtmbleojlnaofjaaGreatDoor.val (a.take i ++ [dg a i + 1]) = pre a (i + 1) + 1 := by rw [val_snoc, val_take (by omega)]; simp only [pre]; omega
  have := H.dp
  refine ⟨hcan, (n - 1 - i) + (a.length - n), ?_, ?_⟩
  · rw [List.length_append, hlen, List.length_singleton]; omega
  · rw [hv, Nat.pow_add, ← Nat.mul_assoc, up_carry hi h9]
theorem Half.up2 {dp : Int} (H : Half a dp h) {n : Nat} (hn : n < a.length) (h9 : ∀ q, q < n → dg a q = 9) : Dv [1] (dp + 1) ((pre a n + 1) * 10 ^ (a.length - n)) 1 := by
  have := H.dp
  refine ⟨⟨fun i => by cases i with
    | zero => simp [dg]
    | succ i => rw [dg_ge (by simp)]; decide, by simp [dg], by simp [dg]⟩, a.length, ?_, ?_⟩
  · simp; omega
  · rw [val_one, up_all h9, Nat.one_mul, ← Nat.pow_add, show n + (a.length - n) = a.length by omega]
/-- Below the half by less than a quarter: still above what is cut. -/
theorem low_gt {dp pl : Int} {low t : List Nat} {k n z : Nat} (H : Half a dp h) (hk : 1 ≤ k) (L : Dv low pl ((h * 2 ^ k - 1) * 5 ^ (k + 1)) (k + 1)) (hn : n < a.length) (hc : Cut (a.take n) t z) {p : Int} (hp : t ≠ [] → p = dp) : Gt low pl t p := by
  rcases Nat.eq_zero_or_pos n with h0 | h0
  · subst h0
    have : t = [] := by
      have := hc.len; simp at this
      exact List.eq_nil_of_length_eq_zero (by omega)
    exact ⟨L.canon.ne, Or.inl this⟩
  · have D := H.down hn h0 hc
    rw [hp D.canon.ne]
    refine L.gt D ?_
    have hs := (H.split hn).1
    generalize pre a n * 10 ^ (a.length - n) = Y at hs ⊢
    have hh := H.odd
    have e1 : (10 : Nat) ^ (k + 1) = 2 * 2 ^ k * 5 ^ (k + 1) := by
      rw [show 2 * 2 ^ k = 2 ^ (k + 1) by rw [Nat.pow_succ, Nat.mul_comm], ← Nat.mul_pow]
    rw [e1, ← Nat.mul_assoc, Nat.pow_one, Nat.mul_assoc _ _ 10, Nat.mul_comm (5 ^ (k + 1)) 10, ← Nat.mul_assoc _ 10]
    refine Nat.mul_lt_mul_of_pos_right ?_ (Nat.pow_pos (by decide))
    have h2k : 2 ≤ 2 ^ k := by
      obtain ⟨c, rfl⟩ : ∃ c, k = c + 1 := ⟨k - 1, by omega⟩
      rw [Nat.pow_succ]; have := Nat.two_pow_pos c; omega
    generalize 2 ^ k = T at h2k ⊢
    have h5 : Y * (2 * T) ≤ (5 * h - 5) * (2 * T) := Nat.mul_le_mul_right _ (by omega)
    have h6 : (5 * h - 5) * (2 * T) = 10 * (h * T) - 10 * T := by
      rw [Nat.sub_mul]; simp only [Nat.mul_comm, Nat.mul_assoc, Nat.mul_left_comm]
    have h7 : T ≤ h * T := Nat.le_mul_of_pos_left _ (by omega)
    generalize h * T = W at h6 h7 ⊢
    omega
theorem up_gt {dp pu ph : Int} {high u : List Nat} {k n : Nat} (H : Half a dp h) (hk : 1 ≤ k) (L : Dv high ph ((h * 2 ^ k + 1) * 5 ^ (k + 1)) (k + 1)) (hn : n < a.length) (U : Dv u pu ((pre a n + 1) * 10 ^ (a.length - n)) 1) : Gt u pu high ph := by
  refine U.gt L ?_
  have hs := (H.split hn).2
  generalize (pre a n + 1) * 10 ^ (a.length - n) = Y at hs ⊢
  have e1 : (10 : Nat) ^ (k + 1) = 2 * 2 ^ k * 5 ^ (k + 1) := by
    rw [show 2 * 2 ^ k = 2 ^ (k + 1) by rw [Nat.pow_succ, Nat.mul_comm], ← Nat.mul_pow]
  rw [e1, ← Nat.mul_assoc, Nat.pow_one, Nat.mul_assoc _ _ 10, Nat.mul_comm (5 ^ (k + 1)) 10, ← Nat.mul_assoc _ 10]
  refine Nat.mul_lt_mul_of_pos_right ?_ (Nat.pow_pos (by decide))
  have h2k : 2 ≤ 2 ^ k := by
    obtain ⟨c, rfl⟩ : ∃ c, k = c + 1 := ⟨k - 1, by omega⟩
    rw [Nat.pow_succ]; have := Nat.two_pow_pos c; omega
  generalize 2 ^ k = T at h2k ⊢
  have h5 : (5 * h + 5) * (2 * T) ≤ Y * (2 * T) := Nat.mul_le_mul_right _ hs
  have h6 : (5 * h + 5) * (2 * T) = 10 * (h * T) + 10 * T := by
    rw [Nat.add_mul]; simp only [Nat.mul_comm, Nat.mul_assoc, Nat.mul_left_comm]
  generalize h * T = W at h6 ⊢
  omega
end
end Go.Proofs.YtmbleojlnaofjaaGreatDoor

/- []byte(s); a row of one's own made shorter, its cells, one of them set. -/
namespace Go.Proofs.YtmbleojlnaofjaaGreatDoor.D
open Go Go.RowKit Go.Deep
set_option linter.unusedVariables false
set_option linter.unusedSectionVars false
set_option linter.unusedSimpArgs false
section
variable {P : Program} {n : Nat} {e : Env} {w : World} {ops rest : List Oper} {K : Env → World → Prop} {ty : TypeId} {pos : String} {af : Array Edge} {g : Option (Nat × Bool)}
theorem DL.bytesOf {x : Operand} {s t el d : Nat} {b : ByteArray} (hg : wantB ops e g = true) (hn : Nat.blt d n = true) (hs : P.underlying s = some .string) (ht : P.underlying t = some (.slice el)) (he : P.underlying el = some (.int .u8)) (hx : ev e x = .string b)
    (k : ∀ a w' cap, Fr [] w w' → w.heap.size ≤ a → a < w'.heap.size → (∀ i (h : i < b.data.toList.length), w'.cell? ⟨a, 0 + i * 1, none⟩ = some (.int .u8 (b.data.toList[i].toNat : Int))) → DL P n ops rest (upd e d (.slice (some ⟨a, 0, none⟩) b.size cap)) w' K) :
    DL P n ops (⟨some d, .convert s t x, ty, pos, af, g⟩ :: rest) e w K := by
  have hrun := run_bytes_of_string (P := P) w s t el b hs ht he
  generalize grownCap w b.size 0 el = cap at hrun
  refine DL.run (w' := w.drew.alloc (.cells (bytesRow b cap) el ((bytesRow b cap).size, (bytesRow b cap).size + 1))) hg hn (v := .slice (some ⟨w.heap.size, 0, none⟩) b.size cap) ?_ (k w.heap.size _ cap ?_ (Nat.le_refl _) ?_ (fun i hi => ?_))
  · simp only [execOp, hx, Sem.run_bind, hrun, Result.andThen_ok, Sem.run_pure]
  · exact (Fr.drawn w (w.drawn + 1)).tr (fr_alloc w.drew _)
  · show w.heap.size < (w.heap.push _).size; simp
  have hb := blk_alloc w.drew (.cells (bytesRow b cap) el ((bytesRow b cap).size, (bytesRow b cap).size + 1))
  refine cell_of_blk hb ?_
  have hi' : i < b.data.size := by simpa using hi
  rw [show 0 + i * 1 = i by omega]
  unfold bytesRow
  rw [Array.getElem?_append_left (by simpa using hi')]
  simp only [List.getElem?_map, Array.getElem?_map, Array.getElem?_eq_getElem hi', Option.map_some]
  rfl
end
end Go.Proofs.YtmbleojlnaofjaaGreatDoor.D
/-! ### Rows of digits -/
namespace Go.Proofs.YtmbleojlnaofjaaGreatDoor
open Go Go.RowKit D Go.Deep
def dv (d : List Nat) : List Value := d.map fun x : Nat => Value.int .u8 (x : Int)
theorem dv_len (d : List Nat) : (dv d).length = d.length := by simp [dv]
theorem dv_append (a b : List Nat) : dv (a ++ b) = dv a ++ dv b := by simp [dv]
theorem dv_get {d : List Nat} {i : Nat} (h : i < d.length) : (dv d)[i]? = some (.int .u8 (dg d i : Int)) := by simp [dv, dg_lt h, h]
theorem own_some {w : World} {B e size m cap : Nat} {a : Option Addr} {xs : List Value} (h : w.ownsRow B e size (.slice a m cap) m xs) (hm : 0 < m) : ∃ g, a = some ⟨g, 0, none⟩ := by
  rcases h.2 with ⟨h1, h2⟩ | ⟨g, c, cur, h1, _⟩
  · omega
  · injection h1 with h1; exact ⟨g, h1⟩
theorem own_cap {w : World} {B e size m cap : Nat} {a : Option Addr} {xs : List Value} (h : w.ownsRow B e size (.slice a m cap) m xs) : m ≤ cap := by
  rcases h.2 with ⟨h1, h2⟩ | ⟨g, c, cur, h1, _, _, h2, _⟩
  · omega
  · injection h1 with _ _ h1; omega
theorem own_dig {w : World} {B e m cap g : Nat} {d : List Nat} (h : w.ownsRow B e 1 (.slice (some ⟨g, 0, none⟩) m cap) m (dv d)) {i : Nat} (hi : i < m) : w.cell? ⟨g, 0 + i * 1, none⟩ = some (.int .u8 (dg d i : Int)) := by
  have hl : d.length = m := by have := h.1; rw [dv_len] at this; omega
  have := h.cells (g := g) rfl i (.int .u8 (dg d i : Int)) (dv_get (by omega))
  rw [add_addr] at this
  rw [show 0 + i * 1 = 0 + i by omega]; exact this
theorem own_shrink {w : World} {B e m cap k : Nat} {a : Option Addr} {d : List Nat} (h : w.ownsRow B e 1 (.slice a m cap) m (dv d)) (hk : k ≤ m) (hs : a ≠ none) : w.ownsRow B e 1 (.slice a k cap) k (dv (d.take k)) := by
  have hl : d.length = m := by have := h.1; rw [dv_len] at this; omega
  refine ⟨by rw [dv_len, List.length_take]; omega, ?_⟩
  rcases h.2 with ⟨h1, h2⟩ | ⟨g, c, cur, h1, hb, hg, hnc, hcm, hcs, ht⟩
  · injection h1 with h1; exact absurd h1 hs
  · injection h1 with h1 h3 h4
    subst h1; subst h4
    refine Or.inr ⟨g, cap, cur, rfl, hb, hg, by omega, hcm, hcs, ?_⟩
    rw [Nat.mul_one] at ht ⊢
    rw [dv, List.map_take, ← dv, ← ht, List.take_take, Nat.min_eq_left hk]
end Go.Proofs.YtmbleojlnaofjaaGreatDoor
namespace Go.Proofs.YtmbleojlnaofjaaGreatDoor.D
open Go Go.RowKit Go.Deep
theorem Op.intBits_andNot_top {a : Nat} (ha : a < 18446744073709551616) : Op.intBits .andNot .u64 (a : Int) 9223372036854775808 = pure (.int .u64 ((a % 9223372036854775808 : Nat) : Int)) := by
  have e1 : (BitVec.ofInt 64 (a : Int)).toNat = a := ofInt_nat 64 a (by simpa using ha)
  have e2 : (BitVec.ofInt 64 9223372036854775808) = (BitVec.ofNat 64 9223372036854775808) := rfl
  have e3 : (BitVec.ofInt 64 (a : Int) &&& ~~~(BitVec.ofInt 64 9223372036854775808)).toNat = a % 9223372036854775808 := by
    rw [e2, BitVec.toNat_and, e1]
    have e4 : (~~~(BitVec.ofNat 64 9223372036854775808)).toNat = 2 ^ 63 - 1 := by decide
    rw [e4, Nat.and_two_pow_sub_one_eq_mod]
  have e5 : IntKind.u64.wrap ((a % 9223372036854775808 : Nat) : Int) = ((a % 9223372036854775808 : Nat) : Int) := wrap_u64 (by omega)
  show (pure (.int .u64 (IntKind.u64.wrap ((BitVec.ofInt 64 (a : Int) &&& ~~~(BitVec.ofInt 64 9223372036854775808)).toNat : Int))) : Sem Value) = _
  rw [e3, e5]
theorem Y.andNotTop {P : Program} {e : Env} {w : World} {dst : Option Tmp} {ty : TypeId} {pos : String} {af : Array Edge} {g : Option (Nat × Bool)} {x y : Operand} {t u : TypeId} {a : Nat} (hx : ev e x = .int .u64 (a : Int)) (hy : ev e y = .int .u64 9223372036854775808) (ha : a < 18446744073709551616) : Y P e ⟨dst, .binOp .andNot t x y u, ty, pos, af, g⟩ w (.int .u64 ((a % 9223372036854775808 : Nat) : Int)) := by
  have h := Op.intBits_andNot_top ha
  unfold Y; simp only [execOp, hx, hy, eqGuard, binOp_andNot, h]; rfl
end Go.Proofs.YtmbleojlnaofjaaGreatDoor.D

/- make of a slice of structs; a struct stored at a place in a block. -/
namespace Go.Proofs.YtmbleojlnaofjaaGreatDoor.D
open Go Go.RowKit Go.Deep
set_option linter.unusedVariables false
set_option linter.unusedSectionVars false
set_option linter.unusedSimpArgs false
section
variable {P : Program} {n : Nat} {e : Env} {w : World} {ops rest : List Oper} {K : Env → World → Prop} {ty : TypeId} {pos : String} {af : Array Edge} {g : Option (Nat × Bool)}
theorem DL.makeSK {x y : Operand} {t el d m bytes sz : Nat} {z : Value} (hg : wantB ops e g = true) (hn : Nat.blt d n = true) (ht : P.underlying t = some (.slice el)) (hi : (P.info? el).map (fun i => (i.zero, i.size, i.bytes)) = some (some z, sz, bytes)) (hx : ev e x = .int .i64 (m : Int)) (hy : ev e y = .int .i64 (m : Int)) (hb : bytes * m ≤ 281474976710656) (hm : m ≤ 9223372036854775807)
    (k : ∀ b w' cs, Fr [] w w' → w.heap.size ≤ b → b < w'.heap.size → w'.heap[b]? = some (.cells cs el (0, 0)) → cs.size = m * sz → DL P n ops rest (upd e d (.slice (some ⟨b, 0, none⟩) m m)) w' K) :
    DL P n ops (⟨some d, .makeSlice t x y, ty, pos, af, g⟩ :: rest) e w K := by
  cases hq : P.info? el with
  | none => rw [hq] at hi; cases hi
  | some i =>
    rw [hq] at hi
    simp only [Option.map_some, Option.some.injEq, Prod.mk.injEq] at hi
    obtain ⟨h1, h2, h3⟩ := hi
    have hrun := run_make (P := P) (w := w) t el i z ht hq h1 .i64 .i64 (m : Int) (m : Int) (by omega) (by omega) (by rw [h3]; have h5 := Int.ofNat_le.2 hb; rw [Int.natCast_mul] at h5; exact h5) (by omega)
    rw [Int.toNat_natCast, h2] at hrun
    refine DL.run (v := .slice (some ⟨w.heap.size, 0, none⟩) m m) (w' := { w with heap := w.heap.push (.cells (madeCells z.cells (m * sz)) el) }) hg hn ?_ ?_
    · simp only [execOp, hx, hy, Sem.run_bind, hrun, Result.andThen_ok, Sem.run_pure]
      rfl
    · refine k w.heap.size _ (madeCells z.cells (m * sz)) (fr_alloc w _) (Nat.le_refl _) (by simp) (blk_alloc w _) ?_
      simp [madeCells]
/-- A struct stored at a place in a block. -/
theorem DL.storeK {x y : Operand} {t u : TypeId} {b o m : Nat} {old cs : Array Value} (hg : wantB ops e g = true) (ht : aggT P t m = true) (hx : ev e x = .pointer (some ⟨b, o, none⟩)) (hy : ev e y = .agg cs) (hs : cs.size = m) (h1 : cs.all (·.oneCell') = true)
    (hb : w.heap[b]? = some (.cells old u (0, 0))) (ho : o + m ≤ old.size)
    (k : ∀ w' cur, Fr [b] w w' → w'.heap.size = w.heap.size → w'.heap[b]? = some (.cells cur u (0, 0)) → cur.size = old.size → (∀ i, i < o ∨ o + m ≤ i → cur[i]? = old[i]?) → (∀ j, j < m → cur[o + j]? = cs[j]?) → DL P n ops rest e w' K) :
    DL P n ops (⟨none, .store t x y, ty, pos, af, g⟩ :: rest) e w K := by
  have hst := run_storeCells_at P b o u cs.toList 0 old w hb (by simpa [hs] using ho) (fun v hv => (Array.all_eq_true_iff_forall_mem.1 h1) v (by simpa using hv))
  simp only [Nat.add_zero, Array.length_toList, hs] at hst
  have hsz : ∃ i, P.info? t = some i ∧ cs.size = i.size := by
    unfold aggT at ht
    rw [Bool.and_eq_true] at ht
    cases hi : P.info? t with
    | none => rw [hi] at ht; cases ht.2
    | some i => rw [hi] at ht; exact ⟨i, rfl, by have := ht.2; simp at this; omega⟩
  obtain ⟨i, hi, hsi⟩ := hsz
  have hrun : (storeVar t ⟨b, o, none⟩ (.agg cs)).run P w = .ok () (w.setRow b (old.toList.take o ++ cs.toList ++ old.toList.drop (o + m)).toArray) := by
    simp [storeVar, sizeOf, typeInfo, hi, Value.cells, hsi, hst]
  have hlen : (old.toList.take o ++ cs.toList ++ old.toList.drop (o + m)).length = old.size := by
    simp only [List.length_append, List.length_take, List.length_drop, Array.length_toList]; omega
  have hlo : (old.toList.take o).length = o := by rw [List.length_take, Array.length_toList]; omega
  have hcl : cs.toList.length = m := by simpa using hs
  refine DL.runU (w' := w.setRow b (old.toList.take o ++ cs.toList ++ old.toList.drop (o + m)).toArray) hg rfl ?_ (k _ _ ⟨rfl, rfl, rfl, by simp [World.setRow], fun i _ hi => setRow_other w b i _ (by simpa using hi)⟩ (by simp [World.setRow]) (setRow_heap w b old _ u (0, 0) hb) (by simpa using hlen) (fun i hi => ?_) (fun j hj => ?_))
  · clear hst
    generalize w.setRow b (old.toList.take o ++ cs.toList ++ old.toList.drop (o + m)).toArray = wR at hrun ⊢
    simp only [execOp, hx, hy, Instr.storeAt, Instr.sureAddr, Sem.run_bind, Sem.run_pure, Result.andThen_ok, hrun]
  · rw [List.getElem?_toArray, List.append_assoc]
    rcases hi with hi | hi
    · rw [List.getElem?_append_left (by omega), List.getElem?_take, if_pos hi]; simp
    · rw [List.getElem?_append_right (by omega), List.getElem?_append_right (by omega), List.getElem?_drop, hlo, hcl, show o + m + (i - o - m) = i by omega]; simp
  · rw [List.getElem?_toArray, List.append_assoc, List.getElem?_append_right (by omega), hlo, Nat.add_sub_cancel_left, List.getElem?_append_left (by omega)]; simp
theorem Y.mkFn1 {x : Operand} {fn : Fn} {dst : Option Tmp} {v : Value} (hx : ev e x = v) : Y P e ⟨dst, .makeFunc fn #[] #[x], ty, pos, af, g⟩ w (.func fn #[] #[v]) := by
  unfold Y; simp [execOp, Instr.makeFunc, hx]
end
end Go.Proofs.YtmbleojlnaofjaaGreatDoor.D

/- The walks of encodeArray and encodeObject. -/
namespace Go.Proofs.YtmbleojlnaofjaaGreatDoor
open Go Go.RowKit D Go.Deep Go.Sort Go.Proofs
set_option linter.unusedVariables false
set_option linter.unusedSimpArgs false


theorem nodup_bound : ∀ (n : Nat) (l : List Nat), l.Nodup → (∀ x ∈ l, x < n) → l.length ≤ n
  | 0, l, _, h => by cases l with | nil => simp | cons a l => exact absurd (h a (by simp)) (by omega)
  | n + 1, l, hn, h => by
    have h1 := nodup_bound n (l.erase n) (hn.erase n) (fun x hx => by
      have h2 := h x (List.mem_of_mem_erase hx)
      have h3 : x ≠ n := fun e => by subst e; exact (hn.not_mem_erase) hx
      omega)
    have h4 := List.length_erase (a := n) (l := l)
    split at h4 <;> omega
theorem left_mem {es : Array MapEntry} {seen : Array Nat} {en : MapEntry} (h : en ∈ (leftOf es seen).toList) : en ∈ es.toList ∧ en.born ∉ seen.toList := by
  unfold leftOf at h
  simp only [Array.toList_filter, List.mem_filter, Bool.not_eq_true', Array.mem_toList_iff] at h ⊢
  exact ⟨h.1, fun hm => by have := Array.contains_iff_mem.2 hm; rw [h.2] at this; cases this⟩
theorem left_none {es : Array MapEntry} {seen : Array Nat} (h : (leftOf es seen).size = 0) {en : MapEntry} (he : en ∈ es.toList) : en.born ∈ seen.toList := by
  unfold leftOf at h
  rcases Classical.em (en.born ∈ seen.toList) with h' | h'
  · exact h'
  · have : en ∈ es.filter (fun e => !seen.contains e.born) := by
      simp only [Array.mem_filter, Bool.not_eq_true']
      refine ⟨by simpa using he, ?_⟩
      cases hc : seen.contains en.born with
      | false => rfl
      | true => exact absurd (by simpa using Array.contains_iff_mem.1 hc) h'
    have h2 := Array.size_eq_zero_iff.1 h
    rw [h2] at this
    simp at this
/-- The encoder's walk at trees of at most m nodes. -/
def EncC (m : Nat) : Prop := ∀ (v : V) (x : Value) (B be b : Nat) (X : List Nat) (l : List UInt8) (w : World), v.nodes ≤ m → m ≤ 1000000 → v.bytes ≤ 1000000 → Good v → GV w (· < B) v x → ES w B be b X l → Tabs w → l.length + 80000000 * m ≤ 140737488355328 →
  Calls Tryz.prog 155 #[(.pointer (some ⟨be, 0, none⟩)), x] w (Ret w X fun r w' => r = .tuple #[] ∧ ∃ X', ES w' B be b X' (l ++ jL v) ∧ Sub X' X w)
theorem joins_len {es : List (List UInt8)} {n b : Nat} (h : tot es ≤ 60 * n + 6 * b) (hn : n ≤ 1000000) (hb : b ≤ 1000000) (i : Nat) : (joinT (es.take i)).length ≤ 66000000 := by
  have h1 := joinT_tot (es.take i)
  have h2 := tot_take es i
  omega
theorem join_all {es : List (List UInt8)} : joinT es = joinT (es.take es.length) := by rw [List.take_length]
theorem InL.fr' {S : List Nat} {w w' : World} {D : Nat → Prop} {a : Option Addr} {l : List V} {xs : Nat → Value} (h : InL w D a l xs) (f : Fr S w w') (hs : ∀ b, D b → b ∉ S) : InL w' D a l xs := h.fr f hs

theorem encodeArray_step (m : Nat) (ih : EncC m) {B be b c : Nat} {X : List Nat} {l : List UInt8} {list : List V} {a : Option Addr} {xs : Nat → Value} (w : World) (hm : V.nodesL list ≤ m) (hm2 : m ≤ 1000000) (hby : V.bytesL list ≤ 1000000) (hg : ∀ i (h : i < list.length), Good list[i])
    (hL : InL w (· < B) a list xs) (hES : ES w B be b X l) (hT : Tabs w) (hlen : l.length + 80000000 * (m + 1) ≤ 140737488355328) : Calls Tryz.prog 171 #[(.pointer (some ⟨be, 0, none⟩)), .slice a list.length c] w (Ret w X fun r w' => r = .tuple #[] ∧ ∃ X', ES w' B be b X' (l ++ (91 :: (joinT (jLs list) ++ [93]))) ∧ Sub X' X w) := by
  have xFR := Sub.refl X w
  have htot := jLs_tot list (fun i h => jL_len _ _ (Nat.le_refl _) (hg i h))
  have hjl := joins_len htot (by omega) hby
  have hll := length_le_nodesL list
  refine calls_of Tryz.func171 rfl rfl rfl rfl ?_
  have FR := Fr.refl X w
  refine DC.seq ?_
  refine DC.region ?_
  refine DL.y rfl rfl (Y.move) ?_
  refine DL.y rfl rfl (Y.nil rfl) ?_
  refine DL.y rfl rfl (Y.field F.fd164_0 rfl) ?_
  refine DL.y rfl rfl (Y.load F.sc161 rfl hES.cell) ?_
  refine DL.invoke rfl rfl rfl rfl (hmWB _ _) (hES.wbyte (c := 91) (by first | omega | (simp only [List.length_append, List.length_cons, List.length_nil]; omega))) ?_
  rintro _ w4 f5 ⟨X1, hE3, hs2⟩
  have xFR' := xFR.step FR.size hs2
  replace FR := FR.put f5 xFR
  replace xFR := xFR'
  replace hT : Tabs w4 := by first | exact hT.es hES f5 | exact hT.fr f5 (by intro c hc hm; first | (simp at hm; done) | (simp only [List.mem_cons, List.mem_singleton, List.not_mem_nil, or_false] at hm; have := hES.two; omega))
  replace hL := hL.fr f5 (by intro c hc hm; first | (simp at hm; done) | (have hx := (hES.ge c hm).1; omega) | (simp only [List.mem_cons, List.mem_singleton, List.not_mem_nil, or_false] at hm; omega))
  replace hES := hE3
  refine DL.nil ?_
  show DC _ _ _ _ _ _
  refine DC.seq ?_
  refine DC.seq ?_
  refine DC.region ?_
  refine DL.y rfl rfl (Y.move) ?_
  refine DL.y rfl rfl (Y.lenS Tryz.underlying80 rfl) ?_
  refine DL.y rfl rfl (Y.move) ?_
  refine DL.nil ?_
  show DC _ _ _ _ _ _
  refine DC.block ?_
  refine DC.loopE (σ := Nat × List Nat) [(4, 5), (13, 28)] [(0, (.pointer (some ⟨be, 0, none⟩))), (11, .slice a list.length c), (12, .int .i64 (list.length : Int))] (fun (i, _) => [(13, .int .i64 (i : Int))]) (fun sg wl => Fr X1 w4 wl ∧ (fun (i, Xc) wl => i ≤ list.length ∧ ES wl B be b Xc (l ++ (91 :: joinT ((jLs list).take i))) ∧ Sub Xc X1 w4 ∧ Tabs wl ∧ InL wl (· < B) a list xs) sg wl) (fun (i, _) => list.length - i) ((0, X1)) rfl ?_ ?_ ?_ ?_
  · exact ⟨rfl, rfl, rfl⟩
  · exact rfl
  · exact ⟨Fr.refl _ _, Nat.zero_le _, hES.cast (by simp [joinT]), Sub.refl _ _, hT, hL⟩
  · rintro e0 ⟨i, Xc⟩ j w6 ⟨f7, hi0, hEL, hsl, hTL, hLL⟩
    have xFR' := xFR.step FR.size hsl
    replace FR := FR.put f7 xFR
    replace xFR := xFR'
    have G8 := f7
    have xG8 := hsl
    replace hES := hEL
    have hT := hTL
    have hL := hLL
    have hji := hjl i
    refine DC.seq ?_
    refine DC.region ?_
    refine DL.if rfl rfl (Y.lt rfl rfl) (fun c14 => ?_) (fun c14 => ?_)
    · have hi : i < list.length := by omega
      obtain ⟨ba, oa, rfl, hba, hca, _⟩ := hL.row i hi
      have hcx : w6.cell? ⟨ba, oa + i * 1, none⟩ = some (xs i) := by simpa using hca.cell 0 (v := xs i) (by simp)
      refine DL.nil ?_
      show DC _ _ _ _ _ _
      refine DC.seq ?_
      refine DC.condT rfl ?_
      refine DC.skip ?_
      show DC _ _ _ _ _ _
      refine DC.seq ?_
      refine DC.block ?_
      refine DC.seq ?_
      refine DC.region ?_
      refine DL.y rfl rfl (Y.move) ?_
      refine DL.y rfl rfl (Y.index F.sl80 rfl rfl (rfl) (hi)) ?_
      refine DL.y rfl rfl (Y.load F.sc20 rfl hcx) ?_
      refine DL.y rfl rfl (Y.assign) ?_
      refine DL.y rfl rfl (Y.assign) ?_
      refine DL.nil ?_
      show DC _ _ _ _ _ _
      refine DC.seq ?_
      refine DC.seq ?_
      refine DC.region ?_
      refine DL.y rfl rfl (Y.move) ?_
      refine DL.if rfl rfl (Y.gt rfl rfl) (fun c19 => ?_) (fun c19 => ?_)
      · refine DL.nil ?_
        show DC _ _ _ _ _ _
        refine DC.condT rfl ?_
        refine DC.region ?_
        refine DL.y rfl rfl (Y.move) ?_
        refine DL.y rfl rfl (Y.nil rfl) ?_
        refine DL.y rfl rfl (Y.field F.fd164_0 rfl) ?_
        refine DL.y rfl rfl (Y.load F.sc161 rfl hES.cell) ?_
        refine DL.invoke rfl rfl rfl rfl (hmWB _ _) (hES.wbyte (c := 44) (by first | omega | (simp only [List.length_append, List.length_cons, List.length_nil]; omega))) ?_
        rintro _ w12 f13 ⟨X9, hE11, hs10⟩
        have xFR' := xFR.step FR.size hs10
        replace FR := FR.put f13 xFR
        replace xFR := xFR'
        have xG8' := xG8.step G8.size hs10
        replace G8 := G8.put f13 xG8
        replace xG8 := xG8'
        replace hT : Tabs w12 := by first | exact hT.es hES f13 | exact hT.fr f13 (by intro c hc hm; first | (simp at hm; done) | (simp only [List.mem_cons, List.mem_singleton, List.not_mem_nil, or_false] at hm; have := hES.two; omega))
        replace hL := hL.fr f13 (by intro c hc hm; first | (simp at hm; done) | (have hx := (hES.ge c hm).1; omega) | (simp only [List.mem_cons, List.mem_singleton, List.not_mem_nil, or_false] at hm; omega))
        replace hES := hE11
        refine DL.nil ?_
        show DC _ _ _ _ _ _
        refine DC.region ?_
        refine DL.y rfl rfl (Y.move) ?_
        refine DL.y rfl rfl (Y.move) ?_
        refine DL.call rfl rfl F.nm155 rfl (ih _ (xs i) B be b _ _ _ (by have := nodes_le hi; omega) hm2 (by have := bytes_le hi; omega) (hg i hi) (hL.gv i hi) hES hT (by first | omega | (simp only [List.length_append, List.length_cons, List.length_nil]; omega))) ?_
        rintro _ w17 f18 ⟨rfl, X14, hE16, hs15⟩
        have xFR' := xFR.step FR.size hs15
        replace FR := FR.put f18 xFR
        replace xFR := xFR'
        have xG8' := xG8.step G8.size hs15
        replace G8 := G8.put f18 xG8
        replace xG8 := xG8'
        replace hT : Tabs w17 := by first | exact hT.es hES f18 | exact hT.fr f18 (by intro c hc hm; first | (simp at hm; done) | (simp only [List.mem_cons, List.mem_singleton, List.not_mem_nil, or_false] at hm; have := hES.two; omega))
        replace hL := hL.fr f18 (by intro c hc hm; first | (simp at hm; done) | (have hx := (hES.ge c hm).1; omega) | (simp only [List.mem_cons, List.mem_singleton, List.not_mem_nil, or_false] at hm; omega))
        replace hES := hE16
        refine DL.nil ?_
        show DC _ _ _ _ _ _
        refine DC.region ?_
        refine DL.y rfl rfl (Y.addI (c := ((i + 1 : Nat) : Int)) rfl rfl (by omega) (by omega) (by omega)) ?_
        refine DL.y rfl rfl (Y.move) ?_
        refine DL.nil ?_
        exact ⟨(i + 1, X14), ⟨G8, hi, hES.cast (by rw [joinT_succ (by rw [jLs_len]; exact hi), jLs_get hi, if_neg (by omega)]; simp), xG8, hT, hL⟩, by show list.length - (i + 1) < list.length - i; omega, rfl⟩
      · refine DL.nil ?_
        show DC _ _ _ _ _ _
        refine DC.condF rfl ?_
        refine DC.skip ?_
        show DC _ _ _ _ _ _
        refine DC.region ?_
        refine DL.y rfl rfl (Y.move) ?_
        refine DL.y rfl rfl (Y.move) ?_
        refine DL.call rfl rfl F.nm155 rfl (ih _ (xs i) B be b _ _ _ (by have := nodes_le hi; omega) hm2 (by have := bytes_le hi; omega) (hg i hi) (hL.gv i hi) hES hT (by first | omega | (simp only [List.length_append, List.length_cons, List.length_nil]; omega))) ?_
        rintro _ w22 f23 ⟨rfl, X19, hE21, hs20⟩
        have xFR' := xFR.step FR.size hs20
        replace FR := FR.put f23 xFR
        replace xFR := xFR'
        have xG8' := xG8.step G8.size hs20
        replace G8 := G8.put f23 xG8
        replace xG8 := xG8'
        replace hT : Tabs w22 := by first | exact hT.es hES f23 | exact hT.fr f23 (by intro c hc hm; first | (simp at hm; done) | (simp only [List.mem_cons, List.mem_singleton, List.not_mem_nil, or_false] at hm; have := hES.two; omega))
        replace hL := hL.fr f23 (by intro c hc hm; first | (simp at hm; done) | (have hx := (hES.ge c hm).1; omega) | (simp only [List.mem_cons, List.mem_singleton, List.not_mem_nil, or_false] at hm; omega))
        replace hES := hE21
        refine DL.nil ?_
        show DC _ _ _ _ _ _
        refine DC.region ?_
        refine DL.y rfl rfl (Y.addI (c := ((i + 1 : Nat) : Int)) rfl rfl (by omega) (by omega) (by omega)) ?_
        refine DL.y rfl rfl (Y.move) ?_
        refine DL.nil ?_
        exact ⟨(i + 1, X19), ⟨G8, hi, hES.cast (by rw [joinT_succ (by rw [jLs_len]; exact hi), jLs_get hi, if_pos (by omega)]; simp), xG8, hT, hL⟩, by show list.length - (i + 1) < list.length - i; omega, rfl⟩
    · obtain rfl : i = list.length := by omega
      refine DL.nil ?_
      show DC _ _ _ _ _ _
      refine DC.seq ?_
      refine DC.condF rfl ?_
      refine DC.exit ?_
      show DC _ _ _ _ _ _
      refine DC.region ?_
      refine DL.y rfl rfl (Y.move) ?_
      refine DL.y rfl rfl (Y.nil rfl) ?_
      refine DL.y rfl rfl (Y.field F.fd164_0 rfl) ?_
      refine DL.y rfl rfl (Y.load F.sc161 rfl hES.cell) ?_
      refine DL.invoke rfl rfl rfl rfl (hmWB _ _) (hES.wbyte (c := 93) (by first | omega | (simp only [List.length_append, List.length_cons, List.length_nil]; omega))) ?_
      rintro _ w27 f28 ⟨X24, hE26, hs25⟩
      have xFR' := xFR.step FR.size hs25
      replace FR := FR.put f28 xFR
      replace xFR := xFR'
      replace hT : Tabs w27 := by first | exact hT.es hES f28 | exact hT.fr f28 (by intro c hc hm; first | (simp at hm; done) | (simp only [List.mem_cons, List.mem_singleton, List.not_mem_nil, or_false] at hm; have := hES.two; omega))
      replace hL := hL.fr f28 (by intro c hc hm; first | (simp at hm; done) | (have hx := (hES.ge c hm).1; omega) | (simp only [List.mem_cons, List.mem_singleton, List.not_mem_nil, or_false] at hm; omega))
      replace hES := hE26
      refine DL.nil ?_
      exact FinQ.end0 (Ret.mk FR ⟨rfl, _, hES.cast (by rw [List.take_of_length_le (by rw [jLs_len]; exact Nat.le_refl _)]; simp), xFR⟩)


theorem jMs_get' {ks : List ByteArray} {vs : List V} (hk : ks.length = vs.length) {i : Nat} (h : i < ks.length) : (jMs ks vs)[i]'(by rw [jMs_len ks vs hk]; exact h) = qL ks[i].data.toList ++ 58 :: jL (vs[i]'(by omega)) := jMs_get h (by omega) (by rw [jMs_len ks vs hk]; exact h)
theorem key_size {keys : List ByteArray} {i : Nat} (h : i < keys.length) : keys[i].size ≤ bytesK keys := key_le (List.getElem_mem h)
def GVs (w : World) (B : Nat) (vals : List V) (xs : Nat → Value) : Prop := ∀ (i : Nat) (h : i < vals.length), GV w (· < B) vals[i] (xs i)
theorem GVs.fr {S : List Nat} {w w' : World} {B : Nat} {vals : List V} {xs : Nat → Value} (h : GVs w B vals xs) (f : Fr S w w') (hs : ∀ b, b < B → b ∉ S) : GVs w' B vals xs := fun i hi => (h i hi).fr f hs
def KVs (w : World) (blk : Nat) (keys : List ByteArray) (xs : Nat → Value) : Prop := ∀ i (h : i < keys.length), CellsAt w blk (0 + i * 2) #[.string keys[i], xs i]
theorem KVs.fr {S : List Nat} {w w' : World} {blk : Nat} {keys : List ByteArray} {xs : Nat → Value} (h : KVs w blk keys xs) (f : Fr S w w') (hs : blk ∉ S) : KVs w' blk keys xs := fun i hi => (h i hi).fr f hs
theorem kvBuild (s : ByteArray) (x : Value) (h : x.oneCell' = true) : buildP Tryz.prog 203 [(0, .string s), (1, x)] = some #[.string s, x] := by
  cases x <;> first | (cases h; done) | kernel_rfl
theorem kv_one (s : ByteArray) (x : Value) (h : x.oneCell' = true) : (#[Value.string s, x]).all (·.oneCell') = true := by
  cases x <;> first | (cases h; done) | simp [Value.oneCell']
theorem els_kv : (Tryz.prog.info? 203).map (fun i => (i.zero, i.size, i.bytes)) = some (some (.agg #[.string ⟨#[]⟩, .nilIface]), 2, 32) := by kernel_rfl

set_option maxHeartbeats 1000000 in
theorem encodeObject_step (m : Nat) (ih : EncC m) {B be b r : Nat} {X : List Nat} {l : List UInt8} {keys : List ByteArray} {vals : List V} {es : Array MapEntry} {xs : Nat → Value} (w : World) (hm : V.nodesL vals ≤ m) (hm2 : m ≤ 1000000) (hby : V.bytesL vals + bytesK keys ≤ 1000000) (hg : ∀ i (h : i < vals.length), Good vals[i])
    (hkl : keys.length = vals.length) (hkval : ∀ i (h : i < keys.length), Lib.validD keys[i].data.toList = true) (hrise : ∀ i (h : i + 1 < keys.length), Op.bytesLess keys[i].toList keys[i + 1].toList = true)
    (hrB : r < B) (hmap : w.heap[r]? = some (.map es keys.length)) (hes : es.size = keys.length) (hent : ∀ (i : Nat) (h : i < keys.length), es[i]? = some ⟨.string keys[i], xs i, i⟩) (hgv : GVs w B vals xs) (hES : ES w B be b X l) (hT : Tabs w) (hlen : l.length + 80000000 * (m + 1) ≤ 140737488355328) :
    Calls Tryz.prog 172 #[(.pointer (some ⟨be, 0, none⟩)), .map (some r)] w (Ret w X fun r w' => r = .tuple #[] ∧ ∃ X', ES w' B be b X' (l ++ (123 :: (joinT (jMs keys vals) ++ [125]))) ∧ Sub X' X w) := by
  have xFR := Sub.refl X w
  have htot := jMs_tot keys vals hkl (fun i h => jL_len _ _ (Nat.le_refl _) (hg i h))
  have hjl := joins_len (es := jMs keys vals) (n := V.nodesL vals) (b := V.bytesL vals + bytesK keys) (by omega) (by omega) hby
  have hll := length_le_nodesL vals
  have hnk : keys.length ≤ 1000000 := by omega
  have h2B := hES.two
  have hBw : B < w.heap.size := by have h1 := hES.lo; have h2 := (hES.ge be hES.mem).2; omega
  have nx_r : r ∉ X := fun h => by have := (hES.ge _ h).1; omega
  have hold : ∀ x ∈ es.toList, x.born < keys.length := fun x hx => by
    obtain ⟨i, hi, he⟩ := List.getElem_of_mem hx
    have hi2 : i < es.size := by simpa using hi
    have h1 := hent i (by omega)
    rw [Array.getElem?_eq_getElem hi2] at h1
    have h2 : es[i] = x := by rw [← he]; simp
    rw [h2] at h1
    cases h1; show i < keys.length; omega
  have hnd : (es.toList.map (·.born)).Nodup := by
    have e : es.toList.map (·.born) = List.range keys.length := by
      apply List.ext_getElem
      · simp [hes]
      · intro i h1 h2
        have hi : i < keys.length := by simpa using h2
        have h3 := hent i hi
        rw [Array.getElem?_eq_getElem (by omega)] at h3
        simp only [Option.some.injEq] at h3
        simp [h3]
    rw [e]; exact List.nodup_range
  refine calls_of Tryz.func172 rfl rfl rfl rfl ?_
  have FR := Fr.refl X w
  refine DC.seq ?_
  refine DC.region ?_
  refine DL.y rfl rfl (Y.move) ?_
  refine DL.y rfl rfl (Y.nil rfl) ?_
  refine DL.y rfl rfl (Y.field F.fd164_0 rfl) ?_
  refine DL.y rfl rfl (Y.load F.sc161 rfl hES.cell) ?_
  refine DL.invoke rfl rfl rfl rfl (hmWB _ _) (hES.wbyte (c := 123) (by first | omega | (simp only [List.length_append, List.length_cons, List.length_nil]; omega))) ?_
  rintro _ w4 f5 ⟨X1, hE3, hs2⟩
  have xFR' := xFR.step FR.size hs2
  replace FR := FR.put f5 xFR
  replace xFR := xFR'
  replace hT : Tabs w4 := by first | exact hT.es hES f5 | exact hT.fr f5 (by intro c hc hm; first | (simp at hm; done) | (simp only [List.mem_cons, List.mem_singleton, List.not_mem_nil, or_false] at hm; have := hES.two; omega))
  replace hgv := hgv.fr f5 (by intro c hc hm; first | (simp at hm; done) | (have hx := (hES.ge c hm).1; omega) | (simp only [List.mem_cons, List.mem_singleton, List.not_mem_nil, or_false] at hm; omega))
  have nx_r' := hs2.not nx_r (lt_of_blk hmap)
  replace hmap := f5.blk hmap nx_r
  replace nx_r := nx_r'
  replace hES := hE3
  refine DL.nil ?_
  show DC _ _ _ _ _ _
  refine DC.seq ?_
  refine DC.region ?_
  refine DL.y rfl rfl (Y.move) ?_
  refine DL.y rfl rfl (hes ▸ Y.lenMap Tryz.underlying83 rfl hmap) ?_
  refine DL.makeSK rfl rfl Tryz.underlying201 els_kv rfl rfl (by omega) (by omega) ?_
  intro b17 w6 cs0 f7 lo17 hi17 hb17 hz0
  have nx_b17 : b17 ∉ X1 := fun h => by have := (hES.ge _ h).2; omega
  replace lo17 := Nat.le_trans FR.size lo17
  replace FR := FR.tr0 f7
  replace hT : Tabs w6 := by first | exact hT.es hES f7 | exact hT.fr f7 (by intro c hc hm; first | (simp at hm; done) | (simp only [List.mem_cons, List.mem_singleton, List.not_mem_nil, or_false] at hm; have := hES.two; omega))
  replace hgv := hgv.fr f7 (by intro c hc hm; first | (simp at hm; done) | (have hx := (hES.ge c hm).1; omega) | (simp only [List.mem_cons, List.mem_singleton, List.not_mem_nil, or_false] at hm; omega))
  replace hmap := f7.blk0 hmap
  replace hES := hES.fr0 f7
  refine DL.alloc rfl rfl F.z201 rfl ?_
  intro b4 w8 f9 lo4 hi4 hb4
  have nx_b4 : b4 ∉ X1 := fun h => by have := (hES.ge _ h).2; omega
  have lt_b17_b4 : b17 < b4 := Nat.lt_of_lt_of_le hi17 lo4
  replace lo4 := Nat.le_trans FR.size lo4
  replace FR := FR.tr0 f9
  replace hT : Tabs w8 := by first | exact hT.es hES f9 | exact hT.fr f9 (by intro c hc hm; first | (simp at hm; done) | (simp only [List.mem_cons, List.mem_singleton, List.not_mem_nil, or_false] at hm; have := hES.two; omega))
  replace hgv := hgv.fr f9 (by intro c hc hm; first | (simp at hm; done) | (have hx := (hES.ge c hm).1; omega) | (simp only [List.mem_cons, List.mem_singleton, List.not_mem_nil, or_false] at hm; omega))
  replace hmap := f9.blk0 hmap
  replace hES := hES.fr0 f9
  replace hb17 := f9.blk0 hb17
  replace hi17 := Nat.lt_of_lt_of_le hi17 f9.size
  refine DL.store rfl F.co201 F.in201 rfl rfl rfl hb4 rfl ?_
  intro w10 f11 hs12 hb4'
  replace FR := FR.put f11 (by intro i hi; simp only [List.mem_cons, List.mem_singleton, List.not_mem_nil, or_false] at hi; rcases hi with rfl; all_goals (first | (left; simp; done) | (right; omega)))
  replace hT : Tabs w10 := by first | exact hT.es hES f11 | exact hT.fr f11 (by intro c hc hm; first | (simp at hm; done) | (simp only [List.mem_cons, List.mem_singleton, List.not_mem_nil, or_false] at hm; have := hES.two; omega))
  replace hgv := hgv.fr f11 (by intro c hc hm; first | (simp at hm; done) | (have hx := (hES.ge c hm).1; omega) | (simp only [List.mem_cons, List.mem_singleton, List.not_mem_nil, or_false] at hm; omega))
  replace hmap := f11.blk hmap (by simp only [List.mem_cons, List.not_mem_nil, or_false, not_or]; omega)
  replace hES := hES.fr f11 (by intro i hi; simp only [List.mem_cons, List.mem_singleton, List.not_mem_nil, or_false] at hi; rcases hi with rfl; exact nx_b4)
  replace hb17 := f11.blk hb17 (by simp only [List.mem_cons, List.not_mem_nil, or_false, not_or]; omega)
  replace hi17 := Nat.lt_of_lt_of_le hi17 f11.size
  replace hi4 := Nat.lt_of_lt_of_le hi4 f11.size
  replace hb4 := hb4'
  refine DL.nil ?_
  show DC _ _ _ _ _ _
  refine DC.seq ?_
  refine DC.region ?_
  refine DL.y rfl rfl (Y.assign) ?_
  refine DL.nil ?_
  show DC _ _ _ _ _ _
  refine DC.seq ?_
  refine DC.seq ?_
  refine DC.region ?_
  refine DL.y rfl rfl (Y.move) ?_
  refine DL.rangeMap rfl rfl Tryz.underlying83 rfl hmap ?_
  intro b19 w13 f14 lo19 hi19 hb19
  have nx_b19 : b19 ∉ X1 := fun h => by have := (hES.ge _ h).2; omega
  have lt_b17_b19 : b17 < b19 := Nat.lt_of_lt_of_le hi17 lo19
  have lt_b4_b19 : b4 < b19 := Nat.lt_of_lt_of_le hi4 lo19
  replace lo19 := Nat.le_trans FR.size lo19
  replace FR := FR.tr0 f14
  replace hT : Tabs w13 := by first | exact hT.es hES f14 | exact hT.fr f14 (by intro c hc hm; first | (simp at hm; done) | (simp only [List.mem_cons, List.mem_singleton, List.not_mem_nil, or_false] at hm; have := hES.two; omega))
  replace hgv := hgv.fr f14 (by intro c hc hm; first | (simp at hm; done) | (have hx := (hES.ge c hm).1; omega) | (simp only [List.mem_cons, List.mem_singleton, List.not_mem_nil, or_false] at hm; omega))
  replace hmap := f14.blk0 hmap
  replace hES := hES.fr0 f14
  replace hb17 := f14.blk0 hb17
  replace hi17 := Nat.lt_of_lt_of_le hi17 f14.size
  replace hi4 := Nat.lt_of_lt_of_le hi4 f14.size
  replace hb4 := f14.blk0 hb4
  refine DL.nil ?_
  show DC _ _ _ _ _ _
  refine DC.block ?_
  refine DC.loop (σ := Nat × List Nat × Array Value) [(5, 7), (20, 32)] (fun (k, _, _) => [(5, .int .i64 (k : Int))]) (fun sg wl => Fr [b17, b19] w13 wl ∧ (fun (k, seen, cs) wl => k ≤ keys.length ∧ wl.heap[b19]? = some (.mapIter (some r) keys.length seen.toArray keys.length) ∧ wl.heap[b17]? = some (.cells cs 203 (0, 0)) ∧ cs.size = keys.length * 2 ∧ seen.length = k ∧ seen.Nodup ∧ (∀ x ∈ seen, x < keys.length) ∧ ∀ j (h : j < seen.length), cs[j * 2]? = some (.string (keys.getD seen[j] default)) ∧ cs[j * 2 + 1]? = some (xs seen[j])) sg wl) (fun (k, _, _) => keys.length - k) ((0, [], cs0)) rfl ?_ ?_ ?_
  · exact rfl
  · exact ⟨Fr.refl _ _, Nat.zero_le _, hb19, hb17, hz0, rfl, List.nodup_nil, (fun x hx => by cases hx), (fun j h => by cases h)⟩
  · rintro ⟨k, seen, cs⟩ j w15 ⟨f16, hk0, hb19, hb17, hcz, hsk, hsn, hsl, hcj⟩
    replace FR := FR.put f16 (by intro i hi; simp only [List.mem_cons, List.mem_singleton, List.not_mem_nil, or_false] at hi; rcases hi with rfl | rfl; all_goals (first | (left; simp; done) | (right; omega)))
    replace hT : Tabs w15 := by first | exact hT.es hES f16 | exact hT.fr f16 (by intro c hc hm; first | (simp at hm; done) | (simp only [List.mem_cons, List.mem_singleton, List.not_mem_nil, or_false] at hm; have := hES.two; omega))
    replace hgv := hgv.fr f16 (by intro c hc hm; first | (simp at hm; done) | (have hx := (hES.ge c hm).1; omega) | (simp only [List.mem_cons, List.mem_singleton, List.not_mem_nil, or_false] at hm; omega))
    replace hmap := f16.blk hmap (by simp only [List.mem_cons, List.not_mem_nil, or_false, not_or]; omega)
    replace hES := hES.fr f16 (by intro i hi; simp only [List.mem_cons, List.mem_singleton, List.not_mem_nil, or_false] at hi; rcases hi with rfl | rfl; exact nx_b17; exact nx_b19)
    replace hi17 := Nat.lt_of_lt_of_le hi17 f16.size
    replace hi4 := Nat.lt_of_lt_of_le hi4 f16.size
    replace hb4 := f16.blk hb4 (by simp only [List.mem_cons, List.not_mem_nil, or_false, not_or]; omega)
    replace hi19 := Nat.lt_of_lt_of_le hi19 f16.size
    have G17 := f16
    have HG17 := Fr.refl [b17, b19] w15
    refine DC.seq ?_
    refine DC.region ?_
    refine DL.nextMap rfl rfl rfl hb19 hmap hold (fun hz => ?_) (fun en w18 hen f19 hs20 hb19' => ?_)
    · refine DL.y rfl rfl (Y.extract rfl rfl) ?_
      refine DL.nil ?_
      show DC _ _ _ _ _ _
      refine DC.seq ?_
      refine DC.condF rfl ?_
      refine DC.exit ?_
      show DC _ _ _ _ _ _
      refine DC.seq ?_
      refine DC.region ?_
      have hkn : k = keys.length ∧ seen.Perm (List.range keys.length) := by
        have hall : ∀ i, i < keys.length → i ∈ seen := fun i hi => by
          have h1 := left_none hz (en := ⟨.string keys[i], xs i, i⟩) (by have := hent i hi; rw [← Array.getElem?_toList] at this; exact List.mem_of_getElem? this)
          simpa using h1
        have hp : seen.Perm (List.range keys.length) := (List.perm_ext_iff_of_nodup hsn List.nodup_range).2 (fun x => ⟨fun h => List.mem_range.2 (hsl x h), fun h => hall x (List.mem_range.1 h)⟩)
        exact ⟨by have := hp.length_eq; simp at this; omega, hp⟩
      obtain ⟨hkn, hperm⟩ := hkn
      refine DL.y rfl rfl (Y.loadB F.sc201 rfl hb4 rfl) ?_
      refine DL.y rfl rfl (Y.mkI F.if201) ?_
      refine DL.y rfl rfl (Y.mkFn1 rfl) ?_
      refine DL.call rfl rfl F.nm189 rfl (sort_kv (n := keys.length) (xs := xs) (seen := seen) rfl hb17 hb4 (by omega) hsl hperm (fun i h => (hgv i (by omega)).one) hcj hrise hnk) ?_
      rintro _ w20 f21 ⟨rfl, ⟨cur, hb17⟩, hkv⟩
      replace FR := FR.put f21 (by intro i hi; simp only [List.mem_cons, List.mem_singleton, List.not_mem_nil, or_false] at hi; rcases hi with rfl; all_goals (first | (left; simp; done) | (right; omega)))
      replace hT : Tabs w20 := by first | exact hT.es hES f21 | exact hT.fr f21 (by intro c hc hm; first | (simp at hm; done) | (simp only [List.mem_cons, List.mem_singleton, List.not_mem_nil, or_false] at hm; have := hES.two; omega))
      replace hgv := hgv.fr f21 (by intro c hc hm; first | (simp at hm; done) | (have hx := (hES.ge c hm).1; omega) | (simp only [List.mem_cons, List.mem_singleton, List.not_mem_nil, or_false] at hm; omega))
      replace hmap := f21.blk hmap (by simp only [List.mem_cons, List.not_mem_nil, or_false, not_or]; omega)
      replace hES := hES.fr f21 (by intro i hi; simp only [List.mem_cons, List.mem_singleton, List.not_mem_nil, or_false] at hi; rcases hi with rfl; exact nx_b17)
      replace hi17 := Nat.lt_of_lt_of_le hi17 f21.size
      replace hi4 := Nat.lt_of_lt_of_le hi4 f21.size
      replace hb4 := f21.blk hb4 (by simp only [List.mem_cons, List.not_mem_nil, or_false, not_or]; omega)
      replace hi19 := Nat.lt_of_lt_of_le hi19 f21.size
      replace hb19 := f21.blk hb19 (by simp only [List.mem_cons, List.not_mem_nil, or_false, not_or]; omega)
      replace hkv : KVs w20 b17 keys xs := hkv
      refine DL.nil ?_
      show DC _ _ _ _ _ _
      refine DC.seq ?_
      refine DC.seq ?_
      refine DC.region ?_
      refine DL.y rfl rfl (Y.loadB F.sc201 rfl hb4 rfl) ?_
      refine DL.y rfl rfl (Y.lenS Tryz.underlying201 rfl) ?_
      refine DL.y rfl rfl (Y.move) ?_
      refine DL.nil ?_
      show DC _ _ _ _ _ _
      refine DC.block ?_
      refine DC.loopE (σ := Nat × List Nat) [(8, 9), (39, 64)] [(0, (.pointer (some ⟨be, 0, none⟩))), (37, .slice (some ⟨b17, 0, none⟩) keys.length keys.length), (38, .int .i64 (keys.length : Int))] (fun (i, _) => [(39, .int .i64 (i : Int))]) (fun sg wl => Fr X1 w20 wl ∧ (fun (i, Xc) wl => i ≤ keys.length ∧ ES wl B be b Xc (l ++ (123 :: joinT ((jMs keys vals).take i))) ∧ Sub Xc X1 w20) sg wl) (fun (i, _) => keys.length - i) ((0, X1)) rfl ?_ ?_ ?_ ?_
      · exact ⟨rfl, rfl, rfl⟩
      · exact rfl
      · exact ⟨Fr.refl _ _, Nat.zero_le _, hES.cast (by simp [joinT]), Sub.refl _ _⟩
      · rintro e0 ⟨i, Xc⟩ j w22 ⟨f23, hi0, hEL, hsl2⟩
        have xFR' := xFR.step FR.size hsl2
        replace FR := FR.put f23 xFR
        replace xFR := xFR'
        replace hT : Tabs w22 := by first | exact hT.es hES f23 | exact hT.fr f23 (by intro c hc hm; first | (simp at hm; done) | (simp only [List.mem_cons, List.mem_singleton, List.not_mem_nil, or_false] at hm; have := hES.two; omega))
        replace hgv := hgv.fr f23 (by intro c hc hm; first | (simp at hm; done) | (have hx := (hES.ge c hm).1; omega) | (simp only [List.mem_cons, List.mem_singleton, List.not_mem_nil, or_false] at hm; omega))
        have nx_r' := hsl2.not nx_r (lt_of_blk hmap)
        replace hmap := f23.blk hmap nx_r
        replace nx_r := nx_r'
        replace hi17 := Nat.lt_of_lt_of_le hi17 f23.size
        replace hi4 := Nat.lt_of_lt_of_le hi4 f23.size
        have nx_b4' := hsl2.not nx_b4 (lt_of_blk hb4)
        replace hb4 := f23.blk hb4 nx_b4
        replace nx_b4 := nx_b4'
        replace hi19 := Nat.lt_of_lt_of_le hi19 f23.size
        have nx_b19' := hsl2.not nx_b19 (lt_of_blk hb19)
        replace hb19 := f23.blk hb19 nx_b19
        replace nx_b19 := nx_b19'
        replace hkv := hkv.fr f23 (by first | (simp; done) | exact nx_b17 | (simp only [List.mem_cons, List.mem_singleton, List.not_mem_nil, or_false, not_or]; omega))
        have nx_b17' := hsl2.not nx_b17 (lt_of_blk hb17)
        replace hb17 := f23.blk hb17 nx_b17
        replace nx_b17 := nx_b17'
        have G24 := f23
        have xG24 := hsl2
        replace hES := hEL
        have hji := hjl i
        refine DC.seq ?_
        refine DC.region ?_
        refine DL.if rfl rfl (Y.lt rfl rfl) (fun c40 => ?_) (fun c40 => ?_)
        · have hi : i < keys.length := by omega
          have hiv : i < vals.length := by omega
          have hci := hkv i hi
          have hone := kv_one keys[i] (xs i) (hgv i hiv).one
          refine DL.nil ?_
          show DC _ _ _ _ _ _
          refine DC.seq ?_
          refine DC.condT rfl ?_
          refine DC.skip ?_
          show DC _ _ _ _ _ _
          refine DC.seq ?_
          refine DC.block ?_
          refine DC.seq ?_
          refine DC.region ?_
          refine DL.y rfl rfl (Y.move) ?_
          refine DL.y rfl rfl (Y.index F.sl201 rfl rfl (rfl) (hi)) ?_
          refine DL.y rfl rfl (Y.loadAn (cs := #[.string keys[i], xs i]) (m := 2) rfl F.ag203 rfl hci) ?_
          refine DL.alloc rfl rfl F.z203 rfl ?_
          intro b9 w25 f26 lo9 hi9 hb9
          have nx_b9 : b9 ∉ Xc := fun h => by have := (hES.ge _ h).2; omega
          have lt_b17_b9 : b17 < b9 := Nat.lt_of_lt_of_le hi17 lo9
          have lt_b4_b9 : b4 < b9 := Nat.lt_of_lt_of_le hi4 lo9
          have lt_b19_b9 : b19 < b9 := Nat.lt_of_lt_of_le hi19 lo9
          have lo9G24 := Nat.le_trans G24.size lo9
          replace lo9 := Nat.le_trans FR.size lo9
          replace FR := FR.tr0 f26
          replace G24 := G24.tr0 f26
          replace hT : Tabs w25 := by first | exact hT.es hES f26 | exact hT.fr f26 (by intro c hc hm; first | (simp at hm; done) | (simp only [List.mem_cons, List.mem_singleton, List.not_mem_nil, or_false] at hm; have := hES.two; omega))
          replace hgv := hgv.fr f26 (by intro c hc hm; first | (simp at hm; done) | (have hx := (hES.ge c hm).1; omega) | (simp only [List.mem_cons, List.mem_singleton, List.not_mem_nil, or_false] at hm; omega))
          replace hmap := f26.blk0 hmap
          replace hi17 := Nat.lt_of_lt_of_le hi17 f26.size
          replace hi4 := Nat.lt_of_lt_of_le hi4 f26.size
          replace hb4 := f26.blk0 hb4
          replace hi19 := Nat.lt_of_lt_of_le hi19 f26.size
          replace hb19 := f26.blk0 hb19
          replace hkv := hkv.fr f26 (by first | (simp; done) | exact nx_b17 | (simp only [List.mem_cons, List.mem_singleton, List.not_mem_nil, or_false, not_or]; omega))
          replace hb17 := f26.blk0 hb17
          replace hES := hES.fr0 f26
          refine DL.y rfl rfl (Y.assign) ?_
          refine DL.storeA (cs := #[.string keys[i], xs i]) rfl F.ag203 rfl rfl rfl hone hb9 rfl ?_
          intro w27 f28 hs29 hb9'
          replace FR := FR.put f28 (by intro i hi; simp only [List.mem_cons, List.mem_singleton, List.not_mem_nil, or_false] at hi; rcases hi with rfl; all_goals (first | (left; simp; done) | (right; omega)))
          replace G24 := G24.put f28 (by intro i hi; simp only [List.mem_cons, List.mem_singleton, List.not_mem_nil, or_false] at hi; rcases hi with rfl; all_goals (first | (left; simp; done) | (right; omega)))
          replace hT : Tabs w27 := by first | exact hT.es hES f28 | exact hT.fr f28 (by intro c hc hm; first | (simp at hm; done) | (simp only [List.mem_cons, List.mem_singleton, List.not_mem_nil, or_false] at hm; have := hES.two; omega))
          replace hgv := hgv.fr f28 (by intro c hc hm; first | (simp at hm; done) | (have hx := (hES.ge c hm).1; omega) | (simp only [List.mem_cons, List.mem_singleton, List.not_mem_nil, or_false] at hm; omega))
          replace hmap := f28.blk hmap (by simp only [List.mem_cons, List.not_mem_nil, or_false, not_or]; omega)
          replace hi17 := Nat.lt_of_lt_of_le hi17 f28.size
          replace hi4 := Nat.lt_of_lt_of_le hi4 f28.size
          replace hb4 := f28.blk hb4 (by simp only [List.mem_cons, List.not_mem_nil, or_false, not_or]; omega)
          replace hi19 := Nat.lt_of_lt_of_le hi19 f28.size
          replace hb19 := f28.blk hb19 (by simp only [List.mem_cons, List.not_mem_nil, or_false, not_or]; omega)
          replace hkv := hkv.fr f28 (by first | (simp; done) | exact nx_b17 | (simp only [List.mem_cons, List.mem_singleton, List.not_mem_nil, or_false, not_or]; omega))
          replace hb17 := f28.blk hb17 (by simp only [List.mem_cons, List.not_mem_nil, or_false, not_or]; omega)
          replace hES := hES.fr f28 (by intro i hi; simp only [List.mem_cons, List.mem_singleton, List.not_mem_nil, or_false] at hi; rcases hi with rfl; exact nx_b9)
          replace hi9 := Nat.lt_of_lt_of_le hi9 f28.size
          replace hb9 := hb9'
          refine DL.nil ?_
          show DC _ _ _ _ _ _
          refine DC.seq ?_
          refine DC.seq ?_
          refine DC.region ?_
          refine DL.y rfl rfl (Y.move) ?_
          refine DL.if rfl rfl (Y.gt rfl rfl) (fun c45 => ?_) (fun c45 => ?_)
          · refine DL.nil ?_
            show DC _ _ _ _ _ _
            refine DC.condT rfl ?_
            refine DC.region ?_
            refine DL.y rfl rfl (Y.move) ?_
            refine DL.y rfl rfl (Y.nil rfl) ?_
            refine DL.y rfl rfl (Y.field F.fd164_0 rfl) ?_
            refine DL.y rfl rfl (Y.load F.sc161 rfl hES.cell) ?_
            refine DL.invoke rfl rfl rfl rfl (hmWB _ _) (hES.wbyte (c := 44) (by first | omega | (simp only [List.length_append, List.length_cons, List.length_nil]; omega))) ?_
            rintro _ w33 f34 ⟨X30, hE32, hs31⟩
            have xFR' := xFR.step FR.size hs31
            replace FR := FR.put f34 xFR
            replace xFR := xFR'
            have xG24' := xG24.step G24.size hs31
            replace G24 := G24.put f34 xG24
            replace xG24 := xG24'
            replace hT : Tabs w33 := by first | exact hT.es hES f34 | exact hT.fr f34 (by intro c hc hm; first | (simp at hm; done) | (simp only [List.mem_cons, List.mem_singleton, List.not_mem_nil, or_false] at hm; have := hES.two; omega))
            replace hgv := hgv.fr f34 (by intro c hc hm; first | (simp at hm; done) | (have hx := (hES.ge c hm).1; omega) | (simp only [List.mem_cons, List.mem_singleton, List.not_mem_nil, or_false] at hm; omega))
            have nx_r' := hs31.not nx_r (lt_of_blk hmap)
            replace hmap := f34.blk hmap nx_r
            replace nx_r := nx_r'
            replace hi17 := Nat.lt_of_lt_of_le hi17 f34.size
            replace hi4 := Nat.lt_of_lt_of_le hi4 f34.size
            have nx_b4' := hs31.not nx_b4 (lt_of_blk hb4)
            replace hb4 := f34.blk hb4 nx_b4
            replace nx_b4 := nx_b4'
            replace hi19 := Nat.lt_of_lt_of_le hi19 f34.size
            have nx_b19' := hs31.not nx_b19 (lt_of_blk hb19)
            replace hb19 := f34.blk hb19 nx_b19
            replace nx_b19 := nx_b19'
            replace hkv := hkv.fr f34 (by first | (simp; done) | exact nx_b17 | (simp only [List.mem_cons, List.mem_singleton, List.not_mem_nil, or_false, not_or]; omega))
            have nx_b17' := hs31.not nx_b17 (lt_of_blk hb17)
            replace hb17 := f34.blk hb17 nx_b17
            replace nx_b17 := nx_b17'
            replace hi9 := Nat.lt_of_lt_of_le hi9 f34.size
            have nx_b9' := hs31.not nx_b9 (lt_of_blk hb9)
            replace hb9 := f34.blk hb9 nx_b9
            replace nx_b9 := nx_b9'
            replace hES := hE32
            refine DL.nil ?_
            show DC _ _ _ _ _ _
            refine DC.seq ?_
            refine DC.region ?_
            refine DL.y rfl rfl (Y.move) ?_
            refine DL.y rfl rfl (Y.field F.fd203_0 rfl) ?_
            refine DL.y rfl rfl (Y.loadB F.sc9 rfl hb9 rfl) ?_
            refine DL.call rfl rfl F.nm170 rfl (encodeString_any hES hT (hkval i hi) (by have := key_size hi; first | omega | (simp only [List.length_append, List.length_cons, List.length_nil]; omega))) ?_
            rintro _ w38 f39 ⟨rfl, X35, hE37, hs36⟩
            have xFR' := xFR.step FR.size hs36
            replace FR := FR.put f39 xFR
            replace xFR := xFR'
            have xG24' := xG24.step G24.size hs36
            replace G24 := G24.put f39 xG24
            replace xG24 := xG24'
            replace hT : Tabs w38 := by first | exact hT.es hES f39 | exact hT.fr f39 (by intro c hc hm; first | (simp at hm; done) | (simp only [List.mem_cons, List.mem_singleton, List.not_mem_nil, or_false] at hm; have := hES.two; omega))
            replace hgv := hgv.fr f39 (by intro c hc hm; first | (simp at hm; done) | (have hx := (hES.ge c hm).1; omega) | (simp only [List.mem_cons, List.mem_singleton, List.not_mem_nil, or_false] at hm; omega))
            have nx_r' := hs36.not nx_r (lt_of_blk hmap)
            replace hmap := f39.blk hmap nx_r
            replace nx_r := nx_r'
            replace hi17 := Nat.lt_of_lt_of_le hi17 f39.size
            replace hi4 := Nat.lt_of_lt_of_le hi4 f39.size
            have nx_b4' := hs36.not nx_b4 (lt_of_blk hb4)
            replace hb4 := f39.blk hb4 nx_b4
            replace nx_b4 := nx_b4'
            replace hi19 := Nat.lt_of_lt_of_le hi19 f39.size
            have nx_b19' := hs36.not nx_b19 (lt_of_blk hb19)
            replace hb19 := f39.blk hb19 nx_b19
            replace nx_b19 := nx_b19'
            replace hkv := hkv.fr f39 (by first | (simp; done) | exact nx_b17 | (simp only [List.mem_cons, List.mem_singleton, List.not_mem_nil, or_false, not_or]; omega))
            have nx_b17' := hs36.not nx_b17 (lt_of_blk hb17)
            replace hb17 := f39.blk hb17 nx_b17
            replace nx_b17 := nx_b17'
            replace hi9 := Nat.lt_of_lt_of_le hi9 f39.size
            have nx_b9' := hs36.not nx_b9 (lt_of_blk hb9)
            replace hb9 := f39.blk hb9 nx_b9
            replace nx_b9 := nx_b9'
            replace hES := hE37
            refine DL.nil ?_
            show DC _ _ _ _ _ _
            refine DC.seq ?_
            refine DC.region ?_
            refine DL.y rfl rfl (Y.move) ?_
            refine DL.y rfl rfl (Y.nil rfl) ?_
            refine DL.y rfl rfl (Y.field F.fd164_0 rfl) ?_
            refine DL.y rfl rfl (Y.load F.sc161 rfl hES.cell) ?_
            refine DL.invoke rfl rfl rfl rfl (hmWB _ _) (hES.wbyte (c := 58) (by have := key_size hi; have := escT_len keys[i].data.toList; have := size_list keys[i]; simp only [qL]; first | omega | (simp only [List.length_append, List.length_cons, List.length_nil]; omega))) ?_
            rintro _ w43 f44 ⟨X40, hE42, hs41⟩
            have xFR' := xFR.step FR.size hs41
            replace FR := FR.put f44 xFR
            replace xFR := xFR'
            have xG24' := xG24.step G24.size hs41
            replace G24 := G24.put f44 xG24
            replace xG24 := xG24'
            replace hT : Tabs w43 := by first | exact hT.es hES f44 | exact hT.fr f44 (by intro c hc hm; first | (simp at hm; done) | (simp only [List.mem_cons, List.mem_singleton, List.not_mem_nil, or_false] at hm; have := hES.two; omega))
            replace hgv := hgv.fr f44 (by intro c hc hm; first | (simp at hm; done) | (have hx := (hES.ge c hm).1; omega) | (simp only [List.mem_cons, List.mem_singleton, List.not_mem_nil, or_false] at hm; omega))
            have nx_r' := hs41.not nx_r (lt_of_blk hmap)
            replace hmap := f44.blk hmap nx_r
            replace nx_r := nx_r'
            replace hi17 := Nat.lt_of_lt_of_le hi17 f44.size
            replace hi4 := Nat.lt_of_lt_of_le hi4 f44.size
            have nx_b4' := hs41.not nx_b4 (lt_of_blk hb4)
            replace hb4 := f44.blk hb4 nx_b4
            replace nx_b4 := nx_b4'
            replace hi19 := Nat.lt_of_lt_of_le hi19 f44.size
            have nx_b19' := hs41.not nx_b19 (lt_of_blk hb19)
            replace hb19 := f44.blk hb19 nx_b19
            replace nx_b19 := nx_b19'
            replace hkv := hkv.fr f44 (by first | (simp; done) | exact nx_b17 | (simp only [List.mem_cons, List.mem_singleton, List.not_mem_nil, or_false, not_or]; omega))
            have nx_b17' := hs41.not nx_b17 (lt_of_blk hb17)
            replace hb17 := f44.blk hb17 nx_b17
            replace nx_b17 := nx_b17'
            replace hi9 := Nat.lt_of_lt_of_le hi9 f44.size
            have nx_b9' := hs41.not nx_b9 (lt_of_blk hb9)
            replace hb9 := f44.blk hb9 nx_b9
            replace nx_b9 := nx_b9'
            replace hES := hE42
            refine DL.nil ?_
            show DC _ _ _ _ _ _
            refine DC.region ?_
            refine DL.y rfl rfl (Y.move) ?_
            refine DL.y rfl rfl (Y.field F.fd203_1 rfl) ?_
            refine DL.y rfl rfl (Y.loadB F.sc20 rfl hb9 rfl) ?_
            refine DL.call rfl rfl F.nm155 rfl (ih _ (xs i) B be b _ _ _ (by have := nodes_le hiv; omega) hm2 (by have := bytes_le hiv; omega) (hg i hiv) (hgv i hiv) hES hT (by have := key_size hi; have := escT_len keys[i].data.toList; have := size_list keys[i]; simp only [qL]; first | omega | (simp only [List.length_append, List.length_cons, List.length_nil]; omega))) ?_
            rintro _ w48 f49 ⟨rfl, X45, hE47, hs46⟩
            have xFR' := xFR.step FR.size hs46
            replace FR := FR.put f49 xFR
            replace xFR := xFR'
            have xG24' := xG24.step G24.size hs46
            replace G24 := G24.put f49 xG24
            replace xG24 := xG24'
            replace hT : Tabs w48 := by first | exact hT.es hES f49 | exact hT.fr f49 (by intro c hc hm; first | (simp at hm; done) | (simp only [List.mem_cons, List.mem_singleton, List.not_mem_nil, or_false] at hm; have := hES.two; omega))
            replace hgv := hgv.fr f49 (by intro c hc hm; first | (simp at hm; done) | (have hx := (hES.ge c hm).1; omega) | (simp only [List.mem_cons, List.mem_singleton, List.not_mem_nil, or_false] at hm; omega))
            have nx_r' := hs46.not nx_r (lt_of_blk hmap)
            replace hmap := f49.blk hmap nx_r
            replace nx_r := nx_r'
            replace hi17 := Nat.lt_of_lt_of_le hi17 f49.size
            replace hi4 := Nat.lt_of_lt_of_le hi4 f49.size
            have nx_b4' := hs46.not nx_b4 (lt_of_blk hb4)
            replace hb4 := f49.blk hb4 nx_b4
            replace nx_b4 := nx_b4'
            replace hi19 := Nat.lt_of_lt_of_le hi19 f49.size
            have nx_b19' := hs46.not nx_b19 (lt_of_blk hb19)
            replace hb19 := f49.blk hb19 nx_b19
            replace nx_b19 := nx_b19'
            replace hkv := hkv.fr f49 (by first | (simp; done) | exact nx_b17 | (simp only [List.mem_cons, List.mem_singleton, List.not_mem_nil, or_false, not_or]; omega))
            have nx_b17' := hs46.not nx_b17 (lt_of_blk hb17)
            replace hb17 := f49.blk hb17 nx_b17
            replace nx_b17 := nx_b17'
            replace hi9 := Nat.lt_of_lt_of_le hi9 f49.size
            have nx_b9' := hs46.not nx_b9 (lt_of_blk hb9)
            replace hb9 := f49.blk hb9 nx_b9
            replace nx_b9 := nx_b9'
            replace hES := hE47
            refine DL.nil ?_
            show DC _ _ _ _ _ _
            refine DC.region ?_
            refine DL.y rfl rfl (Y.addI (c := ((i + 1 : Nat) : Int)) rfl rfl (by omega) (by omega) (by omega)) ?_
            refine DL.y rfl rfl (Y.move) ?_
            refine DL.nil ?_
            exact ⟨(i + 1, X45), ⟨G24, hi, hES.cast (by rw [joinT_succ (by rw [jMs_len keys vals hkl]; exact hi), jMs_get' hkl hi, if_neg (by omega)]; simp), xG24⟩, by show keys.length - (i + 1) < keys.length - i; omega, rfl⟩
          · refine DL.nil ?_
            show DC _ _ _ _ _ _
            refine DC.condF rfl ?_
            refine DC.skip ?_
            show DC _ _ _ _ _ _
            refine DC.seq ?_
            refine DC.region ?_
            refine DL.y rfl rfl (Y.move) ?_
            refine DL.y rfl rfl (Y.field F.fd203_0 rfl) ?_
            refine DL.y rfl rfl (Y.loadB F.sc9 rfl hb9 rfl) ?_
            refine DL.call rfl rfl F.nm170 rfl (encodeString_any hES hT (hkval i hi) (by have := key_size hi; first | omega | (simp only [List.length_append, List.length_cons, List.length_nil]; omega))) ?_
            rintro _ w53 f54 ⟨rfl, X50, hE52, hs51⟩
            have xFR' := xFR.step FR.size hs51
            replace FR := FR.put f54 xFR
            replace xFR := xFR'
            have xG24' := xG24.step G24.size hs51
            replace G24 := G24.put f54 xG24
            replace xG24 := xG24'
            replace hT : Tabs w53 := by first | exact hT.es hES f54 | exact hT.fr f54 (by intro c hc hm; first | (simp at hm; done) | (simp only [List.mem_cons, List.mem_singleton, List.not_mem_nil, or_false] at hm; have := hES.two; omega))
            replace hgv := hgv.fr f54 (by intro c hc hm; first | (simp at hm; done) | (have hx := (hES.ge c hm).1; omega) | (simp only [List.mem_cons, List.mem_singleton, List.not_mem_nil, or_false] at hm; omega))
            have nx_r' := hs51.not nx_r (lt_of_blk hmap)
            replace hmap := f54.blk hmap nx_r
            replace nx_r := nx_r'
            replace hi17 := Nat.lt_of_lt_of_le hi17 f54.size
            replace hi4 := Nat.lt_of_lt_of_le hi4 f54.size
            have nx_b4' := hs51.not nx_b4 (lt_of_blk hb4)
            replace hb4 := f54.blk hb4 nx_b4
            replace nx_b4 := nx_b4'
            replace hi19 := Nat.lt_of_lt_of_le hi19 f54.size
            have nx_b19' := hs51.not nx_b19 (lt_of_blk hb19)
            replace hb19 := f54.blk hb19 nx_b19
            replace nx_b19 := nx_b19'
            replace hkv := hkv.fr f54 (by first | (simp; done) | exact nx_b17 | (simp only [List.mem_cons, List.mem_singleton, List.not_mem_nil, or_false, not_or]; omega))
            have nx_b17' := hs51.not nx_b17 (lt_of_blk hb17)
            replace hb17 := f54.blk hb17 nx_b17
            replace nx_b17 := nx_b17'
            replace hi9 := Nat.lt_of_lt_of_le hi9 f54.size
            have nx_b9' := hs51.not nx_b9 (lt_of_blk hb9)
            replace hb9 := f54.blk hb9 nx_b9
            replace nx_b9 := nx_b9'
            replace hES := hE52
            refine DL.nil ?_
            show DC _ _ _ _ _ _
            refine DC.seq ?_
            refine DC.region ?_
            refine DL.y rfl rfl (Y.move) ?_
            refine DL.y rfl rfl (Y.nil rfl) ?_
            refine DL.y rfl rfl (Y.field F.fd164_0 rfl) ?_
            refine DL.y rfl rfl (Y.load F.sc161 rfl hES.cell) ?_
            refine DL.invoke rfl rfl rfl rfl (hmWB _ _) (hES.wbyte (c := 58) (by have := key_size hi; have := escT_len keys[i].data.toList; have := size_list keys[i]; simp only [qL]; first | omega | (simp only [List.length_append, List.length_cons, List.length_nil]; omega))) ?_
            rintro _ w58 f59 ⟨X55, hE57, hs56⟩
            have xFR' := xFR.step FR.size hs56
            replace FR := FR.put f59 xFR
            replace xFR := xFR'
            have xG24' := xG24.step G24.size hs56
            replace G24 := G24.put f59 xG24
            replace xG24 := xG24'
            replace hT : Tabs w58 := by first | exact hT.es hES f59 | exact hT.fr f59 (by intro c hc hm; first | (simp at hm; done) | (simp only [List.mem_cons, List.mem_singleton, List.not_mem_nil, or_false] at hm; have := hES.two; omega))
            replace hgv := hgv.fr f59 (by intro c hc hm; first | (simp at hm; done) | (have hx := (hES.ge c hm).1; omega) | (simp only [List.mem_cons, List.mem_singleton, List.not_mem_nil, or_false] at hm; omega))
            have nx_r' := hs56.not nx_r (lt_of_blk hmap)
            replace hmap := f59.blk hmap nx_r
            replace nx_r := nx_r'
            replace hi17 := Nat.lt_of_lt_of_le hi17 f59.size
            replace hi4 := Nat.lt_of_lt_of_le hi4 f59.size
            have nx_b4' := hs56.not nx_b4 (lt_of_blk hb4)
            replace hb4 := f59.blk hb4 nx_b4
            replace nx_b4 := nx_b4'
            replace hi19 := Nat.lt_of_lt_of_le hi19 f59.size
            have nx_b19' := hs56.not nx_b19 (lt_of_blk hb19)
            replace hb19 := f59.blk hb19 nx_b19
            replace nx_b19 := nx_b19'
            replace hkv := hkv.fr f59 (by first | (simp; done) | exact nx_b17 | (simp only [List.mem_cons, List.mem_singleton, List.not_mem_nil, or_false, not_or]; omega))
            have nx_b17' := hs56.not nx_b17 (lt_of_blk hb17)
            replace hb17 := f59.blk hb17 nx_b17
            replace nx_b17 := nx_b17'
            replace hi9 := Nat.lt_of_lt_of_le hi9 f59.size
            have nx_b9' := hs56.not nx_b9 (lt_of_blk hb9)
            replace hb9 := f59.blk hb9 nx_b9
            replace nx_b9 := nx_b9'
            replace hES := hE57
            refine DL.nil ?_
            show DC _ _ _ _ _ _
            refine DC.region ?_
            refine DL.y rfl rfl (Y.move) ?_
            refine DL.y rfl rfl (Y.field F.fd203_1 rfl) ?_
            refine DL.y rfl rfl (Y.loadB F.sc20 rfl hb9 rfl) ?_
            refine DL.call rfl rfl F.nm155 rfl (ih _ (xs i) B be b _ _ _ (by have := nodes_le hiv; omega) hm2 (by have := bytes_le hiv; omega) (hg i hiv) (hgv i hiv) hES hT (by have := key_size hi; have := escT_len keys[i].data.toList; have := size_list keys[i]; simp only [qL]; first | omega | (simp only [List.length_append, List.length_cons, List.length_nil]; omega))) ?_
            rintro _ w63 f64 ⟨rfl, X60, hE62, hs61⟩
            have xFR' := xFR.step FR.size hs61
            replace FR := FR.put f64 xFR
            replace xFR := xFR'
            have xG24' := xG24.step G24.size hs61
            replace G24 := G24.put f64 xG24
            replace xG24 := xG24'
            replace hT : Tabs w63 := by first | exact hT.es hES f64 | exact hT.fr f64 (by intro c hc hm; first | (simp at hm; done) | (simp only [List.mem_cons, List.mem_singleton, List.not_mem_nil, or_false] at hm; have := hES.two; omega))
            replace hgv := hgv.fr f64 (by intro c hc hm; first | (simp at hm; done) | (have hx := (hES.ge c hm).1; omega) | (simp only [List.mem_cons, List.mem_singleton, List.not_mem_nil, or_false] at hm; omega))
            have nx_r' := hs61.not nx_r (lt_of_blk hmap)
            replace hmap := f64.blk hmap nx_r
            replace nx_r := nx_r'
            replace hi17 := Nat.lt_of_lt_of_le hi17 f64.size
            replace hi4 := Nat.lt_of_lt_of_le hi4 f64.size
            have nx_b4' := hs61.not nx_b4 (lt_of_blk hb4)
            replace hb4 := f64.blk hb4 nx_b4
            replace nx_b4 := nx_b4'
            replace hi19 := Nat.lt_of_lt_of_le hi19 f64.size
            have nx_b19' := hs61.not nx_b19 (lt_of_blk hb19)
            replace hb19 := f64.blk hb19 nx_b19
            replace nx_b19 := nx_b19'
            replace hkv := hkv.fr f64 (by first | (simp; done) | exact nx_b17 | (simp only [List.mem_cons, List.mem_singleton, List.not_mem_nil, or_false, not_or]; omega))
            have nx_b17' := hs61.not nx_b17 (lt_of_blk hb17)
            replace hb17 := f64.blk hb17 nx_b17
            replace nx_b17 := nx_b17'
            replace hi9 := Nat.lt_of_lt_of_le hi9 f64.size
            have nx_b9' := hs61.not nx_b9 (lt_of_blk hb9)
            replace hb9 := f64.blk hb9 nx_b9
            replace nx_b9 := nx_b9'
            replace hES := hE62
            refine DL.nil ?_
            show DC _ _ _ _ _ _
            refine DC.region ?_
            refine DL.y rfl rfl (Y.addI (c := ((i + 1 : Nat) : Int)) rfl rfl (by omega) (by omega) (by omega)) ?_
            refine DL.y rfl rfl (Y.move) ?_
            refine DL.nil ?_
            exact ⟨(i + 1, X60), ⟨G24, hi, hES.cast (by rw [joinT_succ (by rw [jMs_len keys vals hkl]; exact hi), jMs_get' hkl hi, if_pos (by omega)]; simp), xG24⟩, by show keys.length - (i + 1) < keys.length - i; omega, rfl⟩
        · obtain rfl : i = keys.length := by omega
          refine DL.nil ?_
          show DC _ _ _ _ _ _
          refine DC.seq ?_
          refine DC.condF rfl ?_
          refine DC.exit ?_
          show DC _ _ _ _ _ _
          refine DC.region ?_
          refine DL.y rfl rfl (Y.move) ?_
          refine DL.y rfl rfl (Y.nil rfl) ?_
          refine DL.y rfl rfl (Y.field F.fd164_0 rfl) ?_
          refine DL.y rfl rfl (Y.load F.sc161 rfl hES.cell) ?_
          refine DL.invoke rfl rfl rfl rfl (hmWB _ _) (hES.wbyte (c := 125) (by first | omega | (simp only [List.length_append, List.length_cons, List.length_nil]; omega))) ?_
          rintro _ w68 f69 ⟨X65, hE67, hs66⟩
          have xFR' := xFR.step FR.size hs66
          replace FR := FR.put f69 xFR
          replace xFR := xFR'
          replace hT : Tabs w68 := by first | exact hT.es hES f69 | exact hT.fr f69 (by intro c hc hm; first | (simp at hm; done) | (simp only [List.mem_cons, List.mem_singleton, List.not_mem_nil, or_false] at hm; have := hES.two; omega))
          replace hgv := hgv.fr f69 (by intro c hc hm; first | (simp at hm; done) | (have hx := (hES.ge c hm).1; omega) | (simp only [List.mem_cons, List.mem_singleton, List.not_mem_nil, or_false] at hm; omega))
          have nx_r' := hs66.not nx_r (lt_of_blk hmap)
          replace hmap := f69.blk hmap nx_r
          replace nx_r := nx_r'
          replace hi17 := Nat.lt_of_lt_of_le hi17 f69.size
          replace hi4 := Nat.lt_of_lt_of_le hi4 f69.size
          have nx_b4' := hs66.not nx_b4 (lt_of_blk hb4)
          replace hb4 := f69.blk hb4 nx_b4
          replace nx_b4 := nx_b4'
          replace hi19 := Nat.lt_of_lt_of_le hi19 f69.size
          have nx_b19' := hs66.not nx_b19 (lt_of_blk hb19)
          replace hb19 := f69.blk hb19 nx_b19
          replace nx_b19 := nx_b19'
          replace hkv := hkv.fr f69 (by first | (simp; done) | exact nx_b17 | (simp only [List.mem_cons, List.mem_singleton, List.not_mem_nil, or_false, not_or]; omega))
          have nx_b17' := hs66.not nx_b17 (lt_of_blk hb17)
          replace hb17 := f69.blk hb17 nx_b17
          replace nx_b17 := nx_b17'
          replace hES := hE67
          refine DL.nil ?_
          exact FinQ.end0 (Ret.mk FR ⟨rfl, _, hES.cast (by rw [List.take_of_length_le (by rw [jMs_len keys vals hkl]; exact Nat.le_refl _)]; simp), xFR⟩)
    · replace FR := FR.put f19 (by intro i hi; simp only [List.mem_cons, List.mem_singleton, List.not_mem_nil, or_false] at hi; rcases hi with rfl; all_goals (first | (left; simp; done) | (right; omega)))
      replace G17 := G17.put f19 (by intro i hi; simp only [List.mem_cons, List.mem_singleton, List.not_mem_nil, or_false] at hi; rcases hi with rfl; all_goals (first | (left; simp; done) | (right; omega)))
      replace HG17 := HG17.put f19 (by intro i hi; simp only [List.mem_cons, List.mem_singleton, List.not_mem_nil, or_false] at hi; rcases hi with rfl; all_goals (first | (left; simp; done) | (right; omega)))
      replace hT : Tabs w18 := by first | exact hT.es hES f19 | exact hT.fr f19 (by intro c hc hm; first | (simp at hm; done) | (simp only [List.mem_cons, List.mem_singleton, List.not_mem_nil, or_false] at hm; have := hES.two; omega))
      replace hgv := hgv.fr f19 (by intro c hc hm; first | (simp at hm; done) | (have hx := (hES.ge c hm).1; omega) | (simp only [List.mem_cons, List.mem_singleton, List.not_mem_nil, or_false] at hm; omega))
      replace hmap := f19.blk hmap (by simp only [List.mem_cons, List.not_mem_nil, or_false, not_or]; omega)
      replace hES := hES.fr f19 (by intro i hi; simp only [List.mem_cons, List.mem_singleton, List.not_mem_nil, or_false] at hi; rcases hi with rfl; exact nx_b19)
      replace hi17 := Nat.lt_of_lt_of_le hi17 f19.size
      replace hi4 := Nat.lt_of_lt_of_le hi4 f19.size
      replace hb4 := f19.blk hb4 (by simp only [List.mem_cons, List.not_mem_nil, or_false, not_or]; omega)
      replace hi19 := Nat.lt_of_lt_of_le hi19 f19.size
      replace hb17 := f19.blk hb17 (by simp only [List.mem_cons, List.not_mem_nil, or_false, not_or]; omega)
      replace hb19 := hb19'
      obtain ⟨hmem, hns⟩ := left_mem hen
      obtain ⟨i, hi, hen'⟩ : ∃ i, ∃ hi : i < keys.length, es[i]? = some en := by
        obtain ⟨i, hi, he⟩ := List.getElem_of_mem hmem
        have hi2 : i < es.size := by simpa using hi
        exact ⟨i, by omega, by rw [Array.getElem?_eq_getElem hi2, ← he]; simp⟩
      obtain ⟨key, val, born⟩ := en
      have hx := (hent i hi).symm.trans hen'
      simp only [Option.some.injEq, MapEntry.mk.injEq] at hx
      obtain ⟨rfl, rfl, rfl⟩ := hx
      have hns : i ∉ seen := by simpa using hns
      have hkn : k < keys.length := by
        have h1 := nodup_bound keys.length (seen ++ [i]) (List.nodup_append.2 ⟨hsn, by simp, by intro a ha b hb e; simp at hb; subst hb; subst e; exact hns ha⟩) (fun x hx => by rcases List.mem_append.1 hx with h | h; exact hsl x h; simp at h; omega)
        simp only [List.length_append, List.length_singleton] at h1
        omega
      have hone1 : (xs i).oneCell' = true := (hgv i (by omega)).one
      have hone := kv_one keys[i] (xs i) hone1
      refine DL.y rfl rfl (Y.extract rfl rfl) ?_
      refine DL.nil ?_
      show DC _ _ _ _ _ _
      refine DC.seq ?_
      refine DC.condT rfl ?_
      refine DC.skip ?_
      show DC _ _ _ _ _ _
      refine DC.block ?_
      refine DC.seq ?_
      refine DC.region ?_
      refine DL.y rfl rfl (Y.entry rfl hb19 hmap hmem hnd) ?_
      refine DL.y rfl rfl (Y.extract rfl rfl) ?_
      refine DL.y rfl rfl (Y.extract rfl rfl) ?_
      refine DL.y rfl rfl (Y.assign) ?_
      refine DL.y rfl rfl (Y.assign) ?_
      refine DL.nil ?_
      show DC _ _ _ _ _ _
      refine DC.seq ?_
      refine DC.region ?_
      refine DL.y rfl rfl (Y.loadB F.sc201 rfl hb4 rfl) ?_
      refine DL.y rfl rfl (Y.move) ?_
      refine DL.y rfl rfl (Y.move) ?_
      refine DL.y rfl rfl (Y.move) ?_
      refine DL.y rfl rfl (Y.build (cs := #[.string keys[i], xs i]) (kvBuild keys[i] (xs i) hone1)) ?_
      refine DL.y rfl rfl (Y.index F.sl201 rfl rfl (rfl) (hkn)) ?_
      refine DL.storeK (cs := #[.string keys[i], xs i]) rfl F.ag203 rfl rfl rfl hone hb17 (by omega) ?_
      intro w70 cs' f71 hs72 hb17' hcz' hold' hnew'
      replace FR := FR.put f71 (by intro i hi; simp only [List.mem_cons, List.mem_singleton, List.not_mem_nil, or_false] at hi; rcases hi with rfl; all_goals (first | (left; simp; done) | (right; omega)))
      replace G17 := G17.put f71 (by intro i hi; simp only [List.mem_cons, List.mem_singleton, List.not_mem_nil, or_false] at hi; rcases hi with rfl; all_goals (first | (left; simp; done) | (right; omega)))
      replace HG17 := HG17.put f71 (by intro i hi; simp only [List.mem_cons, List.mem_singleton, List.not_mem_nil, or_false] at hi; rcases hi with rfl; all_goals (first | (left; simp; done) | (right; omega)))
      replace hT : Tabs w70 := by first | exact hT.es hES f71 | exact hT.fr f71 (by intro c hc hm; first | (simp at hm; done) | (simp only [List.mem_cons, List.mem_singleton, List.not_mem_nil, or_false] at hm; have := hES.two; omega))
      replace hgv := hgv.fr f71 (by intro c hc hm; first | (simp at hm; done) | (have hx := (hES.ge c hm).1; omega) | (simp only [List.mem_cons, List.mem_singleton, List.not_mem_nil, or_false] at hm; omega))
      replace hmap := f71.blk hmap (by simp only [List.mem_cons, List.not_mem_nil, or_false, not_or]; omega)
      replace hES := hES.fr f71 (by intro i hi; simp only [List.mem_cons, List.mem_singleton, List.not_mem_nil, or_false] at hi; rcases hi with rfl; exact nx_b17)
      replace hi17 := Nat.lt_of_lt_of_le hi17 f71.size
      replace hi4 := Nat.lt_of_lt_of_le hi4 f71.size
      replace hb4 := f71.blk hb4 (by simp only [List.mem_cons, List.not_mem_nil, or_false, not_or]; omega)
      replace hi19 := Nat.lt_of_lt_of_le hi19 f71.size
      replace hb19 := f71.blk hb19 (by simp only [List.mem_cons, List.not_mem_nil, or_false, not_or]; omega)
      replace hb17 := hb17'
      refine DL.nil ?_
      show DC _ _ _ _ _ _
      refine DC.region ?_
      refine DL.y rfl rfl (Y.move) ?_
      refine DL.y rfl rfl (Y.addI (c := ((k + 1 : Nat) : Int)) rfl rfl (by omega) (by omega) (by omega)) ?_
      refine DL.y rfl rfl (Y.assign) ?_
      refine DL.nil ?_
      refine ⟨(k + 1, seen ++ [i], cs'), ⟨G17, hkn, by simpa using hb19, hb17, by rw [hcz', hcz], by simp [hsk], List.nodup_append.2 ⟨hsn, by simp, by intro a ha b hb e; simp at hb; subst hb; subst e; exact hns ha⟩, fun x hx => by rcases List.mem_append.1 hx with h | h; exact hsl x h; simp at h; omega, fun j hj => ?_⟩, by show keys.length - (k + 1) < keys.length - k; omega, rfl⟩
      simp only [List.length_append, List.length_singleton] at hj
      by_cases hjk : j < seen.length
      · rw [hold' _ (by omega), hold' _ (by omega), List.getElem_append_left hjk]; exact hcj j hjk
      · have hje : j = k := by omega
        subst hje
        rw [List.getElem_append_right (by omega)]
        have h0 := hnew' 0 (by omega)
        have h1 := hnew' 1 (by omega)
        simp only [Nat.zero_add, Nat.add_zero] at h0 h1
        rw [h0, h1]
        simp [List.getD_eq_getElem?_getD, hi]

end Go.Proofs.YtmbleojlnaofjaaGreatDoor

/- The walks of a decimal's trim and digit. -/
namespace Go.Proofs.YtmbleojlnaofjaaGreatDoor
open Go Go.RowKit D Go.Deep
set_option linter.unusedVariables false
set_option linter.unusedSimpArgs false


/-- A decimal in block c. -/
structure Dm (w : World) (B c : Nat) (X : List Nat) (d : List Nat) (dp : Int) : Prop where
  out : ∃ v, w.heap[c]? = some (.cells #[v, .int .i64 dp] 242 (0, 0)) ∧ w.ownsRow B 5 1 v d.length (dv d) ∧ X = c :: ownL v
  lo : B ≤ c
theorem Dm.ge {w : World} {B c : Nat} {X : List Nat} {d : List Nat} {dp : Int} (h : Dm w B c X d dp) : ∀ i ∈ X, B ≤ i ∧ i < w.heap.size := by
  obtain ⟨v, hb, ho, rfl⟩ := h.out
  intro i hi
  rcases List.mem_cons.1 hi with rfl | hi
  · exact ⟨h.lo, lt_of_blk hb⟩
  · exact own_ge ho i hi
theorem Dm.fr {w w' : World} {B c : Nat} {X S : List Nat} {d : List Nat} {dp : Int} (h : Dm w B c X d dp) (f : Fr S w w') (hs : ∀ i ∈ S, i ∉ X) : Dm w' B c X d dp := by
  obtain ⟨v, hb, ho, rfl⟩ := h.out
  exact ⟨⟨v, f.blk hb (fun hi => hs c hi (by simp)), ownsRow_fr ho f (fun i hi hv => hs i hi (by simp [mem_ownL.2 hv])), rfl⟩, h.lo⟩
theorem Dm.fr0 {w w' : World} {B c : Nat} {X : List Nat} {d : List Nat} {dp : Int} (h : Dm w B c X d dp) (f : Fr [] w w') : Dm w' B c X d dp := h.fr f (by simp)
theorem own_ne_c {w : World} {B c n : Nat} {v : Value} {xs : List Value} {cs : Array Value} (ho : w.ownsRow B 5 1 v n xs) (hb : w.heap[c]? = some (.cells cs 242 (0, 0))) : c ∉ ownL v := fun h => Lib.ownBlock_ne ho hb (by decide) (mem_ownL.1 h)
theorem dvT (d : List Nat) : dv (d.take d.length) = dv d := by rw [List.take_length]
theorem take_zero_of {d : List Nat} {m : Nat} (hm : m ≤ d.length) (h0 : 0 < m) (h : d = d.take m ++ List.replicate (d.length - m) 0) (hz : dg d (m - 1) = 0) : d = d.take (m - 1) ++ List.replicate (d.length - (m - 1)) 0 := by
  have h1 : m - 1 < d.length := by omega
  have h2 : d.take m = d.take (m - 1) ++ [0] := by
    have e := List.take_succ_eq_append_getElem h1
    rw [show m - 1 + 1 = m by omega] at e
    rw [e, ← dg_lt h1, hz]
  conv => lhs; rw [h, h2]
  rw [List.append_assoc, show d.length - (m - 1) = (d.length - m) + 1 by omega, List.replicate_succ]
  rfl


theorem own_shrink' {w : World} {B e m cap k : Nat} {a : Option Addr} {d : List Nat} (h : w.ownsRow B e 1 (.slice a m cap) m (dv (d.take m))) (hk : k ≤ m) (hs : a ≠ none) : w.ownsRow B e 1 (.slice a k cap) k (dv (d.take k)) := by
  have := own_shrink h hk hs
  rwa [List.take_take, Nat.min_eq_left hk] at this
theorem ownL_slice {a : Option Addr} {m k cap : Nat} : ownL (.slice a m cap) = ownL (.slice a k cap) := by cases a <;> rfl

theorem trim_any {B c : Nat} {X d : List Nat} {dp : Int} {w : World} (h : Dm w B c X d dp) (hdl : d.length ≤ 1000000) : Calls Tryz.prog 233 #[(.pointer (some ⟨c, 0, none⟩))] w (Ret w [c] fun r w' => r = (.pointer (some ⟨c, 0, none⟩)) ∧ ∃ t z, Cut d t z ∧ Dm w' B c X t (if t = [] then 0 else dp)) := by
  obtain ⟨v, hb, ho, rfl⟩ := h.out
  have hB := h.lo
  obtain ⟨a, cap, rfl, _, _⟩ := own_cells ho
  refine calls_of Tryz.func233 rfl rfl rfl rfl ?_
  have FR := Fr.refl [c] w
  refine DC.seq ?_
  refine DC.region ?_
  refine DL.y rfl rfl (Y.assign) ?_
  refine DL.nil ?_
  show DC _ _ _ _ _ _
  refine DC.seq ?_
  refine DC.block ?_
  refine DC.loopE (σ := Nat) [(3, 37)] [(0, (.pointer (some ⟨c, 0, none⟩)))] (fun _ => []) (fun sg wl => Fr [c] w wl ∧ (fun m wl => m ≤ d.length ∧ wl.heap[c]? = some (.cells #[.slice a m cap, .int .i64 dp] 242 (0, 0)) ∧ wl.ownsRow B 5 1 (.slice a m cap) m (dv (d.take m)) ∧ d = d.take m ++ List.replicate (d.length - m) 0) sg wl) (fun m => m) (d.length) rfl ?_ ?_ ?_ ?_
  · exact rfl
  · exact trivial
  · exact ⟨Fr.refl _ _, Nat.le_refl _, hb, by rw [List.take_length]; exact ho, by simp⟩
  · rintro e0 m j w1 ⟨f2, hm, hb, ho, hdz⟩
    replace FR := FR.put f2 (by intro i hi; simp only [List.mem_cons, List.mem_singleton, List.not_mem_nil, or_false] at hi; rcases hi with rfl; all_goals (first | (left; simp; done) | (right; omega)))
    have G3 := f2
    have HG3 := Fr.refl [c] w1
    refine DC.seq ?_
    refine DC.seq ?_
    refine DC.still F.mixed (by kernel_rfl) ?_
    intro w4 f5 hsw4
    replace FR := FR.tr0 f5
    replace G3 := G3.tr0 f5
    replace HG3 := HG3.tr0 f5
    replace ho := ownsRow_fr ho f5 (by intro i hi hv; first | (simp at hi; done) | (simp only [List.mem_singleton] at hi; subst hi; exact own_ne_c ho hb (mem_ownL.2 hv)))
    replace hb := f5.blk0 hb
    refine DS.y rfl rfl (Y.move) ?_
    refine DS.y rfl rfl (Y.nil rfl) ?_
    refine DS.y rfl rfl (Y.field F.fd242_0 rfl) ?_
    refine DS.y rfl rfl (Y.loadB F.sc107 rfl hb rfl) ?_
    refine DS.y rfl rfl (Y.lenS Tryz.underlying107 rfl) ?_
    refine DS.if rfl rfl (Y.gt rfl rfl) (fun c8 => ?_) (fun c8 => ?_)
    · obtain ⟨g, rfl⟩ := own_some ho (by omega)
      refine DS.y rfl rfl (Y.move) ?_
      refine DS.y rfl rfl (Y.move) ?_
      refine DS.y rfl rfl (Y.nil rfl) ?_
      refine DS.y rfl rfl (Y.field F.fd242_0 rfl) ?_
      refine DS.y rfl rfl (Y.loadB F.sc107 rfl hb rfl) ?_
      refine DS.y rfl rfl (Y.move) ?_
      refine DS.y rfl rfl (Y.nil rfl) ?_
      refine DS.y rfl rfl (Y.field F.fd242_0 rfl) ?_
      refine DS.y rfl rfl (Y.loadB F.sc107 rfl hb rfl) ?_
      refine DS.y rfl rfl (Y.lenS Tryz.underlying107 rfl) ?_
      refine DS.y rfl rfl (Y.subI (c := ((m - 1 : Nat) : Int)) rfl rfl (by omega) (by omega) (by omega)) ?_
      refine DS.y rfl rfl (Y.index F.sl107 rfl rfl (rfl) (by omega)) ?_
      refine DS.y rfl rfl (Y.load F.sc5 rfl (own_dig ho (i := m - 1) (by omega))) ?_
      refine DS.if rfl rfl (Y.eq rfl rfl) (fun c22 => ?_) (fun c22 => ?_)
      · refine DS.y rfl rfl (Y.pickT rfl) ?_
        refine DS.nil ?_
        show DC _ _ _ _ _ _
        refine DC.condT rfl ?_
        refine DC.skip ?_
        show DC _ _ _ _ _ _
        refine DC.block ?_
        refine DC.tail 14 F.mixed (by kernel_rfl) ?_
        intro w6 f7 hsw6
        replace FR := FR.tr0 f7
        replace G3 := G3.tr0 f7
        replace HG3 := HG3.tr0 f7
        replace ho := ownsRow_fr ho f7 (by intro i hi hv; first | (simp at hi; done) | (simp only [List.mem_singleton] at hi; subst hi; exact own_ne_c ho hb (mem_ownL.2 hv)))
        replace hb := f7.blk0 hb
        refine DS.y rfl rfl (Y.move) ?_
        refine DS.y rfl rfl (Y.move) ?_
        refine DS.y rfl rfl (Y.nil rfl) ?_
        refine DS.y rfl rfl (Y.field F.fd242_0 rfl) ?_
        refine DS.y rfl rfl (Y.loadB F.sc107 rfl hb rfl) ?_
        refine DS.y rfl rfl (Y.move) ?_
        refine DS.y rfl rfl (Y.nil rfl) ?_
        refine DS.y rfl rfl (Y.field F.fd242_0 rfl) ?_
        refine DS.y rfl rfl (Y.loadB F.sc107 rfl hb rfl) ?_
        refine DS.y rfl rfl (Y.lenS Tryz.underlying107 rfl) ?_
        refine DS.y rfl rfl (Y.subI (c := ((m - 1 : Nat) : Int)) rfl rfl (by omega) (by omega) (by omega)) ?_
        refine DS.y rfl rfl (Y.sliceH (h := m - 1) F.sl107 rfl rfl rfl (by have := own_cap ho; omega)) ?_
        refine DS.y rfl rfl (Y.nil rfl) ?_
        refine DS.y rfl rfl (Y.field F.fd242_0 rfl) ?_
        refine DS.nil ?_
        show DL _ _ _ _ _ _ _
        refine DL.store rfl F.co107 F.in107 rfl rfl rfl hb rfl ?_
        intro w8 f9 hs10 hb'
        replace FR := FR.put f9 (by intro i hi; simp only [List.mem_cons, List.mem_singleton, List.not_mem_nil, or_false] at hi; rcases hi with rfl; all_goals (first | (left; simp; done) | (right; omega)))
        replace G3 := G3.put f9 (by intro i hi; simp only [List.mem_cons, List.mem_singleton, List.not_mem_nil, or_false] at hi; rcases hi with rfl; all_goals (first | (left; simp; done) | (right; omega)))
        replace HG3 := HG3.put f9 (by intro i hi; simp only [List.mem_cons, List.mem_singleton, List.not_mem_nil, or_false] at hi; rcases hi with rfl; all_goals (first | (left; simp; done) | (right; omega)))
        replace ho := ownsRow_fr ho f9 (by intro i hi hv; first | (simp at hi; done) | (simp only [List.mem_singleton] at hi; subst hi; exact own_ne_c ho hb (mem_ownL.2 hv)))
        replace hb := hb'
        refine DL.nil ?_
        have hz : dg d (m - 1) = 0 := by rw [dg_take (by omega)] at c22; omega
        exact ⟨m - 1, ⟨G3, by omega, hb, own_shrink' ho (by omega) (by simp), take_zero_of hm (by omega) hdz hz⟩, by show m - 1 < m; omega, trivial⟩
      · refine DS.y rfl rfl (Y.pickT rfl) ?_
        refine DS.nil ?_
        show DC _ _ _ _ _ _
        refine DC.condF rfl ?_
        refine DC.exit ?_
        show DC _ _ _ _ _ _
        refine DC.seq ?_
        refine DC.seq ?_
        refine DC.region ?_
        refine DL.y rfl rfl (Y.move) ?_
        refine DL.y rfl rfl (Y.nil rfl) ?_
        refine DL.y rfl rfl (Y.field F.fd242_0 rfl) ?_
        refine DL.y rfl rfl (Y.loadB F.sc107 rfl hb rfl) ?_
        refine DL.y rfl rfl (Y.lenS Tryz.underlying107 rfl) ?_
        refine DL.if rfl rfl (Y.eq rfl rfl) (fun c43 => ?_) (fun c43 => ?_)
        · refine DL.nil ?_
          show DC _ _ _ _ _ _
          refine DC.condT rfl ?_
          refine DC.region ?_
          refine DL.y rfl rfl (Y.move) ?_
          refine DL.y rfl rfl (Y.nil rfl) ?_
          refine DL.y rfl rfl (Y.field F.fd242_1 rfl) ?_
          refine DL.store rfl F.co3 F.in3 rfl rfl rfl hb rfl ?_
          intro w11 f12 hs13 hb'
          replace FR := FR.put f12 (by intro i hi; simp only [List.mem_cons, List.mem_singleton, List.not_mem_nil, or_false] at hi; rcases hi with rfl; all_goals (first | (left; simp; done) | (right; omega)))
          replace ho := ownsRow_fr ho f12 (by intro i hi hv; first | (simp at hi; done) | (simp only [List.mem_singleton] at hi; subst hi; exact own_ne_c ho hb (mem_ownL.2 hv)))
          replace hb := hb'
          refine DL.nil ?_
          show DC _ _ _ _ _ _
          refine DC.seq ?_
          refine DC.region ?_
          refine DL.y rfl rfl (Y.move) ?_
          refine DL.y rfl rfl (Y.assign) ?_
          refine DL.nil ?_
          show DC _ _ _ _ _ _
          refine DC.ret ?_
          have hlm : (d.take m).length = m := by rw [List.length_take]; omega
          refine FinQ.ret1 rfl (Ret.mk FR ⟨rfl, d.take m, d.length - m, ⟨hdz, fun hne => by rw [show (d.take m).length - 1 = m - 1 by rw [List.length_take]; omega]; intro h; rw [h] at c22; omega⟩, ?_⟩)
          rw [if_pos (List.eq_nil_of_length_eq_zero (by omega))]
          exact ⟨⟨_, hb, by rw [hlm]; exact ho, by rw [ownL_slice]⟩, hB⟩
        · refine DL.nil ?_
          show DC _ _ _ _ _ _
          refine DC.condF rfl ?_
          refine DC.skip ?_
          show DC _ _ _ _ _ _
          refine DC.seq ?_
          refine DC.region ?_
          refine DL.y rfl rfl (Y.move) ?_
          refine DL.y rfl rfl (Y.assign) ?_
          refine DL.nil ?_
          show DC _ _ _ _ _ _
          refine DC.ret ?_
          have hlm : (d.take m).length = m := by rw [List.length_take]; omega
          refine FinQ.ret1 rfl (Ret.mk FR ⟨rfl, d.take m, d.length - m, ⟨hdz, fun hne => by rw [show (d.take m).length - 1 = m - 1 by rw [List.length_take]; omega]; intro h; rw [h] at c22; omega⟩, ?_⟩)
          rw [if_neg (fun e => by rw [e] at hlm; simp at hlm; omega)]
          exact ⟨⟨_, hb, by rw [hlm]; exact ho, by rw [ownL_slice]⟩, hB⟩
    · have hm0 : m = 0 := by omega
      refine DS.y rfl rfl (Y.move) ?_
      refine DS.skip rfl rfl ?_
      refine DS.skip rfl rfl ?_
      refine DS.skip rfl rfl ?_
      refine DS.skip rfl rfl ?_
      refine DS.skip rfl rfl ?_
      refine DS.skip rfl rfl ?_
      refine DS.skip rfl rfl ?_
      refine DS.skip rfl rfl ?_
      refine DS.skip rfl rfl ?_
      refine DS.skip rfl rfl ?_
      refine DS.skip rfl rfl ?_
      refine DS.skip rfl rfl ?_
      refine DS.skip rfl rfl ?_
      refine DS.y rfl rfl (Y.pickF rfl) ?_
      refine DS.nil ?_
      show DC _ _ _ _ _ _
      refine DC.condF rfl ?_
      refine DC.exit ?_
      show DC _ _ _ _ _ _
      refine DC.seq ?_
      refine DC.seq ?_
      refine DC.region ?_
      refine DL.y rfl rfl (Y.move) ?_
      refine DL.y rfl rfl (Y.nil rfl) ?_
      refine DL.y rfl rfl (Y.field F.fd242_0 rfl) ?_
      refine DL.y rfl rfl (Y.loadB F.sc107 rfl hb rfl) ?_
      refine DL.y rfl rfl (Y.lenS Tryz.underlying107 rfl) ?_
      refine DL.if rfl rfl (Y.eq rfl rfl) (fun c43 => ?_) (fun c43 => ?_)
      · refine DL.nil ?_
        show DC _ _ _ _ _ _
        refine DC.condT rfl ?_
        refine DC.region ?_
        refine DL.y rfl rfl (Y.move) ?_
        refine DL.y rfl rfl (Y.nil rfl) ?_
        refine DL.y rfl rfl (Y.field F.fd242_1 rfl) ?_
        refine DL.store rfl F.co3 F.in3 rfl rfl rfl hb rfl ?_
        intro w14 f15 hs16 hb'
        replace FR := FR.put f15 (by intro i hi; simp only [List.mem_cons, List.mem_singleton, List.not_mem_nil, or_false] at hi; rcases hi with rfl; all_goals (first | (left; simp; done) | (right; omega)))
        replace ho := ownsRow_fr ho f15 (by intro i hi hv; first | (simp at hi; done) | (simp only [List.mem_singleton] at hi; subst hi; exact own_ne_c ho hb (mem_ownL.2 hv)))
        replace hb := hb'
        refine DL.nil ?_
        show DC _ _ _ _ _ _
        refine DC.seq ?_
        refine DC.region ?_
        refine DL.y rfl rfl (Y.move) ?_
        refine DL.y rfl rfl (Y.assign) ?_
        refine DL.nil ?_
        show DC _ _ _ _ _ _
        refine DC.ret ?_
        have hlm : (d.take m).length = m := by rw [List.length_take]; omega
        have hm0 : m = 0 := by omega
        refine FinQ.ret1 rfl (Ret.mk FR ⟨rfl, d.take m, d.length - m, ⟨hdz, fun hne => absurd (by simp [List.take_zero, hm0]) hne⟩, ?_⟩)
        rw [if_pos (List.eq_nil_of_length_eq_zero (by omega))]
        exact ⟨⟨_, hb, by rw [hlm]; exact ho, by rw [ownL_slice]⟩, hB⟩
      · refine DL.nil ?_
        show DC _ _ _ _ _ _
        refine DC.condF rfl ?_
        refine DC.skip ?_
        show DC _ _ _ _ _ _
        refine DC.seq ?_
        refine DC.region ?_
        refine DL.y rfl rfl (Y.move) ?_
        refine DL.y rfl rfl (Y.assign) ?_
        refine DL.nil ?_
        show DC _ _ _ _ _ _
        refine DC.ret ?_
        have hlm : (d.take m).length = m := by rw [List.length_take]; omega
        have hm0 : m = 0 := by omega
        refine FinQ.ret1 rfl (Ret.mk FR ⟨rfl, d.take m, d.length - m, ⟨hdz, fun hne => absurd (by simp [List.take_zero, hm0]) hne⟩, ?_⟩)
        rw [if_neg (fun e => by rw [e] at hlm; simp at hlm; omega)]
        exact ⟨⟨_, hb, by rw [hlm]; exact ho, by rw [ownL_slice]⟩, hB⟩

theorem digit_any {B c i : Nat} {X d : List Nat} {dp : Int} {w : World} (h : Dm w B c X d dp) : Calls Tryz.prog 240 #[(.pointer (some ⟨c, 0, none⟩)), .int .i64 (i : Int)] w (Ret w [] fun r w' => r = .int .u8 (dg d i : Int)) := by
  obtain ⟨v, hb, ho, rfl⟩ := h.out
  obtain ⟨a, cap, rfl, _, _⟩ := own_cells ho
  refine calls_of Tryz.func240 rfl rfl rfl rfl ?_
  have FR := Fr.refl [] w
  refine DC.seq ?_
  refine DC.region ?_
  refine DL.y rfl rfl (Y.assign) ?_
  refine DL.nil ?_
  show DC _ _ _ _ _ _
  refine DC.seq ?_
  refine DC.seq ?_
  refine DC.region ?_
  refine DL.y rfl rfl (Y.move) ?_
  refine DL.if rfl rfl (Y.ge rfl rfl) (fun c6 => ?_) (fun c6 => ?_)
  · refine DL.y rfl rfl (Y.move) ?_
    refine DL.y rfl rfl (Y.move) ?_
    refine DL.y rfl rfl (Y.move) ?_
    refine DL.y rfl rfl (Y.nil rfl) ?_
    refine DL.y rfl rfl (Y.field F.fd242_0 rfl) ?_
    refine DL.y rfl rfl (Y.loadB F.sc107 rfl hb rfl) ?_
    refine DL.y rfl rfl (Y.lenS Tryz.underlying107 rfl) ?_
    refine DL.if rfl rfl (Y.lt rfl rfl) (fun c14 => ?_) (fun c14 => ?_)
    · obtain ⟨g, rfl⟩ := own_some ho (by omega)
      refine DL.y rfl rfl (Y.pickT rfl) ?_
      refine DL.nil ?_
      show DC _ _ _ _ _ _
      refine DC.condT rfl ?_
      refine DC.seq ?_
      refine DC.region ?_
      refine DL.y rfl rfl (Y.move) ?_
      refine DL.y rfl rfl (Y.nil rfl) ?_
      refine DL.y rfl rfl (Y.field F.fd242_0 rfl) ?_
      refine DL.y rfl rfl (Y.loadB F.sc107 rfl hb rfl) ?_
      refine DL.y rfl rfl (Y.move) ?_
      refine DL.y rfl rfl (Y.index F.sl107 rfl rfl (rfl) (by omega)) ?_
      refine DL.y rfl rfl (Y.load F.sc5 rfl (own_dig ho (by omega))) ?_
      refine DL.y rfl rfl (Y.assign) ?_
      refine DL.nil ?_
      show DC _ _ _ _ _ _
      refine DC.ret ?_
      exact FinQ.ret1 rfl (Ret.mk FR rfl)
    · refine DL.y rfl rfl (Y.pickT rfl) ?_
      refine DL.nil ?_
      show DC _ _ _ _ _ _
      refine DC.condF rfl ?_
      refine DC.skip ?_
      show DC _ _ _ _ _ _
      refine DC.seq ?_
      refine DC.region ?_
      refine DL.y rfl rfl (Y.assign) ?_
      refine DL.nil ?_
      show DC _ _ _ _ _ _
      refine DC.ret ?_
      exact FinQ.ret1 rfl (Ret.mk FR (by rw [dg_ge (by omega)]; rfl))
  · exfalso; omega

end Go.Proofs.YtmbleojlnaofjaaGreatDoor

/- The walk of newDecimal. -/
namespace Go.Proofs.YtmbleojlnaofjaaGreatDoor
open Go Go.RowKit D Go.Deep
set_option linter.unusedVariables false
set_option linter.unusedSimpArgs false


theorem digL_len (n : Nat) : (digL n).length = (decL n).length := by simp [digL]
theorem digL_at {n i : Nat} (h : i < (decL n).length) : ((decL n)[i].toNat : Int) = ((48 + dg (digL n) i : Nat) : Int) := by
  have hb : ∀ (k n : Nat), n < 10 ^ (k + 1) → ∀ c ∈ decL n, 48 ≤ c.toNat ∧ c.toNat < 58 := by
    intro k
    induction k with
    | zero => intro n hn c hc; rw [decL_lt (by simpa using hn), List.mem_singleton] at hc; subst hc; rw [UInt8.toNat_ofNat']; simp at hn; omega
    | succ k ih =>
      intro n hn c hc
      by_cases h10 : n < 10
      · rw [decL_lt h10, List.mem_singleton] at hc; subst hc; rw [UInt8.toNat_ofNat']; omega
      · rw [decL_ge (by omega)] at hc
        rcases List.mem_append.1 hc with hc | hc
        · exact ih (n / 10) (by rw [Nat.pow_succ] at hn; omega) c hc
        · rw [List.mem_singleton] at hc; subst hc; rw [UInt8.toNat_ofNat']; omega
  have hn : n < 10 ^ (n + 1) := by
    have : ∀ m : Nat, m < 10 ^ (m + 1) := fun m => by
      induction m with
      | zero => decide
      | succ m ih => rw [Nat.pow_succ]; omega
    exact this n
  have h1 := hb n n hn _ (List.getElem_mem h)
  have h2 : dg (digL n) i = (decL n)[i].toNat - 48 := by rw [dg_lt (by rw [digL_len]; exact h)]; simp [digL]
  omega
theorem take_dg {d : List Nat} {i : Nat} (h : i < d.length) : d.take (i + 1) = d.take i ++ [dg d i] := by
  rw [List.take_succ_eq_append_getElem h, dg_lt h]

theorem newDecimal_any (n : Nat) (hn0 : 0 < n) (hn : n < 18446744073709551616) (w : World) : Calls Tryz.prog 209 #[.int .u64 (n : Int)] w (Ret w [] fun r w' => ∃ c X t, r = (.pointer (some ⟨c, 0, none⟩)) ∧ ∃ dp, Dm w' w.heap.size c X t dp ∧ Dv t dp n 0) := by
  have hdl := decL_len 19 n (by omega)
  refine calls_of Tryz.func209 rfl rfl rfl rfl ?_
  have FR := Fr.refl [] w
  refine DC.seq ?_
  refine DC.region ?_
  refine DL.y rfl rfl (Y.assign) ?_
  refine DL.nil ?_
  show DC _ _ _ _ _ _
  refine DC.seq ?_
  refine DC.region ?_
  refine DL.alloc rfl rfl F.z242 rfl ?_
  intro b3 w1 f2 lo3 hi3 hb3
  replace lo3 := Nat.le_trans FR.size lo3
  replace FR := FR.tr0 f2
  refine DL.nil ?_
  show DC _ _ _ _ _ _
  refine DC.seq ?_
  refine DC.seq ?_
  refine DC.region ?_
  refine DL.y rfl rfl (Y.move) ?_
  refine DL.call rfl rfl F.nm197 rfl (FormatUint_any n hn _) ?_
  rintro _ w3 f4 ⟨sd, rfl, hsd⟩
  replace FR := FR.tr0 f4
  replace hb3 := f4.blk0 hb3
  replace hi3 := Nat.lt_of_lt_of_le hi3 f4.size
  have hsz : sd.size = (decL n).length := by rw [size_list, hsd]
  refine DL.bytesOf rfl rfl Tryz.underlying9 Tryz.underlying107 Tryz.underlying5 rfl ?_
  intro b8 w5 cap8 f6 lo8 hi8 hc8
  have lt_b3_b8 : b3 < b8 := Nat.lt_of_lt_of_le hi3 lo8
  replace lo8 := Nat.le_trans FR.size lo8
  replace FR := FR.tr0 f6
  replace hb3 := f6.blk0 hb3
  replace hi3 := Nat.lt_of_lt_of_le hi3 f6.size
  refine DL.y rfl rfl (Y.lenS Tryz.underlying107 rfl) ?_
  refine DL.y rfl rfl (Y.move) ?_
  refine DL.nil ?_
  show DC _ _ _ _ _ _
  refine DC.block ?_
  obtain ⟨E0, hE0⟩ : ∃ E0, E0 = w5.heap.size := ⟨_, rfl⟩
  have hb3E : b3 < E0 := by omega
  have hb8E : b8 < E0 := by omega
  have hwE : w.heap.size ≤ E0 := by have := FR.size; omega
  have hEc := Nat.le_of_eq hE0
  refine DC.loopE (σ := Nat × Value) [(5, 5), (10, 21)] [(3, .pointer (some ⟨b3, 0, none⟩)), (8, .slice (some ⟨b8, 0, none⟩) sd.size cap8), (9, .int .i64 (sd.size : Int))] (fun (i, _) => [(10, .int .i64 (i : Int))]) (fun sg wl => Fr [b3] w5 wl ∧ (fun (i, v) wl => i ≤ sd.size ∧ wl.heap[b3]? = some (.cells #[v, .int .i64 0] 242 (0, 0)) ∧ wl.ownsRow E0 5 1 v i (dv ((digL n).take i))) sg wl) (fun (i, _) => sd.size - i) ((0, .slice none 0 0)) rfl ?_ ?_ ?_ ?_
  · exact ⟨rfl, rfl, rfl⟩
  · exact rfl
  · exact ⟨Fr.refl _ _, Nat.zero_le _, hb3, World.ownsRow_nil _ _ _ _⟩
  · rintro e0 ⟨i, v⟩ j w7 ⟨f8, hi0, hb3, ho⟩
    replace FR := FR.put f8 (by intro i hi; simp only [List.mem_cons, List.mem_singleton, List.not_mem_nil, or_false] at hi; rcases hi with rfl; all_goals (first | (left; simp; done) | (right; omega)))
    replace hi3 := Nat.lt_of_lt_of_le hi3 f8.size
    replace hi8 := Nat.lt_of_lt_of_le hi8 f8.size
    replace hc8 := fun i hi => Fr.cell f8 (hc8 i hi) (by first | (simp; done) | (simp only [List.mem_cons, List.mem_singleton, List.not_mem_nil, or_false]; omega))
    replace hEc := Nat.le_trans hEc f8.size
    have G9 := f8
    have HG9 := Fr.refl [b3] w7
    refine DC.seq ?_
    refine DC.region ?_
    refine DL.if rfl rfl (Y.lt rfl rfl) (fun c11 => ?_) (fun c11 => ?_)
    · refine DL.nil ?_
      show DC _ _ _ _ _ _
      refine DC.seq ?_
      refine DC.condT rfl ?_
      refine DC.skip ?_
      show DC _ _ _ _ _ _
      refine DC.seq ?_
      refine DC.block ?_
      refine DC.seq ?_
      refine DC.region ?_
      refine DL.y rfl rfl (Y.index F.sl107 rfl rfl (rfl) (by omega)) ?_
      refine DL.y rfl rfl (v := .int .u8 ((48 + dg (digL n) i : Nat) : Int)) (by have h := hc8 i (by rw [← size_list]; omega); have e : sd.data.toList[i]'(by rw [← size_list]; omega) = (decL n)[i]'(by omega) := by { simp only [hsd] }; rw [e, digL_at] at h; exact Y.load F.sc5 rfl h) ?_
      refine DL.y rfl rfl (Y.assign) ?_
      refine DL.nil ?_
      show DC _ _ _ _ _ _
      refine DC.region ?_
      refine DL.y rfl rfl (Y.field F.fd242_0 rfl) ?_
      refine DL.y rfl rfl (Y.loadB F.sc107 rfl hb3 rfl) ?_
      refine DL.y rfl rfl (Y.move) ?_
      refine DL.y rfl rfl (Y.subC (c := (dg (digL n) i : Int)) rfl rfl (by rw [show ((48 + dg (digL n) i : Nat) : Int) - 48 = ((dg (digL n) i : Nat) : Int) by omega]; exact wrap_u8 (by have := (digL_ok 19 n (by omega)).1 i; omega))) ?_
      refine DL.buildSl1 rfl rfl (F.el107) rfl rfl rfl ?_
      intro b18 w10 f11 lo18 hi18 hb18
      have lt_b3_b18 : b3 < b18 := Nat.lt_of_lt_of_le hi3 lo18
      have lt_b8_b18 : b8 < b18 := Nat.lt_of_lt_of_le hi8 lo18
      have le_E0_b18 : E0 ≤ b18 := Nat.le_trans hEc lo18
      have lo18G9 := Nat.le_trans G9.size lo18
      have lo18HG9 := Nat.le_trans HG9.size lo18
      replace lo18 := Nat.le_trans FR.size lo18
      replace FR := FR.tr0 f11
      replace G9 := G9.tr0 f11
      replace HG9 := HG9.tr0 f11
      replace hi3 := Nat.lt_of_lt_of_le hi3 f11.size
      replace hi8 := Nat.lt_of_lt_of_le hi8 f11.size
      replace hc8 := fun i hi => Fr.cell f11 (hc8 i hi) (by first | (simp; done) | (simp only [List.mem_cons, List.mem_singleton, List.not_mem_nil, or_false]; omega))
      replace hEc := Nat.le_trans hEc f11.size
      replace ho := ownsRow_fr ho f11 (by intro i hi hv; first | (simp at hi; done) | (simp only [List.mem_singleton] at hi; have := (own_ge ho i (mem_ownL.2 hv)).1; omega))
      replace hb3 := f11.blk0 hb3
      refine DL.appendRow (v := v) (css := (dv ((digL n).take i)).map fun x => #[x]) (cl := fun _ => #[.int .u8 ((dg (digL n) i : Nat) : Int)]) rfl rfl F.el107 rfl rfl (by rw [flatC_one]; exact ho) (fun ib hib => ⟨b18, 0, rfl, (by obtain rfl : ib = 0 := by { omega }; exact CellsAt.ofBlk hb18), rfl, by simp [Value.oneCell']⟩) (by omega) (by omega) (by omega) ?_
      intro v1 w12 f13 ho1 hat1
      have hlo : ∀ ib ∈ ownL (v), E0 ≤ ib := fun ib hib => (own_ge ho ib hib).1
      replace FR := FR.put f13 (fun ib hib => Or.inr (by have := hlo ib hib; omega))
      replace G9 := G9.put f13 (fun ib hib => Or.inr (by have := hlo ib hib; omega))
      replace hi3 := Nat.lt_of_lt_of_le hi3 f13.size
      replace hi8 := Nat.lt_of_lt_of_le hi8 f13.size
      replace hc8 := fun ib hib => Fr.cell f13 (hc8 ib hib) (fun hm => by have := hlo _ hm; omega)
      replace hEc := Nat.le_trans hEc f13.size
      replace hb3 := f13.blk hb3 (fun hm => by have := hlo _ hm; omega)
      replace hi18 := Nat.lt_of_lt_of_le hi18 f13.size
      rw [flatC_append, flatC_one] at ho1
      have hd1 : flatC ((List.range 1).map fun _ => #[Value.int .u8 ((dg (digL n) i : Nat) : Int)]) = dv [dg (digL n) i] := rfl
      rw [hd1, ← dv_append] at ho1
      replace ho := ho1
      rw [← take_dg (by rw [digL_len]; omega)] at ho
      refine DL.y rfl rfl (Y.field F.fd242_0 rfl) ?_
      refine DL.store rfl F.co107 F.in107 rfl rfl (own_one ho) hb3 rfl ?_
      intro w14 f15 hs16 hb3'
      replace FR := FR.put f15 (by intro i hi; simp only [List.mem_cons, List.mem_singleton, List.not_mem_nil, or_false] at hi; rcases hi with rfl; all_goals (first | (left; simp; done) | (right; omega)))
      replace G9 := G9.put f15 (by intro i hi; simp only [List.mem_cons, List.mem_singleton, List.not_mem_nil, or_false] at hi; rcases hi with rfl; all_goals (first | (left; simp; done) | (right; omega)))
      replace hi3 := Nat.lt_of_lt_of_le hi3 f15.size
      replace hi8 := Nat.lt_of_lt_of_le hi8 f15.size
      replace hc8 := fun i hi => Fr.cell f15 (hc8 i hi) (by first | (simp; done) | (simp only [List.mem_cons, List.mem_singleton, List.not_mem_nil, or_false]; omega))
      replace hEc := Nat.le_trans hEc f15.size
      replace hi18 := Nat.lt_of_lt_of_le hi18 f15.size
      replace ho := ownsRow_fr ho f15 (by intro i hi hv; first | (simp at hi; done) | (simp only [List.mem_singleton] at hi; have := (own_ge ho i (mem_ownL.2 hv)).1; omega))
      replace hb3 := hb3'
      refine DL.nil ?_
      show DC _ _ _ _ _ _
      refine DC.region ?_
      refine DL.y rfl rfl (Y.addI (c := ((i + 1 : Nat) : Int)) rfl rfl (by omega) (by omega) (by omega)) ?_
      refine DL.y rfl rfl (Y.move) ?_
      refine DL.nil ?_
      exact ⟨(i + 1, v1), ⟨G9, by omega, hb3, ho⟩, by show sd.size - (i + 1) < sd.size - i; omega, rfl⟩
    · refine DL.nil ?_
      show DC _ _ _ _ _ _
      refine DC.seq ?_
      refine DC.condF rfl ?_
      refine DC.exit ?_
      show DC _ _ _ _ _ _
      refine DC.seq ?_
      refine DC.region ?_
      refine DL.y rfl rfl (Y.field F.fd242_0 rfl) ?_
      refine DL.y rfl rfl (Y.loadB F.sc107 rfl hb3 rfl) ?_
      have hlen : i = (digL n).length := by rw [digL_len]; omega
      subst hlen
      have htk : (digL n).take (digL n).length = digL n := List.take_length
      rw [htk] at ho
      obtain ⟨a, cap, rfl, _, _⟩ := own_cells ho
      refine DL.y rfl rfl (Y.lenS Tryz.underlying107 rfl) ?_
      refine DL.y rfl rfl (Y.field F.fd242_1 rfl) ?_
      refine DL.store rfl F.co3 F.in3 rfl rfl rfl hb3 rfl ?_
      intro w17 f18 hs19 hb3'
      replace FR := FR.put f18 (by intro i hi; simp only [List.mem_cons, List.mem_singleton, List.not_mem_nil, or_false] at hi; rcases hi with rfl; all_goals (first | (left; simp; done) | (right; omega)))
      replace hi3 := Nat.lt_of_lt_of_le hi3 f18.size
      replace hi8 := Nat.lt_of_lt_of_le hi8 f18.size
      replace hc8 := fun i hi => Fr.cell f18 (hc8 i hi) (by first | (simp; done) | (simp only [List.mem_cons, List.mem_singleton, List.not_mem_nil, or_false]; omega))
      replace hEc := Nat.le_trans hEc f18.size
      replace ho := ownsRow_fr ho f18 (by intro i hi hv; first | (simp at hi; done) | (simp only [List.mem_singleton] at hi; have := (own_ge ho i (mem_ownL.2 hv)).1; omega))
      replace hb3 := hb3'
      refine DL.nil ?_
      show DC _ _ _ _ _ _
      refine DC.seq ?_
      refine DC.region ?_
      refine DL.call rfl rfl F.nm233 rfl (trim_any (B := w.heap.size) (d := digL n) ⟨⟨_, hb3, own_base ho hwE, rfl⟩, by omega⟩ (by omega)) ?_
      rintro _ w20 f21 ⟨rfl, t, z, hcut, hD⟩
      replace FR := FR.put f21 (by intro i hi; simp only [List.mem_cons, List.mem_singleton, List.not_mem_nil, or_false] at hi; rcases hi with rfl; all_goals (first | (left; simp; done) | (right; omega)))
      replace hi3 := Nat.lt_of_lt_of_le hi3 f21.size
      replace hi8 := Nat.lt_of_lt_of_le hi8 f21.size
      replace hc8 := fun i hi => Fr.cell f21 (hc8 i hi) (by first | (simp; done) | (simp only [List.mem_cons, List.mem_singleton, List.not_mem_nil, or_false]; omega))
      replace hEc := Nat.le_trans hEc f21.size
      replace ho := ownsRow_fr ho f21 (by intro i hi hv; first | (simp at hi; done) | (simp only [List.mem_singleton] at hi; have := (own_ge ho i (mem_ownL.2 hv)).1; omega))
      refine DL.y rfl rfl (Y.assign) ?_
      refine DL.nil ?_
      show DC _ _ _ _ _ _
      refine DC.ret ?_
      refine FinQ.ret1 rfl (Ret.mk FR ⟨b3, _, t, rfl, _, hD, ?_⟩)
      have hk : n < 10 ^ (19 + 1) := by omega
      have D := new_fin hn0 hk hcut
      rw [if_neg D.canon.ne]; exact D

end Go.Proofs.YtmbleojlnaofjaaGreatDoor

