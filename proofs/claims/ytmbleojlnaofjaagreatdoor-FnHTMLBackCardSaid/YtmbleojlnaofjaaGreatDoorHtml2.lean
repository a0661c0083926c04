/- The table of htmlEscaper, byte by byte. -/
import Derived.Test.YtmbleojlnaofjaaGreatDoorHtml1
namespace Go.Proofs.YtmbleojlnaofjaaGreatDoor
open Go Go.RowKit D
set_option linter.unusedVariables false
set_option linter.unusedSimpArgs false


def keyT : Nat → UInt8
  | 0 => 60
  | 1 => 62
  | 2 => 38
  | 3 => 39
  | 4 => 34
  | _ => 0
def valT : Nat → ByteArray
  | 0 => ⟨#[38, 108, 116, 59]⟩
  | 1 => ⟨#[38, 103, 116, 59]⟩
  | 2 => ⟨#[38, 97, 109, 112, 59]⟩
  | 3 => ⟨#[38, 97, 112, 111, 115, 59]⟩
  | 4 => ⟨#[38, 113, 117, 111, 116, 59]⟩
  | _ => ⟨#[]⟩
/-- What Replace makes of one byte. -/
def escB (c : UInt8) : List UInt8 := if c = 60 then [38, 108, 116, 59] else if c = 62 then [38, 103, 116, 59] else if c = 38 then [38, 97, 109, 112, 59] else if c = 39 then [38, 97, 112, 111, 115, 59] else if c = 34 then [38, 113, 117, 111, 116, 59] else [c]
def escL (l : List UInt8) : List UInt8 := l.flatMap escB
theorem tab_key : ∀ j, j < 5 → tabC[0 + (2 * j) * 1]? = some (.string ⟨#[keyT j]⟩)
  | 0, _ => rfl
  | 1, _ => rfl
  | 2, _ => rfl
  | 3, _ => rfl
  | 4, _ => rfl
  | j + 5, h => by omega
theorem tab_val : ∀ j, j < 5 → tabC[0 + (2 * j + 1) * 1]? = some (.string (valT j))
  | 0, _ => rfl
  | 1, _ => rfl
  | 2, _ => rfl
  | 3, _ => rfl
  | 4, _ => rfl
  | j + 5, h => by omega
theorem esc_yes : ∀ j, j < 5 → ∀ c : UInt8, c = keyT j → escB c = (valT j).data.toList
  | 0, _, c, h => by subst h; rfl
  | 1, _, c, h => by subst h; rfl
  | 2, _, c, h => by subst h; rfl
  | 3, _, c, h => by subst h; rfl
  | 4, _, c, h => by subst h; rfl
  | j + 5, h, _, _ => by omega
theorem esc_no (c : UInt8) (h : ∀ j, j < 5 → ¬ c = keyT j) : escB c = [c] := by
  have h0 : ¬ c = 60 := h 0 (by omega)
  have h1 : ¬ c = 62 := h 1 (by omega)
  have h2 : ¬ c = 38 := h 2 (by omega)
  have h3 : ¬ c = 39 := h 3 (by omega)
  have h4 : ¬ c = 34 := h 4 (by omega)
  simp [escB, h0, h1, h2, h3, h4]


theorem escB_len (c : UInt8) : (escB c).length ≤ 6 := by
  unfold escB
  repeat' split
  all_goals simp
theorem escL_len : ∀ l : List UInt8, (escL l).length ≤ 6 * l.length
  | [] => by simp [escL]
  | c :: l => by
    have h1 := escB_len c
    have h2 := escL_len l
    simp only [escL, List.flatMap_cons, List.length_append, List.length_cons] at h2 ⊢
    omega
def bytesV (l : List UInt8) : List Value := l.map fun c => Value.int .u8 (c.toNat : Int)
theorem escL_succ {s : ByteArray} {i : Nat} (h : i < s.size) : escL (s.data.toList.take (i + 1)) = escL (s.data.toList.take i) ++ escB s[i] := by
  have hl : i < s.data.toList.length := by simpa using h
  rw [List.take_succ_eq_append_getElem hl]
  simp [escL]
  rfl

theorem replace_any (s : ByteArray) (bt : Nat) (hs : s.size ≤ 4096) (w : World) (hbt : w.heap[bt]? = some (.cells tabC 9 (0, 0))) : Calls Tryz.prog 126 #[.slice (some ⟨bt, 0, none⟩) 10 10, .string s] w (Ret w [] fun v _ => v = .string ⟨(escL s.data.toList).toArray⟩) := by
  have hbtl := lt_of_blk hbt
  refine calls_of Tryz.func126 rfl rfl rfl rfl ?_
  have FR := Fr.refl [] w
  refine DC.seq ?_
  refine DC.region ?_
  refine DL.y rfl rfl (Y.assign) ?_
  refine DL.nil ?_
  show DC _ _ _ _ _ _
  refine DC.seq ?_
  refine DC.region ?_
  refine DL.y rfl rfl (Y.assign) ?_
  refine DL.nil ?_
  show DC _ _ _ _ _ _
  refine DC.seq ?_
  refine DC.seq ?_
  refine DC.region ?_
  refine DL.y rfl rfl (Y.assign) ?_
  refine DL.nil ?_
  show DC _ _ _ _ _ _
  refine DC.block ?_
  obtain ⟨B0, hB0⟩ : ∃ B0, B0 = w.heap.size := ⟨_, rfl⟩
  have hB0w := FR.size
  rw [← hB0] at hB0w
  have hbtB : bt < B0 := by omega
  refine DC.loop (σ := Nat × Value) [(5, 47)] (fun (i, v) => [(5, v), (6, .int .i64 (i : Int))]) (fun sg wl => Fr [] w wl ∧ (fun (i, v) wl => i ≤ s.size ∧ wl.ownsRow B0 5 1 v (escL (s.data.toList.take i)).length (bytesV (escL (s.data.toList.take i)))) sg wl) (fun (i, _) => s.size - i) ((0, .slice none 0 0)) rfl ?_ ?_ ?_
  · exact ⟨rfl, rfl⟩
  · exact ⟨Fr.refl _ _, Nat.zero_le _, World.ownsRow_nil _ _ _ _⟩
  · rintro ⟨i, v⟩ j w1 ⟨f2, hi0, hown⟩
    replace FR := FR.tr0 f2
    replace hbt := f2.blk0 hbt
    have G3 := f2
    have HG3 := Fr.refl [] w1
    refine DC.seq ?_
    refine DC.seq ?_
    refine DC.region ?_
    refine DL.y rfl rfl (Y.move) ?_
    refine DL.y rfl rfl (Y.move) ?_
    refine DL.y rfl rfl (Y.lenStr Tryz.underlying9 rfl) ?_
    refine DL.if rfl rfl (Y.lt rfl rfl) (fun c11 => ?_) (fun c11 => ?_)
    · have hi : i < s.size := by omega
      have hN := escL_len (s.data.toList.take i)
      have hN : (escL (s.data.toList.take i)).length ≤ 6 * 4096 := by have h1 : (s.data.toList.take i).length ≤ i := by { rw [List.length_take]; omega }; omega
      refine DL.nil ?_
      show DC _ _ _ _ _ _
      refine DC.condT rfl ?_
      refine DC.skip ?_
      show DC _ _ _ _ _ _
      refine DC.seq ?_
      refine DC.block ?_
      refine DC.seq ?_
      refine DC.region ?_
      refine DL.y rfl rfl (Y.assign) ?_
      refine DL.nil ?_
      show DC _ _ _ _ _ _
      refine DC.seq ?_
      refine DC.block ?_
      refine DC.loop (σ := Nat) [(7, 7), (14, 30)] (fun q => [(7, .int .i64 ((2 * q : Nat) : Int))]) (fun sg wl => Fr [] w1 wl ∧ (fun q wl => q ≤ 5 ∧ ∀ j', j' < q → ¬ s[i] = keyT j') sg wl) (fun q => 5 - q) (0) rfl ?_ ?_ ?_
      · exact rfl
      · exact ⟨Fr.refl _ _, Nat.zero_le _, fun j' h => by omega⟩
      · rintro q j w4 ⟨f5, hj0, hnk⟩
        replace FR := FR.tr0 f5
        replace G3 := G3.tr0 f5
        replace HG3 := HG3.tr0 f5
        replace hbt := f5.blk0 hbt
        replace hown := ownsRow_fr hown f5 (by simp)
        have G6 := f5
        have HG6 := Fr.refl [] w4
        refine DC.seq ?_
        refine DC.seq ?_
        refine DC.still F.mixed (by kernel_rfl) ?_
        intro w7 f8 hsw7
        replace FR := FR.tr0 f8
        replace G3 := G3.tr0 f8
        replace HG3 := HG3.tr0 f8
        replace G6 := G6.tr0 f8
        replace HG6 := HG6.tr0 f8
        replace hbt := f8.blk0 hbt
        replace hown := ownsRow_fr hown f8 (by simp)
        refine DS.y rfl rfl (Y.move) ?_
        refine DS.y rfl rfl (Y.move) ?_
        refine DS.y rfl rfl (Y.lenS Tryz.underlying133 rfl) ?_
        refine DS.if rfl rfl (Y.lt rfl rfl) (fun c17 => ?_) (fun c17 => ?_)
        · have hj5 : q < 5 := by omega
          refine DS.y rfl rfl (Y.move) ?_
          refine DS.y rfl rfl (Y.move) ?_
          refine DS.y rfl rfl (Y.move) ?_
          refine DS.y rfl rfl (Y.index F.sl133 rfl rfl (rfl) (by omega)) ?_
          refine DS.y rfl rfl (Y.loadB F.sc9 rfl hbt (tab_key q hj5)) ?_
          refine DS.y rfl rfl (Y.strIx (i := 0) Tryz.underlying9 rfl rfl rfl (by show 0 < 1; omega)) ?_
          refine DS.y rfl rfl (Y.move) ?_
          refine DS.y rfl rfl (Y.move) ?_
          refine DS.y rfl rfl (Y.strIx (i := i) Tryz.underlying9 rfl rfl rfl hi) ?_
          refine DS.if rfl rfl (Y.ne rfl rfl) (fun c27 => ?_) (fun c27 => ?_)
          · have hneq : ¬ s[i] = keyT q := fun h => c27 (by rw [h]; rfl)
            refine DS.y rfl rfl (Y.pickT rfl) ?_
            refine DS.nil ?_
            show DC _ _ _ _ _ _
            refine DC.condT rfl ?_
            refine DC.skip ?_
            show DC _ _ _ _ _ _
            refine DC.block ?_
            refine DC.region ?_
            refine DL.y rfl rfl (Y.move) ?_
            refine DL.y rfl rfl (Y.addI (c := ((2 * (q + 1) : Nat) : Int)) rfl rfl (by omega) (by omega) (by omega)) ?_
            refine DL.y rfl rfl (Y.assign) ?_
            refine DL.nil ?_
            refine ⟨q + 1, ⟨G6, by omega, fun j' h => ?_⟩, by show 5 - (q + 1) < 5 - q; omega, rfl⟩
            by_cases hj : j' = q
            · subst hj; exact hneq
            · exact hnk j' (by omega)
          · have hkey : s[i] = keyT q := by
              have h1 : ((keyT q).toNat : Int) = (s[i].toNat : Int) := Classical.byContradiction c27
              exact UInt8.toNat_inj.1 (by omega)
            refine DS.y rfl rfl (Y.pickT rfl) ?_
            refine DS.nil ?_
            show DC _ _ _ _ _ _
            refine DC.condF rfl ?_
            refine DC.exit ?_
            show DC _ _ _ _ _ _
            refine DC.seq ?_
            refine DC.region ?_
            refine DL.y rfl rfl (Y.move) ?_
            refine DL.y rfl rfl (Y.move) ?_
            refine DL.y rfl rfl (Y.lenS Tryz.underlying133 rfl) ?_
            refine DL.if rfl rfl (Y.lt rfl rfl) (fun c34 => ?_) (fun c34 => ?_)
            · refine DL.nil ?_
              show DC _ _ _ _ _ _
              refine DC.condT rfl ?_
              refine DC.region ?_
              refine DL.y rfl rfl (Y.move) ?_
              refine DL.y rfl rfl (Y.move) ?_
              refine DL.y rfl rfl (Y.move) ?_
              refine DL.y rfl rfl (Y.addI (c := ((2 * q + 1 : Nat) : Int)) rfl rfl (by omega) (by omega) (by omega)) ?_
              refine DL.y rfl rfl (Y.index F.sl133 rfl rfl (rfl) (by omega)) ?_
              refine DL.y rfl rfl (Y.loadB F.sc9 rfl hbt (tab_val q (by omega))) ?_
              have hv6 : (valT q).size ≤ 6 := by rcases (show q = 0 ∨ q = 1 ∨ q = 2 ∨ q = 3 ∨ q = 4 by omega) with rfl | rfl | rfl | rfl | rfl <;> decide
              refine DL.appendStr rfl rfl F.el107 Tryz.underlying9 F.z5 rfl rfl hown (by omega) (by have := G3.size; omega) ?_
              intro sl41 w9 f10 hown'
              replace FR := FR.put f10 (fun i hi => Or.inr (by have := (own_ge hown i hi).1; omega))
              replace G3 := G3.put f10 (fun i hi => Or.inr (by have := (own_ge hown i hi).1; omega))
              replace hbt := f10.blk hbt (fun hm => by have := (own_ge hown _ hm).1; omega)
              replace hown := hown'
              refine DL.y rfl rfl (Y.assign) ?_
              refine DL.nil ?_
              show DC _ _ _ _ _ _
              refine DC.region ?_
              refine DL.y rfl rfl (Y.move) ?_
              refine DL.y rfl rfl (Y.addI (c := ((i + 1 : Nat) : Int)) rfl rfl (by omega) (by omega) (by omega)) ?_
              refine DL.y rfl rfl (Y.assign) ?_
              refine DL.nil ?_
              have he : escB s[i] = (valT q).data.toList := esc_yes q (by omega) _ hkey
              have hown2 : w9.ownsRow B0 5 1 sl41 (escL (s.data.toList.take (i + 1))).length (bytesV (escL (s.data.toList.take (i + 1)))) := by
                rw [escL_succ hi, he]
                have e : (escL (s.data.toList.take i) ++ (valT q).data.toList).length = (escL (s.data.toList.take i)).length + (valT q).size := by rw [List.length_append, Lib.size_eq]
                rw [e, bytesV, List.map_append]; exact hown
              exact ⟨(i + 1, sl41), ⟨G3, hi, hown2⟩, by show s.size - (i + 1) < s.size - i; omega, rfl, rfl⟩
            · exfalso; omega
        · refine DS.y rfl rfl (Y.move) ?_
          refine DS.skip rfl rfl ?_
          refine DS.skip rfl rfl ?_
          refine DS.skip rfl rfl ?_
          refine DS.skip rfl rfl ?_
          refine DS.skip rfl rfl ?_
          refine DS.skip rfl rfl ?_
          refine DS.skip rfl rfl ?_
          refine DS.skip rfl rfl ?_
          refine DS.skip rfl rfl ?_
          refine DS.y rfl rfl (Y.pickF rfl) ?_
          refine DS.nil ?_
          show DC _ _ _ _ _ _
          refine DC.condF rfl ?_
          refine DC.exit ?_
          show DC _ _ _ _ _ _
          refine DC.seq ?_
          refine DC.region ?_
          refine DL.y rfl rfl (Y.move) ?_
          refine DL.y rfl rfl (Y.move) ?_
          refine DL.y rfl rfl (Y.lenS Tryz.underlying133 rfl) ?_
          refine DL.if rfl rfl (Y.lt rfl rfl) (fun c34 => ?_) (fun c34 => ?_)
          · exfalso; omega
          · refine DL.nil ?_
            show DC _ _ _ _ _ _
            refine DC.condF rfl ?_
            refine DC.region ?_
            refine DL.y rfl rfl (Y.move) ?_
            refine DL.y rfl rfl (Y.move) ?_
            refine DL.y rfl rfl (Y.move) ?_
            refine DL.y rfl rfl (Y.strIx (i := i) Tryz.underlying9 rfl rfl rfl hi) ?_
            refine DL.buildSl1 rfl rfl (F.el107) rfl rfl rfl ?_
            intro b46 w11 f12 lo46 hi46 hb46
            have lo46G3 := Nat.le_trans G3.size lo46
            have lo46HG3 := Nat.le_trans HG3.size lo46
            have lo46G6 := Nat.le_trans G6.size lo46
            have lo46HG6 := Nat.le_trans HG6.size lo46
            replace lo46 := Nat.le_trans FR.size lo46
            replace FR := FR.tr0 f12
            replace G3 := G3.tr0 f12
            replace HG3 := HG3.tr0 f12
            replace G6 := G6.tr0 f12
            replace HG6 := HG6.tr0 f12
            replace hbt := f12.blk0 hbt
            replace hown := ownsRow_fr hown f12 (by simp)
            refine DL.append rfl rfl F.el107 rfl rfl hown hb46 rfl (by kernel_rfl) (by omega) (by omega) (by have := G3.size; omega) ?_
            intro sl47 w13 f14 hown'
            replace FR := FR.put f14 (fun i hi => Or.inr (by have := (own_ge hown i hi).1; omega))
            replace G3 := G3.put f14 (fun i hi => Or.inr (by have := (own_ge hown i hi).1; omega))
            replace hbt := f14.blk hbt (fun hm => by have := (own_ge hown _ hm).1; omega)
            replace hown := hown'
            refine DL.y rfl rfl (Y.assign) ?_
            refine DL.nil ?_
            show DC _ _ _ _ _ _
            refine DC.region ?_
            refine DL.y rfl rfl (Y.move) ?_
            refine DL.y rfl rfl (Y.addI (c := ((i + 1 : Nat) : Int)) rfl rfl (by omega) (by omega) (by omega)) ?_
            refine DL.y rfl rfl (Y.assign) ?_
            refine DL.nil ?_
            have he : escB s[i] = [s[i]] := esc_no _ (fun j' hj' => by have := hnk j' (by omega); intro hc; exact this (by rw [hc]))
            have hown2 : w13.ownsRow B0 5 1 sl47 (escL (s.data.toList.take (i + 1))).length (bytesV (escL (s.data.toList.take (i + 1)))) := by
              rw [escL_succ hi, he, List.length_append, bytesV, List.map_append]
              exact hown
            exact ⟨(i + 1, sl47), ⟨G3, hi, hown2⟩, by show s.size - (i + 1) < s.size - i; omega, rfl, rfl⟩
    · refine DL.nil ?_
      show DC _ _ _ _ _ _
      refine DC.condF rfl ?_
      refine DC.exit ?_
      show DC _ _ _ _ _ _
      refine DC.seq ?_
      refine DC.region ?_
      refine DL.y rfl rfl (Y.move) ?_
      refine DL.y rfl rfl (Y.bytesStr Tryz.underlying107 Tryz.underlying5 Tryz.underlying9 rfl hown) ?_
      refine DL.y rfl rfl (Y.assign) ?_
      refine DL.nil ?_
      show DC _ _ _ _ _ _
      refine DC.ret ?_
      have hie : i = s.data.toList.length := by have := Lib.size_eq s; omega
      refine FinQ.ret1 rfl (Ret.mk FR ?_)
      have e : s.data.toList.take i = s.data.toList := by rw [hie, List.take_length]
      show Value.string ⟨(escL (s.data.toList.take i)).toArray⟩ = _
      rw [e]

end Go.Proofs.YtmbleojlnaofjaaGreatDoor
