/- The walks of laws.FnKeys and of what it calls. -/
import Derived.Test.YtmbleojlnaofjaaGreatDoorTxt
import Derived.Test.YtmbleojlnaofjaaGreatDoorO6
import Derived.Test.YtmbleojlnaofjaaGreatDoorGo
import Derived.Test.YtmbleojlnaofjaaGreatDoorFits
namespace Go.Proofs.YtmbleojlnaofjaaGreatDoor
open Go Go.RowKit D
set_option linter.unusedVariables false
set_option linter.unusedSimpArgs false


/-! ### Leaves: numbers and texts -/
inductive Lf where
  | num (z : Int)
  | txt (s : ByteArray)
def Lf.cells : Lf → Array Value
  | .num z => #[.int .i64 3, .int .i64 (2 * z), .string ⟨#[]⟩, .slice none 0 0, .slice none 0 0, .slice none 0 0]
  | .txt s => strC s
def Lf.v : Lf → V
  | .num z => .mk 3 (2 * z) ⟨#[]⟩ [] [] []
  | .txt s => strV s
def Lf.go : Lf → Value
  | .num z => .iface 3 (.int .i64 z)
  | .txt s => .iface 9 (.string s)
def Lf.ok : Lf → Prop
  | .num z => 0 ≤ z ∧ z ≤ 1000000
  | .txt s => s.size ≤ 140737488351232
theorem Lf.size (l : Lf) : l.cells.size = 6 := by cases l <;> rfl
theorem Lf.one (l : Lf) : l.cells.all (·.oneCell') = true := by cases l <;> kernel_rfl
theorem Lf.rv {l : Lf} (h : l.ok) (w : World) (B : Nat) : RV w B l.v l.cells := by
  cases l with
  | num z =>
    obtain ⟨h1, h2⟩ := h
    exact .mk (fun _ => #[]) (fun _ => #[]) (by omega) (by omega) (by decide) (by simp) (by simp) (by simp) (by simp) (fun i hi => absurd hi (by simp)) (fun i hi => absurd hi (by simp)) (fun i hi => absurd hi (by simp)) (fun i hi => absurd hi (by simp)) (fun i hi => absurd hi (by simp))
  | txt s => exact strRV w B s h
def cellsL (ls : List Lf) : List Value := ls.flatMap fun l => l.cells.toList
theorem cellsL_snoc (ls : List Lf) (l : Lf) : cellsL (ls ++ [l]) = cellsL ls ++ l.cells.toList := by simp [cellsL]
theorem cellsL_length (ls : List Lf) : (cellsL ls).length = ls.length * 6 := by
  induction ls with
  | nil => rfl
  | cons l ls ih => simp only [cellsL, List.flatMap_cons, List.length_append, List.length_cons, Array.length_toList, Lf.size] at ih ⊢; omega
theorem cellsL_get : ∀ (ls : List Lf) (i j : Nat) (h : i < ls.length), j < 6 → (cellsL ls)[i * 6 + j]? = ls[i].cells[j]?
  | l :: ls, 0, j, h, hj => by
    simp only [cellsL, List.flatMap_cons, Nat.zero_mul, Nat.zero_add, List.getElem_cons_zero]
    rw [List.getElem?_append_left (by rw [Array.length_toList, Lf.size]; exact hj)]
    simp
  | l :: ls, i + 1, j, h, hj => by
    have ih := cellsL_get ls i j (by simpa using h) hj
    simp only [cellsL, List.flatMap_cons, List.getElem_cons_succ] at ih ⊢
    rw [List.getElem?_append_right (by rw [Array.length_toList, Lf.size]; omega), Array.length_toList, Lf.size]
    rw [show (i + 1) * 6 + j - 6 = i * 6 + j by omega]
    exact ih
def numsL (n : Nat) : List Lf := (List.range n).map fun i : Nat => Lf.num (i : Int)
def txtsL (keys : List ByteArray) : List Lf := keys.map Lf.txt
def leaves : V → List Lf | .mk _ _ _ list keys _ => numsL list.length ++ txtsL keys
theorem numsL_succ (k : Nat) : numsL (k + 1) = numsL k ++ [.num k] := by simp [numsL, List.range_succ]
theorem txtsL_succ {keys : List ByteArray} {k : Nat} (h : k < keys.length) : txtsL (keys.take (k + 1)) = txtsL (keys.take k) ++ [.txt keys[k]] := by
  rw [List.take_succ_eq_append_getElem h]; simp only [txtsL, List.map_append, List.map_cons, List.map_nil]
/-- A slice of the laws' values. -/
def arrC (sl : Value) : Array Value := #[.int .i64 5, .int .i64 0, .string ⟨#[]⟩, sl, .slice none 0 0, .slice none 0 0]
theorem arrRV {w : World} {B n : Nat} {sl : Value} {ls : List Lf} (h : w.ownsRow B 26 6 sl ls.length (cellsL ls)) (hn : ls.length ≤ 1000000) (hok : ∀ l ∈ ls, l.ok) : RV w w.heap.size (.mk 5 0 ⟨#[]⟩ (ls.map Lf.v) [] []) (arrC sl) := by
  obtain ⟨a, cap, rfl, _, hc⟩ := own_cells h
  have hlen : (ls.map Lf.v).length = ls.length := by simp
  rw [← hlen]
  refine .mk (fun i => (ls.getD i (.num 0)).cells) (fun _ => #[]) (by omega) (by omega) (by decide) (by omega) (by simp) (by simp) (by simp) (fun i hi => ?_) (fun i hi => ?_) (fun i hi => absurd hi (by simp)) (fun i hi => absurd hi (by simp)) (fun i hi => absurd hi (by simp))
  · have hi' : i < ls.length := by omega
    obtain ⟨b, h1, h2, h3, h4⟩ := hc i hi'
    have e : (ls.getD i (.num 0)) = ls[i] := by simp [List.getD_eq_getElem?_getD, hi']
    refine ⟨b, 0, h1, h3, fun j hj => ?_, Lf.size _⟩
    show w.cell? _ = (ls.getD i (.num 0)).cells[j]?
    have hj : j < 6 := by simpa [Lf.size] using hj
    rw [e, Nat.zero_add, h4 j hj]
    exact cellsL_get ls i j hi' hj
  · have hi' : i < ls.length := by omega
    have e : (ls.getD i (.num 0)) = ls[i] := by simp [List.getD_eq_getElem?_getD, hi']
    show RV w w.heap.size (ls.map Lf.v)[i] (ls.getD i (.num 0)).cells
    rw [e, List.getElem_map]
    exact Lf.rv (hok _ (List.getElem_mem hi')) w _

theorem Num_any (z : Int) (h : 0 ≤ z ∧ z ≤ 1000000) (w : World) : Calls Tryz.prog 47 #[.int .i64 z] w (Ret w [] fun v _ => v = .agg (Lf.num z).cells) := by
  refine calls_of Tryz.func47 rfl rfl rfl rfl ?_
  have FR := Fr.refl [] w
  refine DC.seq ?_
  refine DC.region ?_
  refine DL.alloc rfl rfl F.z26 rfl ?_
  intro b2 w1 f2 lo2 hi2 hb2
  replace lo2 := Nat.le_trans FR.size lo2
  replace FR := FR.tr0 f2
  refine DL.nil ?_
  show DC _ _ _ _ _ _
  refine DC.seq ?_
  refine DC.region ?_
  refine DL.y rfl rfl (Y.move) ?_
  refine DL.y rfl rfl (Y.mulI (c := 2 * z) rfl rfl (by omega) (by omega) (by omega)) ?_
  refine DL.y rfl rfl (Y.build (cs := (Lf.num z).cells) (by kernel_rfl)) ?_
  refine DL.storeA rfl F.ag26 rfl rfl rfl (by kernel_rfl) hb2 rfl ?_
  intro w3 f4 hs5 hb2'
  replace FR := FR.put f4 (by intro i hi; simp only [List.mem_cons, List.mem_singleton, List.not_mem_nil, or_false] at hi; rcases hi with rfl; all_goals (first | (left; simp; done) | (right; omega)))
  replace hi2 := Nat.lt_of_lt_of_le hi2 f4.size
  replace hb2 := hb2'
  refine DL.nil ?_
  show DC _ _ _ _ _ _
  refine DC.ret ?_
  exact FinQ.retC rfl (cs := (Lf.num z).cells) F.ag26 (.ofBlk hb2) (Ret.mk FR rfl)

theorem Array_any (a : Option Addr) (n c : Nat) (w : World) : Calls Tryz.prog 30 #[.slice a n c] w (Ret w [] fun v _ => v = .agg (arrC (.slice a n c))) := by
  refine calls_of Tryz.func30 rfl rfl rfl rfl ?_
  have FR := Fr.refl [] w
  refine DC.seq ?_
  refine DC.region ?_
  refine DL.alloc rfl rfl F.z26 rfl ?_
  intro b2 w1 f2 lo2 hi2 hb2
  replace lo2 := Nat.le_trans FR.size lo2
  replace FR := FR.tr0 f2
  refine DL.nil ?_
  show DC _ _ _ _ _ _
  refine DC.seq ?_
  refine DC.region ?_
  refine DL.y rfl rfl (Y.move) ?_
  refine DL.y rfl rfl (Y.build (cs := arrC (.slice a n c)) (by kernel_rfl)) ?_
  refine DL.storeA rfl F.ag26 rfl rfl rfl (by kernel_rfl) hb2 rfl ?_
  intro w3 f4 hs5 hb2'
  replace FR := FR.put f4 (by intro i hi; simp only [List.mem_cons, List.mem_singleton, List.not_mem_nil, or_false] at hi; rcases hi with rfl; all_goals (first | (left; simp; done) | (right; omega)))
  replace hi2 := Nat.lt_of_lt_of_le hi2 f4.size
  replace hb2 := hb2'
  refine DL.nil ?_
  show DC _ _ _ _ _ _
  refine DC.ret ?_
  exact FinQ.retC rfl (cs := arrC (.slice a n c)) F.ag26 (.ofBlk hb2) (Ret.mk FR rfl)

theorem specKeys_any (v : V) (cs : Array Value) (B : Nat) (w : World) (hR : RV w B v cs) (hB : B ≤ w.heap.size) (hG : Good v) (hn : v.nodes ≤ 400) :
    Calls Tryz.prog 48 #[.agg cs] w (Ret w [] fun r w' => w'.ownsRow w.heap.size 26 6 r (leaves v).length (cellsL (leaves v))) := by
  obtain ⟨kind, half, text, list, keys, vals⟩ := v
  obtain ⟨la, lc, ka, kc, va, vc, rfl⟩ := hR.shape
  obtain ⟨bt, bl, bk, bv, bkind, bhalf⟩ := hR.bounds
  obtain ⟨⟨hk1, hz1, hz2, hz3, hz4, hkv, _, _, _, _, _⟩, _, _⟩ := hG
  simp only [V.nodes] at hn
  have hn1 := length_le_nodesL list
  have hn2 := length_le_nodesL vals
  refine calls_of Tryz.func48 rfl rfl rfl rfl ?_
  have FR := Fr.refl [] w
  refine DC.seq ?_
  refine DC.region ?_
  refine DL.boxA rfl rfl rfl ?_
  intro b1 w1 f2 lo1 hi1 hb1
  replace lo1 := Nat.le_trans FR.size lo1
  replace FR := FR.tr0 f2
  replace hR := hR.fr f2 (by intro x hx; simp <;> omega)
  refine DL.y rfl rfl (Y.assign) ?_
  refine DL.nil ?_
  show DC _ _ _ _ _ _
  refine DC.seq ?_
  refine DC.region ?_
  refine DL.y rfl rfl (Y.assign) ?_
  refine DL.nil ?_
  show DC _ _ _ _ _ _
  refine DC.seq ?_
  refine DC.seq ?_
  refine DC.region ?_
  refine DL.y rfl rfl (Y.field F.fd26_3 rfl) ?_
  refine DL.y rfl rfl (Y.loadB F.sc23 rfl hb1 rfl) ?_
  refine DL.y rfl rfl (Y.lenS Tryz.underlying23 rfl) ?_
  refine DL.y rfl rfl (Y.move) ?_
  refine DL.nil ?_
  show DC _ _ _ _ _ _
  refine DC.block ?_
  obtain ⟨B0, hB0⟩ : ∃ B0, B0 = w1.heap.size := ⟨_, rfl⟩
  have hB0w := FR.size
  rw [← hB0] at hB0w
  have hb1B : b1 < B0 := by omega
  refine DC.loop (σ := Nat × Value) [(3, 4), (10, 18)] (fun (k, sl) => [(3, sl), (10, .int .i64 (k : Int))]) (fun sg wl => Fr [] w1 wl ∧ (fun (k, sl) wl => k ≤ list.length ∧ (k = 0 → sl = .slice none 0 0) ∧ wl.ownsRow B0 26 6 sl (k) (cellsL (numsL k))) sg wl) (fun (k, _) => list.length - k) ((0, .slice none 0 0)) rfl ?_ ?_ ?_
  · exact ⟨rfl, rfl⟩
  · exact ⟨Fr.refl _ _, Nat.zero_le _, fun _ => rfl, World.ownsRow_nil _ _ _ _⟩
  · rintro ⟨k, sl⟩ j w3 ⟨f4, hk0, hnil, hown⟩
    replace FR := FR.tr0 f4
    replace hR := hR.fr f4 (by intro x hx; simp <;> omega)
    replace hb1 := f4.blk0 hb1
    replace hi1 := Nat.lt_of_lt_of_le hi1 f4.size
    have G5 := f4
    have HG5 := Fr.refl [] w3
    refine DC.seq ?_
    refine DC.region ?_
    refine DL.if rfl rfl (Y.lt rfl rfl) (fun c11 => ?_) (fun c11 => ?_)
    · have hk : k < list.length := by omega
      refine DL.nil ?_
      show DC _ _ _ _ _ _
      refine DC.seq ?_
      refine DC.condT rfl ?_
      refine DC.skip ?_
      show DC _ _ _ _ _ _
      refine DC.seq ?_
      refine DC.block ?_
      refine DC.seq ?_
      refine DC.region ?_
      refine DL.y rfl rfl (Y.move) ?_
      refine DL.y rfl rfl (Y.assign) ?_
      refine DL.nil ?_
      show DC _ _ _ _ _ _
      refine DC.region ?_
      refine DL.y rfl rfl (Y.move) ?_
      refine DL.y rfl rfl (Y.move) ?_
      refine DL.call rfl rfl F.nm47 rfl (Num_any _ (by omega) _) ?_
      rintro _ w6 f7 rfl
      replace FR := FR.tr0 f7
      replace G5 := G5.tr0 f7
      replace HG5 := HG5.tr0 f7
      replace hR := hR.fr f7 (by intro x hx; simp <;> omega)
      replace hb1 := f7.blk0 hb1
      replace hi1 := Nat.lt_of_lt_of_le hi1 f7.size
      replace hown := ownsRow_fr hown f7 (by simp)
      refine DL.buildSl1 rfl rfl (F.el23) rfl rfl rfl ?_
      intro b16 w8 f9 lo16 hi16 hb16
      have lt_b1_b16 : b1 < b16 := Nat.lt_of_lt_of_le hi1 lo16
      have lo16G5 := Nat.le_trans G5.size lo16
      have lo16HG5 := Nat.le_trans HG5.size lo16
      replace lo16 := Nat.le_trans FR.size lo16
      replace FR := FR.tr0 f9
      replace G5 := G5.tr0 f9
      replace HG5 := HG5.tr0 f9
      replace hR := hR.fr f9 (by intro x hx; simp <;> omega)
      replace hb1 := f9.blk0 hb1
      replace hi1 := Nat.lt_of_lt_of_le hi1 f9.size
      replace hown := ownsRow_fr hown f9 (by simp)
      refine DL.append rfl rfl F.el23 rfl rfl hown hb16 (Lf.size (.num k)) (Lf.one (.num k)) (by omega) (by omega) (by have := G5.size; omega) ?_
      intro sl17 w10 f11 hown'
      replace FR := FR.put f11 (fun i hi => Or.inr (by have := (own_ge hown i hi).1; omega))
      replace G5 := G5.put f11 (fun i hi => Or.inr (by have := (own_ge hown i hi).1; omega))
      replace hR := hR.fr f11 (fun b hb hm => by have := (own_ge hown _ hm).1; omega)
      replace hb1 := f11.blk hb1 (fun hm => by have := (own_ge hown _ hm).1; omega)
      replace hi1 := Nat.lt_of_lt_of_le hi1 f11.size
      replace hown := hown'
      refine DL.y rfl rfl (Y.assign) ?_
      refine DL.nil ?_
      show DC _ _ _ _ _ _
      refine DC.region ?_
      refine DL.y rfl rfl (Y.addI (c := ((k + 1 : Nat) : Int)) rfl rfl (by omega) (by omega) (by omega)) ?_
      refine DL.y rfl rfl (Y.move) ?_
      refine DL.nil ?_
      exact ⟨(k + 1, sl17), ⟨G5, hk, fun h => by omega, by rw [numsL_succ, cellsL_snoc]; exact hown⟩, by show list.length - (k + 1) < list.length - k; omega, rfl, rfl⟩
    · refine DL.nil ?_
      show DC _ _ _ _ _ _
      refine DC.seq ?_
      refine DC.condF rfl ?_
      refine DC.exit ?_
      show DC _ _ _ _ _ _
      refine DC.seq ?_
      refine DC.seq ?_
      refine DC.region ?_
      refine DL.y rfl rfl (Y.field F.fd26_4 rfl) ?_
      refine DL.y rfl rfl (Y.loadB F.sc24 rfl hb1 rfl) ?_
      refine DL.y rfl rfl (Y.lenS Tryz.underlying24 rfl) ?_
      refine DL.y rfl rfl (Y.move) ?_
      refine DL.nil ?_
      show DC _ _ _ _ _ _
      refine DC.block ?_
      obtain ⟨sl1, hsl1⟩ : ∃ sl1, sl1 = sl := ⟨_, rfl⟩
      rw [← hsl1]
      obtain ⟨B2, hB2⟩ : ∃ B2, B2 = w3.heap.size := ⟨_, rfl⟩
      have hB2w := FR.size
      rw [← hB2] at hB2w
      have hb1B2 : b1 < B2 := by omega
      rw [← hsl1] at hown hnil
      refine DC.loop (σ := Nat × Value) [(3, 3), (6, 6), (22, 31)] (fun (k, sl2) => [(3, sl2), (22, .int .i64 (k : Int))]) (fun sg wl => Fr [] w3 wl ∧ (fun (k2, sl) wl => k2 ≤ keys.length ∧ ((k2 = 0 ∧ sl = sl1) ∨ (list.length = 0 ∧ wl.ownsRow B2 26 6 sl (k2) (cellsL (txtsL (keys.take k2)))))) sg wl) (fun (k, _) => keys.length - k) ((0, sl1)) rfl ?_ ?_ ?_
      · exact ⟨rfl, rfl⟩
      · exact ⟨Fr.refl _ _, Nat.zero_le _, Or.inl ⟨rfl, rfl⟩⟩
      · rintro ⟨k2, sl2⟩ j w12 ⟨f13, hk20, hor⟩
        replace FR := FR.tr0 f13
        replace G5 := G5.tr0 f13
        replace HG5 := HG5.tr0 f13
        replace hR := hR.fr f13 (by intro x hx; simp <;> omega)
        replace hb1 := f13.blk0 hb1
        replace hi1 := Nat.lt_of_lt_of_le hi1 f13.size
        replace hown := ownsRow_fr hown f13 (by simp)
        have G14 := f13
        have HG14 := Fr.refl [] w12
        refine DC.seq ?_
        refine DC.region ?_
        refine DL.if rfl rfl (Y.lt rfl rfl) (fun c23 => ?_) (fun c23 => ?_)
        · have hk2 : k2 < keys.length := by omega
          have hl0 : list.length = 0 := by omega
          have hown2 : w12.ownsRow B2 26 6 sl2 k2 (cellsL (txtsL (keys.take k2))) := by
            rcases hor with ⟨rfl, rfl⟩ | ⟨_, h⟩
            · rw [hnil (by omega)]; exact World.ownsRow_nil _ _ _ _
            · exact h
          clear hor
          obtain ⟨bs, os, rfl, hbs, hkc, hks⟩ := hR.keyAt hk2
          refine DL.nil ?_
          show DC _ _ _ _ _ _
          refine DC.seq ?_
          refine DC.condT rfl ?_
          refine DC.skip ?_
          show DC _ _ _ _ _ _
          refine DC.seq ?_
          refine DC.block ?_
          refine DC.seq ?_
          refine DC.region ?_
          refine DL.y rfl rfl (Y.index F.sl24 rfl rfl (rfl) (hk2)) ?_
          refine DL.y rfl rfl (Y.load F.sc9 rfl hkc) ?_
          refine DL.y rfl rfl (Y.assign) ?_
          refine DL.nil ?_
          show DC _ _ _ _ _ _
          refine DC.region ?_
          try clear hkc
          refine DL.y rfl rfl (Y.move) ?_
          refine DL.y rfl rfl (Y.move) ?_
          refine DL.call rfl rfl F.nm16 rfl (Str_any _ _) ?_
          rintro _ w15 f16 rfl
          replace FR := FR.tr0 f16
          replace G5 := G5.tr0 f16
          replace HG5 := HG5.tr0 f16
          replace G14 := G14.tr0 f16
          replace HG14 := HG14.tr0 f16
          replace hR := hR.fr f16 (by intro x hx; simp <;> omega)
          replace hb1 := f16.blk0 hb1
          replace hi1 := Nat.lt_of_lt_of_le hi1 f16.size
          replace hown := ownsRow_fr hown f16 (by simp)
          replace hown2 := ownsRow_fr hown2 f16 (by simp)
          refine DL.buildSl1 rfl rfl (F.el23) rfl rfl rfl ?_
          intro b29 w17 f18 lo29 hi29 hb29
          have lt_b1_b29 : b1 < b29 := Nat.lt_of_lt_of_le hi1 lo29
          have lo29G5 := Nat.le_trans G5.size lo29
          have lo29HG5 := Nat.le_trans HG5.size lo29
          have lo29G14 := Nat.le_trans G14.size lo29
          have lo29HG14 := Nat.le_trans HG14.size lo29
          replace lo29 := Nat.le_trans FR.size lo29
          replace FR := FR.tr0 f18
          replace G5 := G5.tr0 f18
          replace HG5 := HG5.tr0 f18
          replace G14 := G14.tr0 f18
          replace HG14 := HG14.tr0 f18
          replace hR := hR.fr f18 (by intro x hx; simp <;> omega)
          replace hb1 := f18.blk0 hb1
          replace hi1 := Nat.lt_of_lt_of_le hi1 f18.size
          replace hown := ownsRow_fr hown f18 (by simp)
          replace hown2 := ownsRow_fr hown2 f18 (by simp)
          refine DL.append rfl rfl F.el23 rfl rfl hown2 hb29 (Lf.size (.txt keys[k2])) (Lf.one (.txt keys[k2])) (by omega) (by omega) (by have := G14.size; omega) ?_
          intro sl30 w19 f20 hown2'
          replace FR := FR.put f20 (fun i hi => Or.inr (by have := (own_ge hown2 i hi).1; omega))
          replace G14 := G14.put f20 (fun i hi => Or.inr (by have := (own_ge hown2 i hi).1; omega))
          replace hR := hR.fr f20 (fun b hb hm => by have := (own_ge hown2 _ hm).1; omega)
          replace hb1 := f20.blk hb1 (fun hm => by have := (own_ge hown2 _ hm).1; omega)
          replace hi1 := Nat.lt_of_lt_of_le hi1 f20.size
          replace hown2 := hown2'
          refine DL.y rfl rfl (Y.assign) ?_
          refine DL.nil ?_
          show DC _ _ _ _ _ _
          refine DC.region ?_
          refine DL.y rfl rfl (Y.addI (c := ((k2 + 1 : Nat) : Int)) rfl rfl (by omega) (by omega) (by omega)) ?_
          refine DL.y rfl rfl (Y.move) ?_
          refine DL.nil ?_
          exact ⟨(k2 + 1, sl30), ⟨G14, hk2, Or.inr ⟨hl0, by rw [txtsL_succ hk2, cellsL_snoc]; exact hown2⟩⟩, by show keys.length - (k2 + 1) < keys.length - k2; omega, rfl, rfl⟩
        · refine DL.nil ?_
          show DC _ _ _ _ _ _
          refine DC.seq ?_
          refine DC.condF rfl ?_
          refine DC.exit ?_
          show DC _ _ _ _ _ _
          refine DC.seq ?_
          refine DC.region ?_
          refine DL.y rfl rfl (Y.move) ?_
          refine DL.y rfl rfl (Y.assign) ?_
          refine DL.nil ?_
          show DC _ _ _ _ _ _
          refine DC.ret ?_
          refine FinQ.ret1 rfl (Ret.mk FR ?_)
          show World.ownsRow _ w.heap.size 26 6 sl2 (leaves (.mk kind half text list keys vals)).length (cellsL (leaves (.mk kind half text list keys vals)))
          have hke : k2 = keys.length := by omega
          have hle : k = list.length := by omega
          rcases hor with ⟨h0, rfl⟩ | ⟨h0, h⟩
          · have hk0' : keys = [] := List.eq_nil_of_length_eq_zero (by omega)
            subst hle; subst hk0'
            have hlv : leaves (.mk kind half text list [] vals) = numsL list.length := by simp [leaves, txtsL]
            rw [hlv]
            have e : (numsL list.length).length = list.length := by simp [numsL]
            rw [e]; exact own_base hown hB0w
          · have hl0' : list = [] := List.eq_nil_of_length_eq_zero h0
            subst hke; subst hl0'
            have hlv : leaves (.mk kind half text [] keys vals) = txtsL keys := by simp [leaves, numsL]
            rw [hlv]
            have e : (txtsL keys).length = keys.length := by simp [txtsL]
            rw [e]
            rw [List.take_length] at h; exact own_base h hB2w

end Go.Proofs.YtmbleojlnaofjaaGreatDoor
