/- The walk of laws.FnFlattenWrapped. -/
import Derived.Test.YtmbleojlnaofjaaDoorFlat8
namespace Go.Proofs.YtmbleojlnaofjaaDoor
open Go Go.RowKit D Go.Deep
set_option linter.unusedVariables false
set_option linter.unusedSimpArgs false


theorem wrap_step {w : World} {D : Nat → Prop} {l : List V} {m b : Nat} {cs : Array Value} (h : RVD w D (wrapV l m) cs) (hb : w.heap[b]? = some (.cells cs 26 (0, 0))) (hD : D b) : RVD w D (wrapV l (m + 1)) (arrC (.slice (some ⟨b, 0, none⟩) 1 1)) :=
  .mk (list := [wrapV l m]) (fun _ => cs) (fun _ => #[]) (by omega) (by omega) (by decide) (by simp) (by simp) (by simp) (by simp)
    (fun i hi => ⟨b, 0, rfl, hD, by obtain rfl : i = 0 := by (simp only [List.length_singleton] at hi; omega)
                                    exact .ofBlk hb, h.size⟩)
    (fun i hi => by obtain rfl : i = 0 := by (simp only [List.length_singleton] at hi; omega)
                    exact h) (fun i hi => absurd hi (by simp)) (fun i hi => absurd hi (by simp)) (fun i hi => absurd hi (by simp))
theorem rem12 {n : Int} (h : 0 ≤ n ∧ n ≤ 255) : ∃ K : Nat, n.tmod 12 = (K : Int) ∧ K ≤ 11 := by
  refine ⟨(n.tmod 12).toNat, ?_, ?_⟩
  · have := Int.tmod_nonneg 12 h.1; omega
  · have := Int.tmod_lt_of_pos n (show (0 : Int) < 12 by decide); omega


section
variable {P : Program} {e : Env} {w : World} {dst : Option Tmp} {ty : TypeId} {pos : String} {af : Array Edge} {g : Option (Nat × Bool)}
theorem remC {x y : Operand} {t u : TypeId} {k : IntKind} {a b c : Int} (hx : ev e x = .int k a) (hy : ev e y = .int k b) (hb : b ≠ 0) (h : a.tmod b = c) : Y P e ⟨dst, .binOp .rem t x y u, ty, pos, af, g⟩ w (.int k c) := by
  subst h; exact Y.rem hx hy hb
theorem convC {x : Operand} {s t : TypeId} {k k' : IntKind} {a c : Int} (hs : (P.underlying s).isSome = true) (ht : P.underlying t = some (.int k')) (hx : ev e x = .int k a) (h : k'.wrap a = c) : Y P e ⟨dst, .convert s t x, ty, pos, af, g⟩ w (.int k' c) := by
  subst h; exact Y.convII hs ht hx
end

set_option maxHeartbeats 1000000 in
theorem law_any (list : List V) (a : Option Addr) (lc : Nat) (n : Int) (B : Nat) (w : World) (hR : RVL w B a list) (hB : B ≤ w.heap.size) (h2 : 2 ≤ B) (hT : Tabs w) (hn : list.length ≤ 140737488351232) (hn8 : 0 ≤ n ∧ n ≤ 255) : Calls Tryd.prog 6 #[.slice a list.length lc, .int .u8 n] w (Ret w [] fun r _ => r = .bool true) := by
  obtain ⟨K, hK, hK11⟩ := rem12 hn8
  have hKw : IntKind.i64.wrap (K : Int) = (K : Int) := wrap_i64 (by omega) (by omega)
  refine calls_of Tryd.func6 rfl rfl rfl rfl ?_
  have FR := Fr.refl [] w
  refine DC.seq ?_
  refine DC.region ?_
  refine DL.y rfl rfl (Y.assign) ?_
  refine DL.nil ?_
  show DC _ _ _ _ _ _
  refine DC.seq ?_
  refine DC.seq ?_
  refine DC.region ?_
  refine DL.y rfl rfl (Y.move) ?_
  refine DL.y rfl rfl (Y.lenS Tryd.underlying23 rfl) ?_
  refine DL.if rfl rfl (Y.gt rfl rfl) (fun c9 => ?_) (fun c9 => ?_)
  · refine DL.nil ?_
    show DC _ _ _ _ _ _
    refine DC.condT rfl ?_
    refine DC.seq ?_
    refine DC.region ?_
    refine DL.y rfl rfl (Y.assign) ?_
    refine DL.nil ?_
    show DC _ _ _ _ _ _
    refine DC.ret ?_
    exact FinQ.ret1 rfl (Ret.mk FR rfl)
  · refine DL.nil ?_
    show DC _ _ _ _ _ _
    refine DC.condF rfl ?_
    refine DC.skip ?_
    show DC _ _ _ _ _ _
    refine DC.seq ?_
    refine DC.seq ?_
    refine DC.region ?_
    refine DL.y rfl rfl (Y.move) ?_
    refine DL.call rfl rfl F.nm19 rfl (array_any _ _ _ _) ?_
    rintro _ w1 f2 rfl
    replace FR := FR.tr0 f2
    replace hR := hR.fr f2 (by intro x hx; simp <;> omega)
    replace hT := hT.fr f2 (by intro x hx; simp <;> omega)
    refine DL.buildSl1 (cs := arrC (.slice a list.length lc)) rfl rfl F.el23 rfl rfl rfl ?_
    intro b12 w3 f4 lo12 hi12 hb12
    replace lo12 := Nat.le_trans FR.size lo12
    replace FR := FR.tr0 f4
    replace hR := hR.fr f4 (by intro x hx; simp <;> omega)
    replace hT := hT.fr f4 (by intro x hx; simp <;> omega)
    refine DL.call rfl rfl F.nm18 rfl (fits_any _ _ B b12 _ (arr_rv hR hn) (by have := FR.size; omega) h2 hT hb12) ?_
    rintro _ w5 f6 ⟨q, rfl, hqa⟩
    replace FR := FR.tr0 f6
    replace hR := hR.fr f6 (by intro x hx; simp <;> omega)
    replace hT := hT.fr f6 (by intro x hx; simp <;> omega)
    replace hb12 := f6.blk0 hb12
    replace hi12 := Nat.lt_of_lt_of_le hi12 f6.size
    refine (Bool.eq_false_or_eq_true q).elim (fun hq => ?_) (fun hq => ?_)
    · obtain ⟨hG, hnd, hby⟩ := hqa hq
      change Good (wrapV list 0) at hG
      change (wrapV list 0).nodes ≤ 400 at hnd
      have hnl : V.nodesL list ≤ 400 := by have e : (wrapV list 0).nodes = 1 + V.nodesL list + 0 := rfl; omega
      have hll := length_le_nodesL list
      have hbl : V.bytesL list ≤ 2000 := by have e : (V.mk 5 0 ⟨#[]⟩ list [] []).bytes = (⟨#[]⟩ : ByteArray).size + V.bytesL list + bytesK [] + 0 := rfl; omega
      subst hq
      refine DL.y rfl rfl (Y.not rfl) ?_
      refine DL.nil ?_
      show DC _ _ _ _ _ _
      refine DC.condF rfl ?_
      refine DC.skip ?_
      show DC _ _ _ _ _ _
      refine DC.seq ?_
      refine DC.region ?_
      refine DL.y rfl rfl (Y.move) ?_
      refine DL.call rfl rfl F.nm19 rfl (array_any _ _ _ _) ?_
      rintro _ w7 f8 rfl
      replace FR := FR.tr0 f8
      replace hR := hR.fr f8 (by intro x hx; simp <;> omega)
      replace hT := hT.fr f8 (by intro x hx; simp <;> omega)
      replace hb12 := f8.blk0 hb12
      replace hi12 := Nat.lt_of_lt_of_le hi12 f8.size
      refine DL.y rfl rfl (Y.move) ?_
      refine DL.y rfl rfl (remC rfl rfl (by decide) hK) ?_
      refine DL.y rfl rfl (convC F.us5 Tryd.underlying3 rfl hKw) ?_
      refine DL.alloc rfl rfl F.z26 rfl ?_
      intro b5 w9 f10 lo5 hi5 hb5
      have lt_b12_b5 : b12 < b5 := Nat.lt_of_lt_of_le hi12 lo5
      replace lo5 := Nat.le_trans FR.size lo5
      replace FR := FR.tr0 f10
      replace hR := hR.fr f10 (by intro x hx; simp <;> omega)
      replace hT := hT.fr f10 (by intro x hx; simp <;> omega)
      replace hb12 := f10.blk0 hb12
      replace hi12 := Nat.lt_of_lt_of_le hi12 f10.size
      refine DL.storeA rfl F.ag26 rfl rfl rfl (by kernel_rfl) hb5 rfl ?_
      intro w11 f12 hs13 hb5'
      replace FR := FR.put f12 (by intro i hi; simp only [List.mem_cons, List.mem_singleton, List.not_mem_nil, or_false] at hi; rcases hi with rfl; all_goals (first | (left; simp; done) | (right; omega)))
      replace hR := hR.fr f12 (by intro x hx; simp <;> omega)
      replace hT := hT.fr f12 (by intro x hx; simp <;> omega)
      replace hb12 := f12.blk hb12 (by simp only [List.mem_cons, List.not_mem_nil, or_false, not_or]; omega)
      replace hi12 := Nat.lt_of_lt_of_le hi12 f12.size
      replace hi5 := Nat.lt_of_lt_of_le hi5 f12.size
      replace hb5 := hb5'
      refine DL.y rfl rfl (Y.assign) ?_
      refine DL.nil ?_
      show DC _ _ _ _ _ _
      refine DC.seq ?_
      refine DC.seq ?_
      refine DC.region ?_
      refine DL.y rfl rfl (Y.move) ?_
      refine DL.y rfl rfl (Y.move) ?_
      refine DL.nil ?_
      show DC _ _ _ _ _ _
      refine DC.block ?_
      obtain ⟨Bx, hBx⟩ : ∃ Bx, Bx = w11.heap.size := ⟨_, rfl⟩
      have hb5x : b5 < Bx := by omega
      have hBb5 : B ≤ b5 := by omega
      refine DC.loop (σ := Nat × Array Value) [(21, 26)] (fun (m, _) => [(21, .int .i64 (m : Int))]) (fun sg wl => Fr [b5] w11 wl ∧ (fun (m, cs) wl => m ≤ K ∧ wl.heap[b5]? = some (.cells cs 26 (0, 0)) ∧ RVD wl (fun b => b < B ∨ (Bx ≤ b ∧ b < wl.heap.size)) (wrapV list m) cs) sg wl) (fun (m, _) => K - m) ((0, arrC (.slice a list.length lc))) rfl ?_ ?_ ?_
      · exact rfl
      · exact ⟨Fr.refl _ _, Nat.zero_le _, hb5, (arr_rv hR hn).toD.mono (fun b hb => Or.inl hb)⟩
      · rintro ⟨m, cs⟩ j w14 ⟨f15, hm0, hb5, hrv⟩
        replace FR := FR.put f15 (by intro i hi; simp only [List.mem_cons, List.mem_singleton, List.not_mem_nil, or_false] at hi; rcases hi with rfl; all_goals (first | (left; simp; done) | (right; omega)))
        replace hR := hR.fr f15 (by intro x hx; simp <;> omega)
        replace hT := hT.fr f15 (by intro x hx; simp <;> omega)
        replace hb12 := f15.blk hb12 (by simp only [List.mem_cons, List.not_mem_nil, or_false, not_or]; omega)
        replace hi12 := Nat.lt_of_lt_of_le hi12 f15.size
        replace hi5 := Nat.lt_of_lt_of_le hi5 f15.size
        have G16 := f15
        have HG16 := Fr.refl [b5] w14
        refine DC.seq ?_
        refine DC.region ?_
        refine DL.if rfl rfl (Y.lt rfl rfl) (fun c22 => ?_) (fun c22 => ?_)
        · have hmK : m < K := by omega
          refine DL.nil ?_
          show DC _ _ _ _ _ _
          refine DC.seq ?_
          refine DC.condT rfl ?_
          refine DC.skip ?_
          show DC _ _ _ _ _ _
          refine DC.seq ?_
          refine DC.block ?_
          refine DC.region ?_
          refine DL.y rfl rfl (Y.loadW rfl hb5 (by rw [hrv.size]; exact F.ag26)) ?_
          refine DL.buildSl1 (cs := cs) rfl rfl F.el23 rfl rfl hrv.size ?_
          intro b24 w17 f18 lo24 hi24 hb24
          have lt_b12_b24 : b12 < b24 := Nat.lt_of_lt_of_le hi12 lo24
          have lt_b5_b24 : b5 < b24 := Nat.lt_of_lt_of_le hi5 lo24
          have lo24G16 := Nat.le_trans G16.size lo24
          have lo24HG16 := Nat.le_trans HG16.size lo24
          replace lo24 := Nat.le_trans FR.size lo24
          replace FR := FR.tr0 f18
          replace G16 := G16.tr0 f18
          replace HG16 := HG16.tr0 f18
          replace hR := hR.fr f18 (by intro x hx; simp <;> omega)
          replace hT := hT.fr f18 (by intro x hx; simp <;> omega)
          replace hb12 := f18.blk0 hb12
          replace hi12 := Nat.lt_of_lt_of_le hi12 f18.size
          replace hi5 := Nat.lt_of_lt_of_le hi5 f18.size
          replace hb5 := f18.blk0 hb5
          replace hrv := hrv.fr f18 (by intro b hb hm; first | (simp at hm; done) | (simp only [List.mem_singleton] at hm; omega))
          refine DL.call rfl rfl F.nm19 rfl (array_any _ _ _ _) ?_
          rintro _ w19 f20 rfl
          replace FR := FR.tr0 f20
          replace G16 := G16.tr0 f20
          replace HG16 := HG16.tr0 f20
          replace hR := hR.fr f20 (by intro x hx; simp <;> omega)
          replace hT := hT.fr f20 (by intro x hx; simp <;> omega)
          replace hb12 := f20.blk0 hb12
          replace hi12 := Nat.lt_of_lt_of_le hi12 f20.size
          replace hi5 := Nat.lt_of_lt_of_le hi5 f20.size
          replace hb5 := f20.blk0 hb5
          replace hrv := hrv.fr f20 (by intro b hb hm; first | (simp at hm; done) | (simp only [List.mem_singleton] at hm; omega))
          replace hb24 := f20.blk0 hb24
          replace hi24 := Nat.lt_of_lt_of_le hi24 f20.size
          obtain ⟨H1, hH1⟩ : ∃ H1, H1 = w19.heap.size := ⟨_, rfl⟩
          have hrv2 : RVD w19 (fun b => b < B ∨ (Bx ≤ b ∧ b < H1)) (wrapV list (m + 1)) (arrC (.slice (some ⟨b24, 0, none⟩) 1 1)) := wrap_step (hrv.mono (fun b hb => by rcases hb with h | h; exact Or.inl h; exact Or.inr ⟨h.1, by omega⟩)) hb24 (Or.inr ⟨by omega, by omega⟩)
          have hH1le := Nat.le_of_eq hH1
          refine DL.storeA (cs := arrC (.slice (some ⟨b24, 0, none⟩) 1 1)) rfl F.ag26 rfl rfl rfl (by kernel_rfl) hb5 hrv.size ?_
          intro w21 f22 hs23 hb5'
          replace FR := FR.put f22 (by intro i hi; simp only [List.mem_cons, List.mem_singleton, List.not_mem_nil, or_false] at hi; rcases hi with rfl; all_goals (first | (left; simp; done) | (right; omega)))
          replace G16 := G16.put f22 (by intro i hi; simp only [List.mem_cons, List.mem_singleton, List.not_mem_nil, or_false] at hi; rcases hi with rfl; all_goals (first | (left; simp; done) | (right; omega)))
          replace HG16 := HG16.put f22 (by intro i hi; simp only [List.mem_cons, List.mem_singleton, List.not_mem_nil, or_false] at hi; rcases hi with rfl; all_goals (first | (left; simp; done) | (right; omega)))
          replace hR := hR.fr f22 (by intro x hx; simp <;> omega)
          replace hT := hT.fr f22 (by intro x hx; simp <;> omega)
          replace hb12 := f22.blk hb12 (by simp only [List.mem_cons, List.not_mem_nil, or_false, not_or]; omega)
          replace hi12 := Nat.lt_of_lt_of_le hi12 f22.size
          replace hi5 := Nat.lt_of_lt_of_le hi5 f22.size
          replace hrv := hrv.fr f22 (by intro b hb hm; first | (simp at hm; done) | (simp only [List.mem_singleton] at hm; omega))
          replace hb24 := f22.blk hb24 (by simp only [List.mem_cons, List.not_mem_nil, or_false, not_or]; omega)
          replace hi24 := Nat.lt_of_lt_of_le hi24 f22.size
          replace hrv2 := hrv2.fr f22 (by intro b hb hm; first | (simp at hm; done) | (simp only [List.mem_singleton] at hm; omega))
          replace hH1le := Nat.le_trans hH1le f22.size
          replace hb5 := hb5'
          refine DL.nil ?_
          show DC _ _ _ _ _ _
          refine DC.region ?_
          refine DL.y rfl rfl (Y.addI (c := ((m + 1 : Nat) : Int)) rfl rfl (by omega) (by omega) (by omega)) ?_
          refine DL.y rfl rfl (Y.move) ?_
          refine DL.nil ?_
          exact ⟨(m + 1, arrC (.slice (some ⟨b24, 0, none⟩) 1 1)), ⟨G16, by omega, hb5, hrv2.mono (fun b hb => by rcases hb with h | h; exact Or.inl h; exact Or.inr ⟨h.1, by omega⟩)⟩, by show K - (m + 1) < K - m; omega, rfl⟩
        · obtain rfl : K = m := by omega
          refine DL.nil ?_
          show DC _ _ _ _ _ _
          refine DC.seq ?_
          refine DC.condF rfl ?_
          refine DC.exit ?_
          show DC _ _ _ _ _ _
          refine DC.seq ?_
          refine DC.region ?_
          refine DL.y rfl rfl (Y.loadW rfl hb5 (by rw [hrv.size]; exact F.ag26)) ?_
          refine DL.y rfl rfl (Y.move) ?_
          refine DL.call rfl rfl F.nm20 rfl (FlattenBy_any list K hK11 cs _ _ hrv.live (Nat.le_refl _) hG hnd (by omega)) ?_
          rintro _ w24 f25 ⟨la, lc', ka, kc, va, vc, rfl, hce⟩
          replace FR := FR.tr0 f25
          replace G16 := G16.tr0 f25
          replace HG16 := HG16.tr0 f25
          replace hR := hR.fr f25 (by intro x hx; simp <;> omega)
          replace hT := hT.fr f25 (by intro x hx; simp <;> omega)
          replace hb12 := f25.blk0 hb12
          replace hi12 := Nat.lt_of_lt_of_le hi12 f25.size
          replace hi5 := Nat.lt_of_lt_of_le hi5 f25.size
          replace hb5 := f25.blk0 hb5
          replace hrv := hrv.fr f25 (by intro b hb hm; first | (simp at hm; done) | (simp only [List.mem_singleton] at hm; omega))
          refine DL.y rfl rfl (Y.move) ?_
          refine DL.call rfl rfl F.nm19 rfl (array_any _ _ _ _) ?_
          rintro _ w26 f27 rfl
          replace FR := FR.tr0 f27
          replace G16 := G16.tr0 f27
          replace HG16 := HG16.tr0 f27
          replace hR := hR.fr f27 (by intro x hx; simp <;> omega)
          replace hT := hT.fr f27 (by intro x hx; simp <;> omega)
          replace hb12 := f27.blk0 hb12
          replace hi12 := Nat.lt_of_lt_of_le hi12 f27.size
          replace hi5 := Nat.lt_of_lt_of_le hi5 f27.size
          replace hb5 := f27.blk0 hb5
          replace hrv := hrv.fr f27 (by intro b hb hm; first | (simp at hm; done) | (simp only [List.mem_singleton] at hm; omega))
          replace hce := hce.fr f27 (by intro b hb hm; first | (simp at hm; done) | (simp only [List.mem_singleton] at hm; omega))
          refine DL.call rfl rfl F.nm12 rfl (given_any _ (.int .i64 5) (.int .i64 0) (.string ⟨#[]⟩) _ _ _ _ _ _ hce.live ((arr_rv hR hn).lt (by have := FR.size; omega))) ?_
          rintro _ w28 f29 rfl
          replace FR := FR.tr0 f29
          replace G16 := G16.tr0 f29
          replace HG16 := HG16.tr0 f29
          replace hR := hR.fr f29 (by intro x hx; simp <;> omega)
          replace hT := hT.fr f29 (by intro x hx; simp <;> omega)
          replace hb12 := f29.blk0 hb12
          replace hi12 := Nat.lt_of_lt_of_le hi12 f29.size
          replace hi5 := Nat.lt_of_lt_of_le hi5 f29.size
          replace hb5 := f29.blk0 hb5
          replace hrv := hrv.fr f29 (by intro b hb hm; first | (simp at hm; done) | (simp only [List.mem_singleton] at hm; omega))
          replace hce := hce.fr f29 (by intro b hb hm; first | (simp at hm; done) | (simp only [List.mem_singleton] at hm; omega))
          refine DL.y rfl rfl (Y.move) ?_
          refine DL.y rfl rfl (Y.move) ?_
          refine DL.call rfl rfl F.nm19 rfl (array_any _ _ _ _) ?_
          rintro _ w30 f31 rfl
          replace FR := FR.tr0 f31
          replace G16 := G16.tr0 f31
          replace HG16 := HG16.tr0 f31
          replace hR := hR.fr f31 (by intro x hx; simp <;> omega)
          replace hT := hT.fr f31 (by intro x hx; simp <;> omega)
          replace hb12 := f31.blk0 hb12
          replace hi12 := Nat.lt_of_lt_of_le hi12 f31.size
          replace hi5 := Nat.lt_of_lt_of_le hi5 f31.size
          replace hb5 := f31.blk0 hb5
          replace hrv := hrv.fr f31 (by intro b hb hm; first | (simp at hm; done) | (simp only [List.mem_singleton] at hm; omega))
          replace hce := hce.fr f31 (by intro b hb hm; first | (simp at hm; done) | (simp only [List.mem_singleton] at hm; omega))
          refine DL.call rfl rfl F.nm21 rfl (Length_any list _ B _ (arr_rv hR hn) (by have := FR.size; omega) hG hnd) ?_
          rintro _ w32 f33 rfl
          replace FR := FR.tr0 f33
          replace G16 := G16.tr0 f33
          replace HG16 := HG16.tr0 f33
          replace hR := hR.fr f33 (by intro x hx; simp <;> omega)
          replace hT := hT.fr f33 (by intro x hx; simp <;> omega)
          replace hb12 := f33.blk0 hb12
          replace hi12 := Nat.lt_of_lt_of_le hi12 f33.size
          replace hi5 := Nat.lt_of_lt_of_le hi5 f33.size
          replace hb5 := f33.blk0 hb5
          replace hrv := hrv.fr f33 (by intro b hb hm; first | (simp at hm; done) | (simp only [List.mem_singleton] at hm; omega))
          replace hce := hce.fr f33 (by intro b hb hm; first | (simp at hm; done) | (simp only [List.mem_singleton] at hm; omega))
          refine DL.y rfl rfl (Y.move) ?_
          refine DL.y rfl rfl (Y.lenS Tryd.underlying23 rfl) ?_
          refine DL.call rfl rfl F.nm22 rfl (number_any _ (by omega) _) ?_
          rintro _ w34 f35 rfl
          replace FR := FR.tr0 f35
          replace G16 := G16.tr0 f35
          replace HG16 := HG16.tr0 f35
          replace hR := hR.fr f35 (by intro x hx; simp <;> omega)
          replace hT := hT.fr f35 (by intro x hx; simp <;> omega)
          replace hb12 := f35.blk0 hb12
          replace hi12 := Nat.lt_of_lt_of_le hi12 f35.size
          replace hi5 := Nat.lt_of_lt_of_le hi5 f35.size
          replace hb5 := f35.blk0 hb5
          replace hrv := hrv.fr f35 (by intro b hb hm; first | (simp at hm; done) | (simp only [List.mem_singleton] at hm; omega))
          replace hce := hce.fr f35 (by intro b hb hm; first | (simp at hm; done) | (simp only [List.mem_singleton] at hm; omega))
          refine DL.call rfl rfl F.nm12 rfl (given_any (.mk 3 (2 * (list.length : Int)) ⟨#[]⟩ [] [] []) _ _ _ _ _ _ _ _ _ (RVD.live (leafD w34 (fun _ => False) (by omega) (by omega) (by decide))) (RVD.live (leafD w34 (fun _ => False) (by omega) (by omega) (by decide)))) ?_
          rintro _ w36 f37 rfl
          replace FR := FR.tr0 f37
          replace G16 := G16.tr0 f37
          replace HG16 := HG16.tr0 f37
          replace hR := hR.fr f37 (by intro x hx; simp <;> omega)
          replace hT := hT.fr f37 (by intro x hx; simp <;> omega)
          replace hb12 := f37.blk0 hb12
          replace hi12 := Nat.lt_of_lt_of_le hi12 f37.size
          replace hi5 := Nat.lt_of_lt_of_le hi5 f37.size
          replace hb5 := f37.blk0 hb5
          replace hrv := hrv.fr f37 (by intro b hb hm; first | (simp at hm; done) | (simp only [List.mem_singleton] at hm; omega))
          replace hce := hce.fr f37 (by intro b hb hm; first | (simp at hm; done) | (simp only [List.mem_singleton] at hm; omega))
          refine DL.y rfl rfl (Y.pickT rfl) ?_
          refine DL.y rfl rfl (Y.assign) ?_
          refine DL.nil ?_
          show DC _ _ _ _ _ _
          refine DC.ret ?_
          exact FinQ.ret1 rfl (Ret.mk FR rfl)
    · subst hq
      refine DL.y rfl rfl (Y.not rfl) ?_
      refine DL.nil ?_
      show DC _ _ _ _ _ _
      refine DC.condT rfl ?_
      refine DC.seq ?_
      refine DC.region ?_
      refine DL.y rfl rfl (Y.assign) ?_
      refine DL.nil ?_
      show DC _ _ _ _ _ _
      refine DC.ret ?_
      exact FinQ.ret1 rfl (Ret.mk FR rfl)

end Go.Proofs.YtmbleojlnaofjaaDoor
