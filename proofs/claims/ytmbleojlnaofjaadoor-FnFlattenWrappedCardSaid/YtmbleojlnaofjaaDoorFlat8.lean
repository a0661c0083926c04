/- The walks of impl.FlattenBy, impl.Length and of the law's small functions. -/
import Derived.Test.YtmbleojlnaofjaaDoorFlat7
import Derived.Test.YtmbleojlnaofjaaDoorOpen
import Derived.Test.YtmbleojlnaofjaaDoorFits
namespace Go.Proofs.YtmbleojlnaofjaaDoor
open Go Go.RowKit D Go.Deep
set_option linter.unusedVariables false
set_option linter.unusedSimpArgs false


theorem inl_of_own {w : World} {D : Nat → Prop} {B : Nat} {v : Value} {l : List V} {zs : Nat → Value} (h : w.ownsRow B 20 1 v l.length ((List.range l.length).map zs)) (hg : ∀ (i : Nat) (h : i < l.length), GV w D l[i] (zs i)) (hD : ∀ b, D b → b < w.heap.size) :
    ∃ a c, v = .slice a l.length c ∧ InL w (fun b => b < w.heap.size) a l zs := by
  obtain ⟨a, c, rfl, hl, hc⟩ := own_cells h
  refine ⟨a, c, rfl, fun i hi => ?_, fun i hi => (hg i hi).mono hD⟩
  obtain ⟨b, rfl, hb1, hb2, hcell⟩ := hc i hi
  refine ⟨b, 0, rfl, hb2, fun j hj => ?_, rfl⟩
  have hj0 : j = 0 := by have : j < 1 := hj; omega
  subst hj0
  have := hcell 0 (by omega)
  rw [Nat.zero_add, this]
  simp [hi]
theorem arr_rv {w : World} {B : Nat} {a : Option Addr} {l : List V} {c : Nat} (h : RVL w B a l) (hn : l.length ≤ 140737488351232) : RV w B (.mk 5 0 ⟨#[]⟩ l [] []) (arrC (.slice a l.length c)) := by
  obtain ⟨L, hL, hq⟩ := exists_list (fun i (cl : Array Value) => (∃ b o, a = some ⟨b, o, none⟩ ∧ b < B ∧ CellsAt w b (o + i * 6) cl ∧ cl.size = 6) ∧ ∀ h : i < l.length, RV w B l[i] cl) l.length (fun i hi => by
    obtain ⟨b, o, cl, h1, h2, h3, h4, h5⟩ := h i hi
    exact ⟨cl, ⟨b, o, h1, h2, h3, h4⟩, fun _ => h5⟩)
  have e : ∀ i (hi : i < l.length), L.getD i #[] = L[i]'(by omega) := fun i hi => by simp [List.getD_eq_getElem?_getD, show i < L.length by omega]
  exact .mk (fun i => L.getD i #[]) (fun _ => #[]) (by omega) (by omega) (by decide) hn (by simp) (by simp) (by simp)
    (fun i hi => by obtain ⟨⟨b, o, h1, h2, h3, h4⟩, _⟩ := hq i (by omega); exact ⟨b, o, h1, h2, by show CellsAt _ _ _ (L.getD i #[]); rw [e i hi]; exact h3, by show (L.getD i #[]).size = 6; rw [e i hi]; exact h4⟩)
    (fun i hi => by show RV _ _ _ (L.getD i #[]); rw [e i hi]; exact (hq i (by omega)).2 hi) (fun i hi => absurd hi (by simp)) (fun i hi => absurd hi (by simp)) (fun i hi => absurd hi (by simp))
def wrapV (l : List V) (j : Nat) : V := .mk 5 0 ⟨#[]⟩ (wrapL l j) [] []
theorem wrap_nodes (l : List V) : ∀ j, (wrapV l j).nodes = (wrapV l 0).nodes + j
  | 0 => rfl
  | j + 1 => by
    have := wrap_nodes l j
    show 1 + ((wrapV l j).nodes + 0) + 0 = _
    omega
theorem wrap_good {l : List V} (h : Good (wrapV l 0)) : ∀ j, Good (wrapV l j)
  | 0 => h
  | j + 1 => by
    have ih := wrap_good h j
    exact .mk ⟨by omega, Or.inr rfl, Or.inr rfl, Or.inl rfl, Or.inr rfl, rfl, by omega, Or.inl rfl, by decide, (fun i h => absurd h (by simp)), (fun i h => absurd h (by simp))⟩
      (fun i hi => by obtain rfl : i = 0 := by (simp only [wrapL, List.length_singleton] at hi; omega)
                      exact ih) (fun i hi => absurd hi (by simp))

theorem zzFlatten_any (l : List V) (lv : Nat) (hlv : lv ≤ 11) (ys : Nat → Value) (a : Option Addr) (c : Nat) (D : Nat → Prop) (w : World) (hin : InL w D a (wrapL l lv) ys) (hD : ∀ b, D b → b < w.heap.size) (hl : l.length ≤ 1000000) :
    Calls Tryd.prog 36 #[.slice a (wrapL l lv).length c, .float .f64 (fb lv)] w (Ret w [] fun v w' => ∃ a' c' zs, v = .slice a' l.length c' ∧ InL w' (fun b => b < w'.heap.size) a' l zs) := by
  refine calls_of Tryd.func36 rfl rfl rfl rfl ?_
  have FR := Fr.refl [] w
  refine DC.seq ?_
  refine DC.region ?_
  refine DL.y rfl rfl (Y.assign) ?_
  refine DL.nil ?_
  show DC _ _ _ _ _ _
  refine DC.seq ?_
  refine DC.region ?_
  refine DL.buildSl0 rfl rfl Tryd.underlying60 F.in20 ?_
  intro b5 w1 f2 lo5 hi5 hb5
  replace lo5 := Nat.le_trans FR.size lo5
  replace FR := FR.tr0 f2
  replace hin := hin.fr f2 (by intro b hb hm; have := hD b hb; first | (simp at hm; done) | (simp only [List.mem_singleton] at hm; omega))
  refine DL.y rfl rfl (Y.move) ?_
  refine DL.y rfl rfl (Y.move) ?_
  refine DL.call rfl rfl F.nm48 rfl (flatC_any l hl lv hlv ys a c D w.heap.size b5 _ hin hb5 hD lo5) ?_
  rintro v8 w3 f4 ⟨zs, hown, hgv⟩
  replace FR := FR.put f4 (by intro i hi; simp only [List.mem_cons, List.mem_singleton, List.not_mem_nil, or_false] at hi; rcases hi with rfl; all_goals (first | (left; simp; done) | (right; omega)))
  replace hin := hin.fr f4 (by intro b hb hm; have := hD b hb; first | (simp at hm; done) | (simp only [List.mem_singleton] at hm; omega))
  replace hi5 := Nat.lt_of_lt_of_le hi5 f4.size
  refine DL.y rfl rfl (Y.assign) ?_
  refine DL.nil ?_
  show DC _ _ _ _ _ _
  refine DC.ret ?_
  obtain ⟨a', c', rfl, hi2⟩ := inl_of_own hown hgv (fun b hb => by have := hD b hb; have := FR.size; omega)
  exact FinQ.ret1 rfl (Ret.mk FR ⟨a', c', zs, rfl, hi2⟩)

set_option maxHeartbeats 1000000 in
theorem FlattenBy_any (l : List V) (lv : Nat) (hlv : lv ≤ 11) (cs : Array Value) (B : Nat) (w : World) (hR : RV w B (wrapV l lv) cs) (hB : B ≤ w.heap.size) (hG0 : Good (wrapV l 0)) (hn : (wrapV l 0).nodes ≤ 400) (hby : V.bytesL l ≤ 1000000) :
    Calls Tryd.prog 20 #[.agg cs, .int .i64 (lv : Int)] w (Ret w [] fun r w' => ∃ la lc' ka kc va vc, r = .agg #[.int .i64 5, .int .i64 0, .string ⟨#[]⟩, .slice la l.length lc', .slice ka ([] : List ByteArray).length kc, .slice va ([] : List V).length vc, .int .i64 0] ∧ RVD w' (fun b => w.heap.size ≤ b ∧ b < w'.heap.size) (.mk 5 0 ⟨#[]⟩ l [] []) #[.int .i64 5, .int .i64 0, .string ⟨#[]⟩, .slice la l.length lc', .slice ka ([] : List ByteArray).length kc, .slice va ([] : List V).length vc]) := by
  have hG := wrap_good hG0 lv
  have hwn := wrap_nodes l lv
  have hn1 : V.nodesL (wrapL l lv) ≤ 1000000 := by have e : (wrapV l lv).nodes = 1 + V.nodesL (wrapL l lv) + 0 := rfl; omega
  have hnl : V.nodesL l ≤ 1000000 := by have e : (wrapV l 0).nodes = 1 + V.nodesL l + 0 := rfl; omega
  have hll := length_le_nodesL l
  have hgl : ∀ i (h : i < l.length), Good l[i] := by cases hG0 with | mk n hl hv => exact hl
  have hgw : ∀ i (h : i < (wrapL l lv).length), Good (wrapL l lv)[i] := by cases hG with | mk n hl hv => exact hl
  change RV w B (.mk 5 0 ⟨#[]⟩ (wrapL l lv) [] []) cs at hR
  obtain ⟨xa, xc, ya, yc, za, zc, rfl⟩ := hR.shape
  refine calls_of Tryd.func20 rfl rfl rfl rfl ?_
  have FR := Fr.refl [] w
  refine DC.seq ?_
  refine DC.region ?_
  refine DL.boxA rfl rfl rfl ?_
  intro b2 w1 f2 lo2 hi2 hb2
  replace lo2 := Nat.le_trans FR.size lo2
  replace FR := FR.tr0 f2
  replace hR := hR.fr f2 (by intro x hx; simp <;> omega)
  refine DL.alloc rfl rfl F.z34 rfl ?_
  intro b4 w3 f4 lo4 hi4 hb4
  have lt_b2_b4 : b2 < b4 := Nat.lt_of_lt_of_le hi2 lo4
  replace lo4 := Nat.le_trans FR.size lo4
  replace FR := FR.tr0 f4
  replace hR := hR.fr f4 (by intro x hx; simp <;> omega)
  replace hb2 := f4.blk0 hb2
  replace hi2 := Nat.lt_of_lt_of_le hi2 f4.size
  refine DL.nil ?_
  show DC _ _ _ _ _ _
  refine DC.seq ?_
  refine DC.region ?_
  refine DL.y rfl rfl (Y.field F.fd26_3 rfl) ?_
  refine DL.y rfl rfl (Y.loadB F.sc23 rfl hb2 rfl) ?_
  obtain ⟨q0, hq0⟩ : ∃ q, q = w3.heap.size := ⟨_, rfl⟩
  have hb4q : b4 < q0 := by omega
  have hb2q : b2 < q0 := by omega
  refine DL.call rfl rfl F.nm35 rfl (listToGo_step _ (toGo_any _) (wrapL l lv) xa xc B _ (Nat.le_refl _) hn1 hgw hR.elems (by have := FR.size; omega)) ?_
  rintro _ w5 f6 ⟨a1, c1, xs1, rfl, hrow1, hgv1⟩
  replace FR := FR.tr0 f6
  replace hR := hR.fr f6 (by intro x hx; simp <;> omega)
  replace hb2 := f6.blk0 hb2
  replace hi2 := Nat.lt_of_lt_of_le hi2 f6.size
  replace hb4 := f6.blk0 hb4
  replace hi4 := Nat.lt_of_lt_of_le hi4 f6.size
  obtain ⟨q1, hq1⟩ : ∃ q, q = w5.heap.size := ⟨_, rfl⟩
  have hin : InL w5 (fun b => q0 ≤ b ∧ b < q1) a1 (wrapL l lv) xs1 := ⟨hrow1.mono (fun b hb => by rw [hq0, hq1]; exact hb), fun i h => (hgv1 i h).mono (fun b hb => by rw [hq0, hq1]; exact hb)⟩
  have hq1le := Nat.le_of_eq hq1
  have hD : ∀ b, (q0 ≤ b ∧ b < q1) → b4 < b ∧ b2 < b := fun b hb => by omega
  refine DL.y rfl rfl (Y.move) ?_
  refine DL.y rfl rfl (Y.extract rfl rfl) ?_
  refine DL.y rfl rfl (Y.extract rfl rfl) ?_
  refine DL.y rfl rfl (Y.assign) ?_
  refine DL.y rfl rfl (Y.assign) ?_
  refine DL.nil ?_
  show DC _ _ _ _ _ _
  refine DC.seq ?_
  refine DC.seq ?_
  refine DC.region ?_
  refine DL.y rfl rfl (Y.move) ?_
  refine DL.y rfl rfl (Y.not rfl) ?_
  refine DL.y rfl rfl (Y.move) ?_
  refine DL.y rfl rfl (Y.field F.fd26_0 rfl) ?_
  refine DL.y rfl rfl (Y.loadB F.sc22 rfl hb2 rfl) ?_
  refine DL.if rfl rfl (Y.ne rfl rfl) (fun c18 => ?_) (fun c18 => ?_)
  · exact absurd rfl c18
  · refine DL.y rfl rfl (Y.pickF rfl) ?_
    refine DL.nil ?_
    show DC _ _ _ _ _ _
    refine DC.condF rfl ?_
    refine DC.skip ?_
    show DC _ _ _ _ _ _
    refine DC.seq ?_
    refine DC.region ?_
    refine DL.y rfl rfl (Y.move) ?_
    refine DL.y rfl rfl (Y.move) ?_
    refine DL.y rfl rfl (Y.convIF F.us3 Tryd.underlying64 rfl) ?_
    refine DL.call rfl rfl F.nm36 rfl (zzFlatten_any l lv hlv xs1 a1 c1 _ _ hin (fun b hb => Nat.lt_of_lt_of_le hb.2 hq1le) (by omega)) ?_
    rintro _ w7 f8 ⟨a2, c2, zs2, rfl, hin2⟩
    replace FR := FR.tr0 f8
    replace hR := hR.fr f8 (by intro x hx; simp <;> omega)
    replace hb2 := f8.blk0 hb2
    replace hi2 := Nat.lt_of_lt_of_le hi2 f8.size
    replace hb4 := f8.blk0 hb4
    replace hi4 := Nat.lt_of_lt_of_le hi4 f8.size
    replace hin := hin.fr f8 (by intro b hb hm; have := hD b hb; first | (simp at hm; done) | (simp only [List.mem_singleton] at hm; omega))
    replace hq1le := Nat.le_trans hq1le f8.size
    refine DL.y rfl rfl (Y.mkI F.if60) ?_
    obtain ⟨lo, hlo⟩ : ∃ lo, lo = w7.heap.size := ⟨_, rfl⟩
    have hb4lo : b4 < lo := by omega
    have hwlo : w.heap.size ≤ lo := by have := FR.size; omega
    refine DL.call rfl rfl F.nm28 rfl (result_list l zs2 a2 c2 _ _ hnl hby hgl hin2 (fun b hb => hb)) ?_
    rintro _ w9 f10 ⟨ce, rfl, hce⟩
    replace FR := FR.tr0 f10
    replace hR := hR.fr f10 (by intro x hx; simp <;> omega)
    replace hb2 := f10.blk0 hb2
    replace hi2 := Nat.lt_of_lt_of_le hi2 f10.size
    replace hb4 := f10.blk0 hb4
    replace hi4 := Nat.lt_of_lt_of_le hi4 f10.size
    replace hin := hin.fr f10 (by intro b hb hm; have := hD b hb; first | (simp at hm; done) | (simp only [List.mem_singleton] at hm; omega))
    replace hq1le := Nat.le_trans hq1le f10.size
    obtain ⟨hi, hhi⟩ : ∃ hi, hi = w9.heap.size := ⟨_, rfl⟩
    rw [← hlo, ← hhi] at hce
    have hle := Nat.le_of_eq hhi
    obtain ⟨la, lc', ka, kc, va, vc, hcs⟩ := hce.shape
    subst hcs
    refine DL.storeA (cs := #[.int .i64 5, .int .i64 0, .string ⟨#[]⟩, .slice la l.length lc', .slice ka ([] : List ByteArray).length kc, .slice va ([] : List V).length vc, .int .i64 0]) rfl F.ag34 rfl rfl rfl (by kernel_rfl) hb4 rfl ?_
    intro w11 f12 hs13 hb4'
    replace FR := FR.put f12 (by intro i hi; simp only [List.mem_cons, List.mem_singleton, List.not_mem_nil, or_false] at hi; rcases hi with rfl; all_goals (first | (left; simp; done) | (right; omega)))
    replace hR := hR.fr f12 (by intro x hx; simp <;> omega)
    replace hb2 := f12.blk hb2 (by simp only [List.mem_cons, List.not_mem_nil, or_false, not_or]; omega)
    replace hi2 := Nat.lt_of_lt_of_le hi2 f12.size
    replace hi4 := Nat.lt_of_lt_of_le hi4 f12.size
    replace hin := hin.fr f12 (by intro b hb hm; have := hD b hb; first | (simp at hm; done) | (simp only [List.mem_singleton] at hm; omega))
    replace hq1le := Nat.le_trans hq1le f12.size
    replace hce := hce.fr f12 (by intro b hb hm; first | (simp at hm; done) | (simp only [List.mem_singleton] at hm; omega))
    replace hle := Nat.le_trans hle f12.size
    replace hb4 := hb4'
    refine DL.nil ?_
    show DC _ _ _ _ _ _
    refine DC.ret ?_
    exact FinQ.retC rfl (cs := #[.int .i64 5, .int .i64 0, .string ⟨#[]⟩, .slice la l.length lc', .slice ka ([] : List ByteArray).length kc, .slice va ([] : List V).length vc, .int .i64 0]) F.ag34 (.ofBlk hb4) (Ret.mk FR ⟨_, _, _, _, _, _, rfl, hce.mono (fun b hb => ⟨by omega, by omega⟩)⟩)

theorem fLength_list (a : Option Addr) (n c : Nat) (w : World) : Calls Tryd.prog 49 #[.iface 60 (.slice a n c)] w (Ret w [] fun v _ => v = .iface 3 (.int .i64 (n : Int))) := by
  refine calls_of Tryd.func49 rfl rfl rfl rfl ?_
  have FR := Fr.refl [] w
  refine DC.seq ?_
  refine DC.region ?_
  refine DL.y rfl rfl (Y.assign) ?_
  refine DL.nil ?_
  show DC _ _ _ _ _ _
  refine DC.seq ?_
  refine DC.region ?_
  refine DL.y rfl rfl (Y.move) ?_
  refine DL.nil ?_
  show DC _ _ _ _ _ _
  refine DC.block ?_
  refine DC.seq ?_
  refine DC.region ?_
  refine DL.y rfl rfl (Y.eqNilI Tryd.underlying20 rfl) ?_
  refine DL.nil ?_
  show DC _ _ _ _ _ _
  refine DC.condF rfl ?_
  refine DC.seq ?_
  refine DC.region ?_
  refine DL.y rfl rfl (Y.asNo F.if3 F.z3 rfl rfl) ?_
  refine DL.y rfl rfl (Y.extract rfl rfl) ?_
  refine DL.y rfl rfl (Y.extract rfl rfl) ?_
  refine DL.nil ?_
  show DC _ _ _ _ _ _
  refine DC.condF rfl ?_
  refine DC.seq ?_
  refine DC.region ?_
  refine DL.y rfl rfl (Y.asNo F.if64 F.z64 rfl rfl) ?_
  refine DL.y rfl rfl (Y.extract rfl rfl) ?_
  refine DL.y rfl rfl (Y.extract rfl rfl) ?_
  refine DL.nil ?_
  show DC _ _ _ _ _ _
  refine DC.condF rfl ?_
  refine DC.seq ?_
  refine DC.region ?_
  refine DL.y rfl rfl (Y.asNo F.if85 F.z85 rfl rfl) ?_
  refine DL.y rfl rfl (Y.extract rfl rfl) ?_
  refine DL.y rfl rfl (Y.extract rfl rfl) ?_
  refine DL.nil ?_
  show DC _ _ _ _ _ _
  refine DC.condF rfl ?_
  refine DC.seq ?_
  refine DC.region ?_
  refine DL.y rfl rfl (Y.asNo F.if86 F.z86 rfl rfl) ?_
  refine DL.y rfl rfl (Y.extract rfl rfl) ?_
  refine DL.y rfl rfl (Y.extract rfl rfl) ?_
  refine DL.nil ?_
  show DC _ _ _ _ _ _
  refine DC.condF rfl ?_
  refine DC.seq ?_
  refine DC.region ?_
  refine DL.y rfl rfl (Y.asNo F.if9 F.z9 rfl rfl) ?_
  refine DL.y rfl rfl (Y.extract rfl rfl) ?_
  refine DL.y rfl rfl (Y.extract rfl rfl) ?_
  refine DL.nil ?_
  show DC _ _ _ _ _ _
  refine DC.condF rfl ?_
  refine DC.seq ?_
  refine DC.region ?_
  refine DL.y rfl rfl (Y.asYes F.if60 rfl) ?_
  refine DL.y rfl rfl (Y.extract rfl rfl) ?_
  refine DL.y rfl rfl (Y.extract rfl rfl) ?_
  refine DL.nil ?_
  show DC _ _ _ _ _ _
  refine DC.condT rfl ?_
  refine DC.seq ?_
  refine DC.region ?_
  refine DL.y rfl rfl (Y.assign) ?_
  refine DL.nil ?_
  show DC _ _ _ _ _ _
  refine DC.seq ?_
  refine DC.region ?_
  refine DL.y rfl rfl (Y.move) ?_
  refine DL.y rfl rfl (Y.lenS Tryd.underlying60 rfl) ?_
  refine DL.y rfl rfl (Y.mkI F.if3) ?_
  refine DL.y rfl rfl (Y.assign) ?_
  refine DL.nil ?_
  show DC _ _ _ _ _ _
  refine DC.ret ?_
  exact FinQ.ret1 rfl (Ret.mk FR rfl)

theorem zzLength_list (a : Option Addr) (n c : Nat) (w : World) : Calls Tryd.prog 37 #[.iface 60 (.slice a n c)] w (Ret w [] fun v _ => v = .iface 3 (.int .i64 (n : Int))) := by
  refine calls_of Tryd.func37 rfl rfl rfl rfl ?_
  have FR := Fr.refl [] w
  refine DC.seq ?_
  refine DC.region ?_
  refine DL.y rfl rfl (Y.assign) ?_
  refine DL.nil ?_
  show DC _ _ _ _ _ _
  refine DC.seq ?_
  refine DC.region ?_
  refine DL.y rfl rfl (Y.move) ?_
  refine DL.call rfl rfl F.nm49 rfl (fLength_list a n c _) ?_
  rintro _ w1 f2 rfl
  replace FR := FR.tr0 f2
  refine DL.y rfl rfl (Y.assign) ?_
  refine DL.nil ?_
  show DC _ _ _ _ _ _
  refine DC.ret ?_
  exact FinQ.ret1 rfl (Ret.mk FR rfl)

theorem Length_any (l : List V) (cs : Array Value) (B : Nat) (w : World) (hR : RV w B (.mk 5 0 ⟨#[]⟩ l [] []) cs) (hB : B ≤ w.heap.size) (hG : Good (.mk 5 0 ⟨#[]⟩ l [] [])) (hn : (V.mk 5 0 ⟨#[]⟩ l [] []).nodes ≤ 400) :
    Calls Tryd.prog 21 #[.agg cs] w (Ret w [] fun r _ => r = .agg #[.int .i64 3, .int .i64 (2 * (l.length : Int)), .string ⟨#[]⟩, .slice none 0 0, .slice none 0 0, .slice none 0 0, .int .i64 0]) := by
  have hnl : V.nodesL l ≤ 400 := by have e : (V.mk 5 0 ⟨#[]⟩ l [] []).nodes = 1 + V.nodesL l + 0 := rfl; omega
  have hll := length_le_nodesL l
  have hn6 : (V.mk 5 0 ⟨#[]⟩ l [] []).nodes ≤ 1000000 := by omega
  obtain ⟨xa, xc, ya, yc, za, zc, rfl⟩ := hR.shape
  refine calls_of Tryd.func21 rfl rfl rfl rfl ?_
  have FR := Fr.refl [] w
  refine DC.seq ?_
  refine DC.region ?_
  refine DL.boxA rfl rfl rfl ?_
  intro b1 w1 f2 lo1 hi1 hb1
  replace lo1 := Nat.le_trans FR.size lo1
  replace FR := FR.tr0 f2
  replace hR := hR.fr f2 (by intro x hx; simp <;> omega)
  refine DL.alloc rfl rfl F.z34 rfl ?_
  intro b2 w3 f4 lo2 hi2 hb2
  have lt_b1_b2 : b1 < b2 := Nat.lt_of_lt_of_le hi1 lo2
  replace lo2 := Nat.le_trans FR.size lo2
  replace FR := FR.tr0 f4
  replace hR := hR.fr f4 (by intro x hx; simp <;> omega)
  replace hb1 := f4.blk0 hb1
  replace hi1 := Nat.lt_of_lt_of_le hi1 f4.size
  refine DL.nil ?_
  show DC _ _ _ _ _ _
  refine DC.seq ?_
  refine DC.region ?_
  refine DL.y rfl rfl (Y.loadW rfl hb1 F.ag26) ?_
  refine DL.call rfl rfl F.nm24 rfl (toGo_any _ _ _ B _ (Nat.le_refl _) hn6 hG hR (by have := FR.size; omega)) ?_
  rintro _ w5 f6 ⟨x, rfl, hgx⟩
  replace FR := FR.tr0 f6
  replace hR := hR.fr f6 (by intro x hx; simp <;> omega)
  replace hb1 := f6.blk0 hb1
  replace hi1 := Nat.lt_of_lt_of_le hi1 f6.size
  replace hb2 := f6.blk0 hb2
  replace hi2 := Nat.lt_of_lt_of_le hi2 f6.size
  obtain ⟨ax, cx, xs, rfl, _⟩ := gv_list hgx
  refine DL.y rfl rfl (Y.move) ?_
  refine DL.y rfl rfl (Y.extract rfl rfl) ?_
  refine DL.y rfl rfl (Y.extract rfl rfl) ?_
  refine DL.y rfl rfl (Y.assign) ?_
  refine DL.y rfl rfl (Y.assign) ?_
  refine DL.nil ?_
  show DC _ _ _ _ _ _
  refine DC.seq ?_
  refine DC.seq ?_
  refine DC.region ?_
  refine DL.y rfl rfl (Y.move) ?_
  refine DL.y rfl rfl (Y.not rfl) ?_
  refine DL.nil ?_
  show DC _ _ _ _ _ _
  refine DC.condF rfl ?_
  refine DC.skip ?_
  show DC _ _ _ _ _ _
  refine DC.seq ?_
  refine DC.region ?_
  refine DL.y rfl rfl (Y.move) ?_
  refine DL.call rfl rfl F.nm37 rfl (zzLength_list _ _ _ _) ?_
  rintro _ w7 f8 rfl
  replace FR := FR.tr0 f8
  replace hR := hR.fr f8 (by intro x hx; simp <;> omega)
  replace hb1 := f8.blk0 hb1
  replace hi1 := Nat.lt_of_lt_of_le hi1 f8.size
  replace hb2 := f8.blk0 hb2
  replace hi2 := Nat.lt_of_lt_of_le hi2 f8.size
  refine DL.call rfl rfl F.nm28 rfl (result_int _ (by omega) _) ?_
  rintro _ w9 f10 rfl
  replace FR := FR.tr0 f10
  replace hR := hR.fr f10 (by intro x hx; simp <;> omega)
  replace hb1 := f10.blk0 hb1
  replace hi1 := Nat.lt_of_lt_of_le hi1 f10.size
  replace hb2 := f10.blk0 hb2
  replace hi2 := Nat.lt_of_lt_of_le hi2 f10.size
  refine DL.storeA (cs := #[.int .i64 3, .int .i64 (2 * (l.length : Int)), .string ⟨#[]⟩, .slice none 0 0, .slice none 0 0, .slice none 0 0, .int .i64 0]) rfl F.ag34 rfl rfl rfl (by kernel_rfl) hb2 rfl ?_
  intro w11 f12 hs13 hb2'
  replace FR := FR.put f12 (by intro i hi; simp only [List.mem_cons, List.mem_singleton, List.not_mem_nil, or_false] at hi; rcases hi with rfl; all_goals (first | (left; simp; done) | (right; omega)))
  replace hR := hR.fr f12 (by intro x hx; simp <;> omega)
  replace hb1 := f12.blk hb1 (by simp only [List.mem_cons, List.not_mem_nil, or_false, not_or]; omega)
  replace hi1 := Nat.lt_of_lt_of_le hi1 f12.size
  replace hi2 := Nat.lt_of_lt_of_le hi2 f12.size
  replace hb2 := hb2'
  refine DL.nil ?_
  show DC _ _ _ _ _ _
  refine DC.ret ?_
  exact FinQ.retC rfl (cs := #[.int .i64 3, .int .i64 (2 * (l.length : Int)), .string ⟨#[]⟩, .slice none 0 0, .slice none 0 0, .slice none 0 0, .int .i64 0]) F.ag34 (.ofBlk hb2) (Ret.mk FR rfl)

theorem array_any (a : Option Addr) (n c : Nat) (w : World) : Calls Tryd.prog 19 #[.slice a n c] w (Ret w [] fun v _ => v = .agg (arrC (.slice a n c))) := by
  refine calls_of Tryd.func19 rfl rfl rfl rfl ?_
  have FR := Fr.refl [] w
  refine DC.seq ?_
  refine DC.region ?_
  refine DL.alloc rfl rfl F.z26 rfl ?_
  intro b2 w1 f2 lo2 hi2 hb2
  replace lo2 := Nat.le_trans FR.size lo2
  replace FR := FR.tr0 f2
  refine DL.nil ?_
  show DC _ _ _ _ _ _
  refine DC.seq ?_
  refine DC.region ?_
  refine DL.y rfl rfl (Y.move) ?_
  refine DL.y rfl rfl (Y.build (cs := arrC (.slice a n c)) (by kernel_rfl)) ?_
  refine DL.storeA rfl F.ag26 rfl rfl rfl (by kernel_rfl) hb2 rfl ?_
  intro w3 f4 hs5 hb2'
  replace FR := FR.put f4 (by intro i hi; simp only [List.mem_cons, List.mem_singleton, List.not_mem_nil, or_false] at hi; rcases hi with rfl; all_goals (first | (left; simp; done) | (right; omega)))
  replace hi2 := Nat.lt_of_lt_of_le hi2 f4.size
  replace hb2 := hb2'
  refine DL.nil ?_
  show DC _ _ _ _ _ _
  refine DC.ret ?_
  exact FinQ.retC rfl (cs := arrC (.slice a n c)) F.ag26 (.ofBlk hb2) (Ret.mk FR rfl)

theorem number_any (z : Int) (h : 0 ≤ z ∧ z ≤ 1000000) (w : World) : Calls Tryd.prog 22 #[.int .i64 z] w (Ret w [] fun v _ => v = .agg (valC 3 (2 * z) ⟨#[]⟩)) := by
  refine calls_of Tryd.func22 rfl rfl rfl rfl ?_
  have FR := Fr.refl [] w
  refine DC.seq ?_
  refine DC.region ?_
  refine DL.alloc rfl rfl F.z26 rfl ?_
  intro b2 w1 f2 lo2 hi2 hb2
  replace lo2 := Nat.le_trans FR.size lo2
  replace FR := FR.tr0 f2
  refine DL.nil ?_
  show DC _ _ _ _ _ _
  refine DC.seq ?_
  refine DC.region ?_
  refine DL.y rfl rfl (Y.move) ?_
  refine DL.y rfl rfl (Y.mulI (c := (2 * z)) rfl rfl (by omega) (by omega) (by omega)) ?_
  refine DL.y rfl rfl (Y.build (cs := valC 3 (2 * z) ⟨#[]⟩) (by kernel_rfl)) ?_
  refine DL.storeA rfl F.ag26 rfl rfl rfl (by kernel_rfl) hb2 rfl ?_
  intro w3 f4 hs5 hb2'
  replace FR := FR.put f4 (by intro i hi; simp only [List.mem_cons, List.mem_singleton, List.not_mem_nil, or_false] at hi; rcases hi with rfl; all_goals (first | (left; simp; done) | (right; omega)))
  replace hi2 := Nat.lt_of_lt_of_le hi2 f4.size
  replace hb2 := hb2'
  refine DL.nil ?_
  show DC _ _ _ _ _ _
  refine DC.ret ?_
  exact FinQ.retC rfl (cs := valC 3 (2 * z) ⟨#[]⟩) F.ag26 (.ofBlk hb2) (Ret.mk FR rfl)

theorem fits_any (v : V) (cs : Array Value) (B bs : Nat) (w : World) (hR : RV w B v cs) (hB : B ≤ w.heap.size) (h2 : 2 ≤ B) (hT : Tabs w) (hbs : w.heap[bs]? = some (.cells cs 26 (0, 0))) :
    Calls Tryd.prog 18 #[.slice (some ⟨bs, 0, none⟩) 1 1] w (Ret w [] fun r _ => ∃ ok, r = .bool ok ∧ (ok = true → Good v ∧ v.nodes ≤ 400 ∧ v.bytes ≤ 2000)) := by
  have hbsl := lt_of_blk hbs
  have hcz := hR.size
  refine calls_of Tryd.func18 rfl rfl rfl rfl ?_
  have FR := Fr.refl [] w
  refine DC.seq ?_
  refine DC.region ?_
  refine DL.y rfl rfl (Y.assign) ?_
  refine DL.nil ?_
  show DC _ _ _ _ _ _
  refine DC.seq ?_
  refine DC.seq ?_
  refine DC.region ?_
  refine DL.y rfl rfl (Y.move) ?_
  refine DL.y rfl rfl (Y.lenS Tryd.underlying23 rfl) ?_
  refine DL.y rfl rfl (Y.move) ?_
  refine DL.nil ?_
  show DC _ _ _ _ _ _
  refine DC.block ?_
  refine DC.loop (σ := Nat) [(2, 2), (4, 4), (7, 14)] (fun k => [(7, .int .i64 (k : Int))]) (fun sg wl => Fr [] w wl ∧ (fun k wl => k ≤ 1 ∧ (k = 1 → Good v ∧ v.nodes ≤ 400 ∧ v.bytes ≤ 2000)) sg wl) (fun k => 1 - k) (0) rfl ?_ ?_ ?_
  · exact rfl
  · exact ⟨Fr.refl _ _, Nat.zero_le _, fun h => by omega⟩
  · rintro k j w1 ⟨f2, hk0, hgd⟩
    replace FR := FR.tr0 f2
    replace hR := hR.fr f2 (by intro x hx; simp <;> omega)
    replace hT := hT.fr f2 (by intro x hx; simp <;> omega)
    replace hbs := f2.blk0 hbs
    have G3 := f2
    have HG3 := Fr.refl [] w1
    refine DC.seq ?_
    refine DC.region ?_
    refine DL.if rfl rfl (Y.lt rfl rfl) (fun c8 => ?_) (fun c8 => ?_)
    · have hk : k < 1 := by omega
      obtain rfl : k = 0 := by omega
      refine DL.nil ?_
      show DC _ _ _ _ _ _
      refine DC.seq ?_
      refine DC.condT rfl ?_
      refine DC.skip ?_
      show DC _ _ _ _ _ _
      refine DC.seq ?_
      refine DC.block ?_
      refine DC.seq ?_
      refine DC.region ?_
      refine DL.y rfl rfl (Y.index F.sl23 rfl rfl (rfl) (hk)) ?_
      refine DL.y rfl rfl (Y.loadAn hcz F.ag26 rfl (.ofBlk hbs)) ?_
      refine DL.alloc rfl rfl F.z26 rfl ?_
      intro b4 w4 f5 lo4 hi4 hb4
      have lo4G3 := Nat.le_trans G3.size lo4
      have lo4HG3 := Nat.le_trans HG3.size lo4
      replace lo4 := Nat.le_trans FR.size lo4
      replace FR := FR.tr0 f5
      replace G3 := G3.tr0 f5
      replace HG3 := HG3.tr0 f5
      replace hR := hR.fr f5 (by intro x hx; simp <;> omega)
      replace hT := hT.fr f5 (by intro x hx; simp <;> omega)
      replace hbs := f5.blk0 hbs
      refine DL.storeA (cs := cs) rfl F.ag26 rfl rfl hcz (RV.one hR) hb4 rfl ?_
      intro w6 f7 hs8 hb4'
      replace FR := FR.put f7 (by intro i hi; simp only [List.mem_cons, List.mem_singleton, List.not_mem_nil, or_false] at hi; rcases hi with rfl; all_goals (first | (left; simp; done) | (right; omega)))
      replace G3 := G3.put f7 (by intro i hi; simp only [List.mem_cons, List.mem_singleton, List.not_mem_nil, or_false] at hi; rcases hi with rfl; all_goals (first | (left; simp; done) | (right; omega)))
      replace HG3 := HG3.put f7 (by intro i hi; simp only [List.mem_cons, List.mem_singleton, List.not_mem_nil, or_false] at hi; rcases hi with rfl; all_goals (first | (left; simp; done) | (right; omega)))
      replace hR := hR.fr f7 (by intro x hx; simp <;> omega)
      replace hT := hT.fr f7 (by intro x hx; simp <;> omega)
      replace hbs := f7.blk hbs (by simp only [List.mem_cons, List.not_mem_nil, or_false, not_or]; omega)
      replace hi4 := Nat.lt_of_lt_of_le hi4 f7.size
      replace hb4 := hb4'
      refine DL.nil ?_
      show DC _ _ _ _ _ _
      refine DC.seq ?_
      refine DC.region ?_
      refine DL.y rfl rfl (Y.loadAn hcz F.ag26 rfl (.ofBlk hb4)) ?_
      refine DL.call rfl rfl F.nm11 rfl (Fit_any _ _ B _ hR (by have := FR.size; omega) h2 hT) ?_
      rintro _ w9 f10 ⟨q, rfl, hqa⟩
      replace FR := FR.tr0 f10
      replace G3 := G3.tr0 f10
      replace HG3 := HG3.tr0 f10
      replace hR := hR.fr f10 (by intro x hx; simp <;> omega)
      replace hT := hT.fr f10 (by intro x hx; simp <;> omega)
      replace hbs := f10.blk0 hbs
      replace hi4 := Nat.lt_of_lt_of_le hi4 f10.size
      replace hb4 := f10.blk0 hb4
      refine (Bool.eq_false_or_eq_true q).elim (fun hq => ?_) (fun hq => ?_)
      · subst hq
        refine DL.y rfl rfl (Y.not rfl) ?_
        refine DL.nil ?_
        show DC _ _ _ _ _ _
        refine DC.condF rfl ?_
        refine DC.skip ?_
        show DC _ _ _ _ _ _
        refine DC.region ?_
        refine DL.y rfl rfl (Y.addI (c := ((0 + 1 : Nat) : Int)) rfl rfl (by omega) (by omega) (by omega)) ?_
        refine DL.y rfl rfl (Y.move) ?_
        refine DL.nil ?_
        exact ⟨0 + 1, ⟨G3, by omega, fun _ => hqa rfl⟩, by show 1 - (0 + 1) < 1 - 0; omega, rfl⟩
      · subst hq
        refine DL.y rfl rfl (Y.not rfl) ?_
        refine DL.nil ?_
        show DC _ _ _ _ _ _
        refine DC.condT rfl ?_
        refine DC.seq ?_
        refine DC.region ?_
        refine DL.y rfl rfl (Y.assign) ?_
        refine DL.nil ?_
        show DC _ _ _ _ _ _
        refine DC.ret ?_
        exact FinQ.ret1 rfl (Ret.mk FR ⟨false, rfl, fun h => by cases h⟩)
    · refine DL.nil ?_
      show DC _ _ _ _ _ _
      refine DC.seq ?_
      refine DC.condF rfl ?_
      refine DC.exit ?_
      show DC _ _ _ _ _ _
      refine DC.seq ?_
      refine DC.region ?_
      refine DL.y rfl rfl (Y.assign) ?_
      refine DL.nil ?_
      show DC _ _ _ _ _ _
      refine DC.ret ?_
      exact FinQ.ret1 rfl (Ret.mk FR ⟨true, rfl, fun h => hgd (by omega)⟩)

end Go.Proofs.YtmbleojlnaofjaaDoor
