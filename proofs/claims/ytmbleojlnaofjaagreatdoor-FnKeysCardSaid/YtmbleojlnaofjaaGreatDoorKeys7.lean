/- The walk of impl.Keys. -/
import Derived.Test.YtmbleojlnaofjaaGreatDoorKeys6
namespace Go.Proofs.YtmbleojlnaofjaaGreatDoor
open Go Go.RowKit D Go.Deep
set_option linter.unusedVariables false
set_option linter.unusedSimpArgs false


theorem arrR_one {w : World} {B e size n : Nat} {v : Value} {xs : List Value} (h : w.ownsRow B e size v n xs) : (arrR v).all (·.oneCell') = true := by
  obtain ⟨a, c, rfl, _⟩ := own_cells h; kernel_rfl

theorem fromGo_list (ls : List Lf) (bs c : Nat) (cs : Array Value) (w : World) (hbs : w.heap[bs]? = some (.cells cs 20 (0, 0))) (hcs : ∀ (i : Nat) (h : i < ls.length), cs[i]? = some ls[i].go) (hok : ∀ l ∈ ls, l.ok) (hn : ls.length ≤ 1000000) : Calls Tryz.prog 72 #[.iface 80 (.slice (some ⟨bs, 0, none⟩) ls.length c)] w (Ret w [] fun v w' => ∃ sl, v = .tuple #[.agg (arrC sl), .bool true] ∧ w'.ownsRow w.heap.size 26 6 sl ls.length (cellsL ls)) := by
  have hbsl := lt_of_blk hbs
  refine calls_of Tryz.func72 rfl rfl rfl rfl ?_
  have FR := Fr.refl [] w
  refine DC.seq ?_
  refine DC.region ?_
  refine DL.alloc rfl rfl F.z26 rfl ?_
  intro b2 w1 f2 lo2 hi2 hb2
  replace lo2 := Nat.le_trans FR.size lo2
  replace FR := FR.tr0 f2
  replace hbs := f2.blk0 hbs
  refine DL.y rfl rfl (Y.assign) ?_
  refine DL.nil ?_
  show DC _ _ _ _ _ _
  refine DC.seq ?_
  refine DC.seq ?_
  refine DC.region ?_
  refine DL.y rfl rfl (Y.move) ?_
  refine DL.nil ?_
  show DC _ _ _ _ _ _
  refine DC.block ?_
  refine DC.seq ?_
  refine DC.region ?_
  refine DL.y rfl rfl (Y.eqNilI Tryz.underlying20 rfl) ?_
  refine DL.nil ?_
  show DC _ _ _ _ _ _
  refine DC.condF rfl ?_
  refine DC.seq ?_
  refine DC.region ?_
  refine DL.y rfl rfl (Y.asNo F.if4 F.z4 rfl rfl) ?_
  refine DL.y rfl rfl (Y.extract rfl rfl) ?_
  refine DL.y rfl rfl (Y.extract rfl rfl) ?_
  refine DL.nil ?_
  show DC _ _ _ _ _ _
  refine DC.condF rfl ?_
  refine DC.seq ?_
  refine DC.region ?_
  refine DL.y rfl rfl (Y.asNo F.if3 F.z3 rfl rfl) ?_
  refine DL.y rfl rfl (Y.extract rfl rfl) ?_
  refine DL.y rfl rfl (Y.extract rfl rfl) ?_
  refine DL.nil ?_
  show DC _ _ _ _ _ _
  refine DC.condF rfl ?_
  refine DC.seq ?_
  refine DC.region ?_
  refine DL.y rfl rfl (Y.asNo F.if79 F.z79 rfl rfl) ?_
  refine DL.y rfl rfl (Y.extract rfl rfl) ?_
  refine DL.y rfl rfl (Y.extract rfl rfl) ?_
  refine DL.nil ?_
  show DC _ _ _ _ _ _
  refine DC.condF rfl ?_
  refine DC.seq ?_
  refine DC.region ?_
  refine DL.y rfl rfl (Y.asNo F.if9 F.z9 rfl rfl) ?_
  refine DL.y rfl rfl (Y.extract rfl rfl) ?_
  refine DL.y rfl rfl (Y.extract rfl rfl) ?_
  refine DL.nil ?_
  show DC _ _ _ _ _ _
  refine DC.condF rfl ?_
  refine DC.seq ?_
  refine DC.region ?_
  refine DL.y rfl rfl (Y.asYes F.if80 rfl) ?_
  refine DL.y rfl rfl (Y.extract rfl rfl) ?_
  refine DL.y rfl rfl (Y.extract rfl rfl) ?_
  refine DL.nil ?_
  show DC _ _ _ _ _ _
  refine DC.condT rfl ?_
  refine DC.seq ?_
  refine DC.region ?_
  refine DL.y rfl rfl (Y.assign) ?_
  refine DL.nil ?_
  show DC _ _ _ _ _ _
  refine DC.seq ?_
  refine DC.region ?_
  refine DL.y rfl rfl (Y.move) ?_
  have hszp := FR.size
  have hb2c : b2 < w1.heap.size := hi2
  refine DL.call rfl rfl F.nm120 rfl (listFromGo_leaf ls bs c cs _ hbs hcs hok hn) ?_
  rintro _ w3 f4 ⟨sl, rfl, hown⟩
  replace FR := FR.tr0 f4
  replace hbs := f4.blk0 hbs
  replace hb2 := f4.blk0 hb2
  replace hi2 := Nat.lt_of_lt_of_le hi2 f4.size
  refine DL.y rfl rfl (Y.extract rfl rfl) ?_
  refine DL.y rfl rfl (Y.extract rfl rfl) ?_
  refine DL.storeA (cs := arrC sl) rfl F.ag26 rfl rfl rfl (arr_one hown) hb2 rfl ?_
  intro w5 f6 hs7 hb2'
  replace FR := FR.put f6 (by intro i hi; simp only [List.mem_cons, List.mem_singleton, List.not_mem_nil, or_false] at hi; rcases hi with rfl; all_goals (first | (left; simp; done) | (right; omega)))
  replace hbs := f6.blk hbs (by simp only [List.mem_cons, List.not_mem_nil, or_false, not_or]; omega)
  replace hi2 := Nat.lt_of_lt_of_le hi2 f6.size
  replace hown := ownsRow_fr hown f6 (by intro b hb; first | (simp at hb; done) | (simp only [List.mem_singleton] at hb; subst hb; first | exact own_ne hown (by omega) | exact hne5))
  replace hb2 := hb2'
  refine DL.y rfl rfl (Y.assign) ?_
  refine DL.nil ?_
  show DC _ _ _ _ _ _
  refine DC.ret ?_
  exact FinQ.retCT rfl (cs := arrC sl) F.ag26 (.ofBlk hb2) rfl (Ret.mk FR ⟨sl, rfl, own_base hown hszp⟩)

theorem result_list (ls : List Lf) (bs c : Nat) (cs : Array Value) (w : World) (hbs : w.heap[bs]? = some (.cells cs 20 (0, 0))) (hcs : ∀ (i : Nat) (h : i < ls.length), cs[i]? = some ls[i].go) (hok : ∀ l ∈ ls, l.ok) (hn : ls.length ≤ 1000000) : Calls Tryz.prog 37 #[.iface 80 (.slice (some ⟨bs, 0, none⟩) ls.length c)] w (Ret w [] fun v w' => ∃ sl, v = .agg (arrR sl) ∧ w'.ownsRow w.heap.size 26 6 sl ls.length (cellsL ls)) := by
  have hbsl := lt_of_blk hbs
  refine calls_of Tryz.func37 rfl rfl rfl rfl ?_
  have FR := Fr.refl [] w
  refine DC.seq ?_
  refine DC.region ?_
  refine DL.alloc rfl rfl F.z34 rfl ?_
  intro b2 w1 f2 lo2 hi2 hb2
  replace lo2 := Nat.le_trans FR.size lo2
  replace FR := FR.tr0 f2
  replace hbs := f2.blk0 hbs
  refine DL.nil ?_
  show DC _ _ _ _ _ _
  refine DC.seq ?_
  refine DC.seq ?_
  refine DC.region ?_
  refine DL.y rfl rfl (Y.move) ?_
  refine DL.y rfl rfl (Y.asIfNo (by kernel_rfl) F.z87 rfl) ?_
  refine DL.y rfl rfl (Y.move) ?_
  refine DL.y rfl rfl (Y.extract rfl rfl) ?_
  refine DL.y rfl rfl (Y.extract rfl rfl) ?_
  refine DL.y rfl rfl (Y.assign) ?_
  refine DL.y rfl rfl (Y.assign) ?_
  refine DL.nil ?_
  show DC _ _ _ _ _ _
  refine DC.seq ?_
  refine DC.region ?_
  refine DL.y rfl rfl (Y.move) ?_
  refine DL.nil ?_
  show DC _ _ _ _ _ _
  refine DC.condF rfl ?_
  refine DC.skip ?_
  show DC _ _ _ _ _ _
  refine DC.seq ?_
  refine DC.region ?_
  refine DL.y rfl rfl (Y.move) ?_
  have hszp := FR.size
  have hb2c : b2 < w1.heap.size := hi2
  refine DL.call rfl rfl F.nm72 rfl (fromGo_list ls bs c cs _ hbs hcs hok hn) ?_
  rintro _ w3 f4 ⟨sl, rfl, hown⟩
  replace FR := FR.tr0 f4
  replace hbs := f4.blk0 hbs
  replace hb2 := f4.blk0 hb2
  replace hi2 := Nat.lt_of_lt_of_le hi2 f4.size
  refine DL.y rfl rfl (Y.move) ?_
  refine DL.y rfl rfl (Y.extract rfl rfl) ?_
  refine DL.y rfl rfl (Y.extract rfl rfl) ?_
  refine DL.alloc rfl rfl F.z26 rfl ?_
  intro b5 w5 f6 lo5 hi5 hb5
  have hne5 : sl.ownBlock ≠ some b5 := own_ne hown (Or.inr lo5)
  have lt_b2_b5 : b2 < b5 := Nat.lt_of_lt_of_le hi2 lo5
  replace lo5 := Nat.le_trans FR.size lo5
  replace FR := FR.tr0 f6
  replace hbs := f6.blk0 hbs
  replace hb2 := f6.blk0 hb2
  replace hi2 := Nat.lt_of_lt_of_le hi2 f6.size
  replace hown := ownsRow_fr hown f6 (by intro b hb; first | (simp at hb; done) | (simp only [List.mem_singleton] at hb; subst hb; first | exact own_ne hown (by omega) | exact hne5))
  refine DL.storeA (cs := arrC sl) rfl F.ag26 rfl rfl rfl (arr_one hown) hb5 rfl ?_
  intro w7 f8 hs9 hb5'
  replace FR := FR.put f8 (by intro i hi; simp only [List.mem_cons, List.mem_singleton, List.not_mem_nil, or_false] at hi; rcases hi with rfl; all_goals (first | (left; simp; done) | (right; omega)))
  replace hbs := f8.blk hbs (by simp only [List.mem_cons, List.not_mem_nil, or_false, not_or]; omega)
  replace hb2 := f8.blk hb2 (by simp only [List.mem_cons, List.not_mem_nil, or_false, not_or]; omega)
  replace hi2 := Nat.lt_of_lt_of_le hi2 f8.size
  replace hown := ownsRow_fr hown f8 (by intro b hb; first | (simp at hb; done) | (simp only [List.mem_singleton] at hb; subst hb; first | exact own_ne hown (by omega) | exact hne5))
  replace hi5 := Nat.lt_of_lt_of_le hi5 f8.size
  replace hb5 := hb5'
  refine DL.y rfl rfl (Y.assign) ?_
  refine DL.nil ?_
  show DC _ _ _ _ _ _
  refine DC.seq ?_
  refine DC.seq ?_
  refine DC.region ?_
  refine DL.y rfl rfl (Y.move) ?_
  refine DL.y rfl rfl (Y.not rfl) ?_
  refine DL.nil ?_
  show DC _ _ _ _ _ _
  refine DC.condF rfl ?_
  refine DC.skip ?_
  show DC _ _ _ _ _ _
  refine DC.seq ?_
  refine DC.region ?_
  refine DL.y rfl rfl (Y.loadW rfl hb5 F.ag26) ?_
  refine DL.y rfl rfl (Y.build (cs := arrR sl) (by kernel_rfl)) ?_
  refine DL.storeA (cs := arrR sl) rfl F.ag34 rfl rfl rfl (arrR_one hown) hb2 rfl ?_
  intro w10 f11 hs12 hb2'
  replace FR := FR.put f11 (by intro i hi; simp only [List.mem_cons, List.mem_singleton, List.not_mem_nil, or_false] at hi; rcases hi with rfl; all_goals (first | (left; simp; done) | (right; omega)))
  replace hbs := f11.blk hbs (by simp only [List.mem_cons, List.not_mem_nil, or_false, not_or]; omega)
  replace hi2 := Nat.lt_of_lt_of_le hi2 f11.size
  replace hown := ownsRow_fr hown f11 (by intro b hb; first | (simp at hb; done) | (simp only [List.mem_singleton] at hb; subst hb; first | exact own_ne hown (by omega) | exact hne5))
  replace hi5 := Nat.lt_of_lt_of_le hi5 f11.size
  replace hb5 := f11.blk hb5 (by simp only [List.mem_cons, List.not_mem_nil, or_false, not_or]; omega)
  replace hb2 := hb2'
  refine DL.nil ?_
  show DC _ _ _ _ _ _
  refine DC.ret ?_
  exact FinQ.retC rfl (cs := arrR sl) F.ag34 (.ofBlk hb2) (Ret.mk FR ⟨sl, rfl, own_base hown hszp⟩)

theorem result_err (p : Option Addr) (w : World) : Calls Tryz.prog 37 #[.iface 129 (.pointer p)] w (Ret w [] fun v _ => v = .agg errR) := by
  refine calls_of Tryz.func37 rfl rfl rfl rfl ?_
  have FR := Fr.refl [] w
  refine DC.seq ?_
  refine DC.region ?_
  refine DL.alloc rfl rfl F.z34 rfl ?_
  intro b2 w1 f2 lo2 hi2 hb2
  replace lo2 := Nat.le_trans FR.size lo2
  replace FR := FR.tr0 f2
  refine DL.nil ?_
  show DC _ _ _ _ _ _
  refine DC.seq ?_
  refine DC.seq ?_
  refine DC.region ?_
  refine DL.y rfl rfl (Y.move) ?_
  refine DL.y rfl rfl (Y.asIfYes (by kernel_rfl) rfl) ?_
  refine DL.y rfl rfl (Y.move) ?_
  refine DL.y rfl rfl (Y.extract rfl rfl) ?_
  refine DL.y rfl rfl (Y.extract rfl rfl) ?_
  refine DL.y rfl rfl (Y.assign) ?_
  refine DL.y rfl rfl (Y.assign) ?_
  refine DL.nil ?_
  show DC _ _ _ _ _ _
  refine DC.seq ?_
  refine DC.region ?_
  refine DL.y rfl rfl (Y.move) ?_
  refine DL.nil ?_
  show DC _ _ _ _ _ _
  refine DC.condT rfl ?_
  refine DC.seq ?_
  refine DC.region ?_
  refine DL.y rfl rfl (Y.build (cs := errR) (by kernel_rfl)) ?_
  refine DL.storeA rfl F.ag34 rfl rfl rfl (by kernel_rfl) hb2 rfl ?_
  intro w3 f4 hs5 hb2'
  replace FR := FR.put f4 (by intro i hi; simp only [List.mem_cons, List.mem_singleton, List.not_mem_nil, or_false] at hi; rcases hi with rfl; all_goals (first | (left; simp; done) | (right; omega)))
  replace hi2 := Nat.lt_of_lt_of_le hi2 f4.size
  replace hb2 := hb2'
  refine DL.nil ?_
  show DC _ _ _ _ _ _
  refine DC.ret ?_
  exact FinQ.retC rfl (cs := errR) F.ag34 (.ofBlk hb2) (Ret.mk FR rfl)


theorem leaves_ok {v : V} {w : World} {B : Nat} {cs : Array Value} (hR : RV w B v cs) (hG : Good v) (hn : v.nodes ≤ 400) : (∀ l ∈ leaves v, l.ok) ∧ (leaves v).length ≤ 1000000 := by
  obtain ⟨kind, half, text, list, keys, vals⟩ := v
  obtain ⟨la, lc, ka, kc, va, vc, rfl⟩ := hR.shape
  obtain ⟨⟨_, _, _, _, _, hkv, _, _, _, _, _⟩, _, _⟩ := hG
  simp only [V.nodes] at hn
  have h1 := length_le_nodesL list
  have h2 := length_le_nodesL vals
  refine ⟨fun l hl => ?_, by simp [leaves, numsL, txtsL]; omega⟩
  simp only [leaves, List.mem_append] at hl
  rcases hl with hl | hl
  · simp only [numsL, List.mem_map, List.mem_range] at hl
    obtain ⟨i, hi, rfl⟩ := hl
    show 0 ≤ (i : Int) ∧ (i : Int) ≤ 1000000
    omega
  · simp only [txtsL, List.mem_map] at hl
    obtain ⟨s, hs, rfl⟩ := hl
    obtain ⟨i, hi, rfl⟩ := List.getElem_of_mem hs
    obtain ⟨_, _, _, _, _, h3⟩ := hR.keyAt hi
    exact h3

theorem zzKeys_any {w : World} {D : Nat → Prop} {v : V} {x : Value} (h : GV w D v x) (hG : Good v) (hn : v.nodes ≤ 400) : Calls Tryz.prog 38 #[x] w (Ret w [] fun r w' => ((v.kind = 5 ∨ v.kind = 6) ∧ ∃ b cs, r = .iface 80 (.slice (some ⟨b, 0, none⟩) (leaves v).length (leaves v).length) ∧ w'.heap[b]? = some (.cells cs 20 (0, 0)) ∧ cs.size = (leaves v).length ∧ ∀ (i : Nat) (h : i < (leaves v).length), cs[i]? = some (leaves v)[i].go) ∨ (¬ (v.kind = 5 ∨ v.kind = 6) ∧ ∃ p, r = .iface 129 (.pointer p))) := by
  refine calls_of Tryz.func38 rfl rfl rfl rfl ?_
  have FR := Fr.refl [] w
  refine DC.seq ?_
  refine DC.region ?_
  refine DL.y rfl rfl (Y.assign) ?_
  refine DL.nil ?_
  show DC _ _ _ _ _ _
  refine DC.seq ?_
  refine DC.region ?_
  refine DL.y rfl rfl (Y.move) ?_
  refine DL.call rfl rfl F.nm73 rfl (fk_any h hG hn) ?_
  rintro r4 w1 f2 hor
  replace FR := FR.tr0 f2
  refine DL.y rfl rfl (Y.assign) ?_
  refine DL.nil ?_
  show DC _ _ _ _ _ _
  refine DC.ret ?_
  exact FinQ.ret1 rfl (Ret.mk FR hor)


theorem result_keys {w0 w : World} {v : V} {r : Value} {D : Prop} (hs : w0.heap.size ≤ w.heap.size) (hok : (∀ l ∈ leaves v, l.ok) ∧ (leaves v).length ≤ 1000000)
    (h : ((v.kind = 5 ∨ v.kind = 6) ∧ ∃ b cs, r = .iface 80 (.slice (some ⟨b, 0, none⟩) (leaves v).length (leaves v).length) ∧ w.heap[b]? = some (.cells cs 20 (0, 0)) ∧ cs.size = (leaves v).length ∧ ∀ (i : Nat) (h : i < (leaves v).length), cs[i]? = some (leaves v)[i].go) ∨ (¬ (v.kind = 5 ∨ v.kind = 6) ∧ ∃ p, r = .iface 129 (.pointer p))) :
    Calls Tryz.prog 37 #[r] w (Ret w [] fun r w' => ((v.kind = 5 ∨ v.kind = 6) ∧ ∃ sl, r = .agg (arrR sl) ∧ w'.ownsRow w0.heap.size 26 6 sl (leaves v).length (cellsL (leaves v))) ∨ (¬ (v.kind = 5 ∨ v.kind = 6) ∧ r = .agg errR)) := by
  rcases h with ⟨hk, b, cs, rfl, hb, hz, hc⟩ | ⟨hk, p, rfl⟩
  · refine (result_list (leaves v) b (leaves v).length cs w hb hc hok.1 hok.2).mono fun e w' h => Ret.imp (fun r w1 hf hp => ?_) h
    obtain ⟨sl, rfl, ho⟩ := hp
    exact Or.inl ⟨hk, sl, rfl, own_base ho hs⟩
  · refine (result_err p w).mono fun e w' h => Ret.imp (fun r w1 hf hp => Or.inr ⟨hk, hp⟩) h


theorem orR_fr {S : List Nat} {w w' : World} {B n : Nat} {r : Value} {xs : List Value} {p q : Prop} (h : (p ∧ ∃ sl, r = .agg (arrR sl) ∧ w.ownsRow B 26 6 sl n xs) ∨ (q ∧ r = .agg errR)) (f : Fr S w w') (hs : ∀ b ∈ S, b < B) :
    (p ∧ ∃ sl, r = .agg (arrR sl) ∧ w'.ownsRow B 26 6 sl n xs) ∨ (q ∧ r = .agg errR) := by
  rcases h with ⟨h1, sl, h3, ho⟩ | h
  · exact Or.inl ⟨h1, sl, h3, ownsRow_fr ho f (fun b hb => own_ne ho (Or.inl (hs b hb)))⟩
  · exact Or.inr h

theorem Keys_any (v : V) (cs : Array Value) (B : Nat) (w : World) (hR : RV w B v cs) (hB : B ≤ w.heap.size) (hG : Good v) (hn : v.nodes ≤ 400) : Calls Tryz.prog 11 #[.agg cs] w (Ret w [] fun r w' => ((v.kind = 5 ∨ v.kind = 6) ∧ ∃ sl, r = .agg (arrR sl) ∧ w'.ownsRow w.heap.size 26 6 sl (leaves v).length (cellsL (leaves v))) ∨ (¬ (v.kind = 5 ∨ v.kind = 6) ∧ r = .agg errR)) := by
  have hlo := leaves_ok hR hG hn
  obtain ⟨kind, half, text, list, keys, vals⟩ := v
  obtain ⟨la, lc, ka, kc, va, vc, rfl⟩ := hR.shape
  refine calls_of Tryz.func11 rfl rfl rfl rfl ?_
  have FR := Fr.refl [] w
  refine DC.seq ?_
  refine DC.region ?_
  refine DL.boxA rfl rfl rfl ?_
  intro b1 w1 f2 lo1 hi1 hb1
  replace lo1 := Nat.le_trans FR.size lo1
  replace FR := FR.tr0 f2
  replace hR := hR.fr f2 (by intro x hx; simp <;> omega)
  refine DL.alloc rfl rfl F.z34 rfl ?_
  intro b2 w3 f4 lo2 hi2 hb2
  have lt_b1_b2 : b1 < b2 := Nat.lt_of_lt_of_le hi1 lo2
  replace lo2 := Nat.le_trans FR.size lo2
  replace FR := FR.tr0 f4
  replace hR := hR.fr f4 (by intro x hx; simp <;> omega)
  replace hb1 := f4.blk0 hb1
  replace hi1 := Nat.lt_of_lt_of_le hi1 f4.size
  refine DL.nil ?_
  show DC _ _ _ _ _ _
  refine DC.seq ?_
  refine DC.region ?_
  refine DL.y rfl rfl (Y.loadW rfl hb1 F.ag26) ?_
  refine DL.call rfl rfl F.nm36 rfl (toGo_any _ _ _ B _ (Nat.le_refl _) (by omega) hG hR (by have := FR.size; omega)) ?_
  rintro _ w5 f6 ⟨x, rfl, hgx⟩
  replace FR := FR.tr0 f6
  replace hR := hR.fr f6 (by intro x hx; simp <;> omega)
  replace hb1 := f6.blk0 hb1
  replace hi1 := Nat.lt_of_lt_of_le hi1 f6.size
  replace hb2 := f6.blk0 hb2
  replace hi2 := Nat.lt_of_lt_of_le hi2 f6.size
  refine DL.y rfl rfl (Y.move) ?_
  refine DL.y rfl rfl (Y.extract rfl rfl) ?_
  refine DL.y rfl rfl (Y.extract rfl rfl) ?_
  refine DL.y rfl rfl (Y.assign) ?_
  refine DL.y rfl rfl (Y.assign) ?_
  refine DL.nil ?_
  show DC _ _ _ _ _ _
  refine DC.seq ?_
  refine DC.seq ?_
  refine DC.region ?_
  refine DL.y rfl rfl (Y.move) ?_
  refine DL.y rfl rfl (Y.not rfl) ?_
  refine DL.nil ?_
  show DC _ _ _ _ _ _
  refine DC.condF rfl ?_
  refine DC.skip ?_
  show DC _ _ _ _ _ _
  refine DC.seq ?_
  refine DC.region ?_
  refine DL.y rfl rfl (Y.move) ?_
  refine DL.call rfl rfl F.nm38 rfl (zzKeys_any hgx hG hn) ?_
  rintro r14 w7 f8 hor
  replace FR := FR.tr0 f8
  replace hR := hR.fr f8 (by intro x hx; simp <;> omega)
  replace hb1 := f8.blk0 hb1
  replace hi1 := Nat.lt_of_lt_of_le hi1 f8.size
  replace hb2 := f8.blk0 hb2
  replace hi2 := Nat.lt_of_lt_of_le hi2 f8.size
  obtain ⟨wk, hwk⟩ : ∃ wk, wk = w7 := ⟨_, rfl⟩
  have hszp := FR.size
  have hb2c : b2 < wk.heap.size := by rw [hwk]; exact hi2
  rw [← hwk] at hszp
  refine DL.call rfl rfl F.nm37 rfl (result_keys (w0 := wk) (D := True) (Nat.le_of_eq (congrArg (fun w : World => w.heap.size) hwk)) hlo hor) ?_
  rintro r15 w9 f10 hor
  replace FR := FR.tr0 f10
  replace hR := hR.fr f10 (by intro x hx; simp <;> omega)
  replace hb1 := f10.blk0 hb1
  replace hi1 := Nat.lt_of_lt_of_le hi1 f10.size
  replace hb2 := f10.blk0 hb2
  replace hi2 := Nat.lt_of_lt_of_le hi2 f10.size
  obtain ⟨cr, rfl, hcr1, hcr2⟩ : ∃ cr, r15 = .agg cr ∧ cr.size = 7 ∧ cr.all (·.oneCell') = true := by
    rcases hor with ⟨_, sl, rfl, ho⟩ | ⟨_, rfl⟩
    · exact ⟨_, rfl, rfl, arrR_one ho⟩
    · exact ⟨_, rfl, rfl, by kernel_rfl⟩
  refine DL.storeA rfl F.ag34 rfl rfl hcr1 hcr2 hb2 rfl ?_
  intro w11 f12 hs13 hb2'
  replace FR := FR.put f12 (by intro i hi; simp only [List.mem_cons, List.mem_singleton, List.not_mem_nil, or_false] at hi; rcases hi with rfl; all_goals (first | (left; simp; done) | (right; omega)))
  replace hR := hR.fr f12 (by intro x hx; simp <;> omega)
  replace hb1 := f12.blk hb1 (by simp only [List.mem_cons, List.not_mem_nil, or_false, not_or]; omega)
  replace hi1 := Nat.lt_of_lt_of_le hi1 f12.size
  replace hi2 := Nat.lt_of_lt_of_le hi2 f12.size
  replace hor := orR_fr hor f12 (by intro b hb; first | (simp at hb; done) | (simp only [List.mem_singleton] at hb; omega))
  replace hb2 := hb2'
  refine DL.nil ?_
  show DC _ _ _ _ _ _
  refine DC.ret ?_
  refine FinQ.retC rfl (cs := cr) (by rw [hcr1]; exact F.ag34) (.ofBlk hb2) (Ret.mk FR ?_)
  rcases hor with ⟨h1, sl, h3, ho⟩ | h
  · exact Or.inl ⟨h1, sl, h3, own_base ho hszp⟩
  · exact Or.inr h

end Go.Proofs.YtmbleojlnaofjaaGreatDoor
