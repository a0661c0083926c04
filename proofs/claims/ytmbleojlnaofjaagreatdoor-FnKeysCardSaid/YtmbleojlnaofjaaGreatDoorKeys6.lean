/- The walk of listFromGo at leaves. -/
import Derived.Test.YtmbleojlnaofjaaGreatDoorKeys5
namespace Go.Proofs.YtmbleojlnaofjaaGreatDoor
open Go Go.RowKit D Go.Deep
set_option linter.unusedVariables false
set_option linter.unusedSimpArgs false


theorem own_one {w : World} {B e size n : Nat} {v : Value} {xs : List Value} (h : w.ownsRow B e size v n xs) : v.oneCell' = true := by
  obtain ⟨a, c, rfl, _⟩ := own_cells h; rfl
theorem arr_one {w : World} {B e size n : Nat} {v : Value} {xs : List Value} (h : w.ownsRow B e size v n xs) : (arrC v).all (·.oneCell') = true := by
  obtain ⟨a, c, rfl, _⟩ := own_cells h; kernel_rfl
def arrR (sl : Value) : Array Value := #[.int .i64 5, .int .i64 0, .string ⟨#[]⟩, sl, .slice none 0 0, .slice none 0 0, .int .i64 0]
def errR : Array Value := #[.int .i64 0, .int .i64 0, .string ⟨#[]⟩, .slice none 0 0, .slice none 0 0, .slice none 0 0, .int .i64 1]

theorem fromGo_num (z : Int) (h : 0 ≤ z ∧ z ≤ 1000000) (w : World) : Calls Tryz.prog 72 #[.iface 3 (.int .i64 z)] w (Ret w [] fun v _ => v = .tuple #[.agg (Lf.num z).cells, .bool true]) := by
  refine calls_of Tryz.func72 rfl rfl rfl rfl ?_
  have FR := Fr.refl [] w
  refine DC.seq ?_
  refine DC.region ?_
  refine DL.alloc rfl rfl F.z26 rfl ?_
  intro b2 w1 f2 lo2 hi2 hb2
  replace lo2 := Nat.le_trans FR.size lo2
  replace FR := FR.tr0 f2
  refine DL.y rfl rfl (Y.assign) ?_
  refine DL.nil ?_
  show DC _ _ _ _ _ _
  refine DC.seq ?_
  refine DC.seq ?_
  refine DC.region ?_
  refine DL.y rfl rfl (Y.move) ?_
  refine DL.nil ?_
  show DC _ _ _ _ _ _
  refine DC.block ?_
  refine DC.seq ?_
  refine DC.region ?_
  refine DL.y rfl rfl (Y.eqNilI Tryz.underlying20 rfl) ?_
  refine DL.nil ?_
  show DC _ _ _ _ _ _
  refine DC.condF rfl ?_
  refine DC.seq ?_
  refine DC.region ?_
  refine DL.y rfl rfl (Y.asNo F.if4 F.z4 rfl rfl) ?_
  refine DL.y rfl rfl (Y.extract rfl rfl) ?_
  refine DL.y rfl rfl (Y.extract rfl rfl) ?_
  refine DL.nil ?_
  show DC _ _ _ _ _ _
  refine DC.condF rfl ?_
  refine DC.seq ?_
  refine DC.region ?_
  refine DL.y rfl rfl (Y.asYes F.if3 rfl) ?_
  refine DL.y rfl rfl (Y.extract rfl rfl) ?_
  refine DL.y rfl rfl (Y.extract rfl rfl) ?_
  refine DL.nil ?_
  show DC _ _ _ _ _ _
  refine DC.condT rfl ?_
  refine DC.seq ?_
  refine DC.region ?_
  refine DL.y rfl rfl (Y.assign) ?_
  refine DL.nil ?_
  show DC _ _ _ _ _ _
  refine DC.seq ?_
  refine DC.region ?_
  refine DL.y rfl rfl (Y.move) ?_
  refine DL.y rfl rfl (Y.mulI (c := 2 * z) rfl rfl (by omega) (by omega) (by omega)) ?_
  refine DL.y rfl rfl (Y.build (cs := (Lf.num z).cells) (by kernel_rfl)) ?_
  refine DL.y rfl rfl (Y.move) ?_
  refine DL.if rfl rfl (Y.ge rfl rfl) (fun c27 => ?_) (fun c27 => ?_)
  · refine DL.y rfl rfl (Y.move) ?_
    refine DL.y rfl rfl (Y.move) ?_
    refine DL.if rfl rfl (Y.le rfl rfl) (fun c30 => ?_) (fun c30 => ?_)
    · refine DL.y rfl rfl (Y.pickT rfl) ?_
      refine DL.storeA rfl F.ag26 rfl rfl rfl (by kernel_rfl) hb2 rfl ?_
      intro w3 f4 hs5 hb2'
      replace FR := FR.put f4 (by intro i hi; simp only [List.mem_cons, List.mem_singleton, List.not_mem_nil, or_false] at hi; rcases hi with rfl; all_goals (first | (left; simp; done) | (right; omega)))
      replace hi2 := Nat.lt_of_lt_of_le hi2 f4.size
      replace hb2 := hb2'
      refine DL.y rfl rfl (Y.assign) ?_
      refine DL.nil ?_
      show DC _ _ _ _ _ _
      refine DC.ret ?_
      exact FinQ.retCT rfl (cs := (Lf.num z).cells) F.ag26 (.ofBlk hb2) rfl (Ret.mk FR rfl)
    · exfalso; omega
  · exfalso; omega


theorem fromGo_leaf (l : Lf) (h : l.ok) (w : World) : Calls Tryz.prog 72 #[l.go] w (Ret w [] fun v _ => v = .tuple #[.agg l.cells, .bool true]) := by
  cases l with
  | num z => exact fromGo_num z h w
  | txt s => exact fromGo_txt s w

theorem listFromGo_leaf (ls : List Lf) (bs c : Nat) (cs : Array Value) (w : World) (hbs : w.heap[bs]? = some (.cells cs 20 (0, 0))) (hcs : ∀ (i : Nat) (h : i < ls.length), cs[i]? = some ls[i].go) (hok : ∀ l ∈ ls, l.ok) (hn : ls.length ≤ 1000000) :
    Calls Tryz.prog 120 #[.slice (some ⟨bs, 0, none⟩) ls.length c] w (Ret w [] fun v w' => ∃ sl, v = .tuple #[.agg (arrC sl), .bool true] ∧ w'.ownsRow w.heap.size 26 6 sl ls.length (cellsL ls)) := by
  have hbsl := lt_of_blk hbs
  refine calls_of Tryz.func120 rfl rfl rfl rfl ?_
  have FR := Fr.refl [] w
  refine DC.seq ?_
  refine DC.region ?_
  refine DL.alloc rfl rfl F.z26 rfl ?_
  intro b2 w1 f2 lo2 hi2 hb2
  replace lo2 := Nat.le_trans FR.size lo2
  replace FR := FR.tr0 f2
  replace hbs := f2.blk0 hbs
  refine DL.y rfl rfl (Y.assign) ?_
  refine DL.nil ?_
  show DC _ _ _ _ _ _
  refine DC.seq ?_
  refine DC.region ?_
  refine DL.y rfl rfl (Y.build (cs := arrC (.slice none 0 0)) (by kernel_rfl)) ?_
  refine DL.alloc rfl rfl F.z26 rfl ?_
  intro b4 w3 f4 lo4 hi4 hb4
  have lt_b2_b4 : b2 < b4 := Nat.lt_of_lt_of_le hi2 lo4
  replace lo4 := Nat.le_trans FR.size lo4
  replace FR := FR.tr0 f4
  replace hbs := f4.blk0 hbs
  replace hb2 := f4.blk0 hb2
  replace hi2 := Nat.lt_of_lt_of_le hi2 f4.size
  refine DL.storeA rfl F.ag26 rfl rfl rfl (by kernel_rfl) hb4 rfl ?_
  intro w5 f6 hs7 hb4'
  replace FR := FR.put f6 (by intro i hi; simp only [List.mem_cons, List.mem_singleton, List.not_mem_nil, or_false] at hi; rcases hi with rfl; all_goals (first | (left; simp; done) | (right; omega)))
  replace hbs := f6.blk hbs (by simp only [List.mem_cons, List.not_mem_nil, or_false, not_or]; omega)
  replace hb2 := f6.blk hb2 (by simp only [List.mem_cons, List.not_mem_nil, or_false, not_or]; omega)
  replace hi2 := Nat.lt_of_lt_of_le hi2 f6.size
  replace hi4 := Nat.lt_of_lt_of_le hi4 f6.size
  replace hb4 := hb4'
  refine DL.nil ?_
  show DC _ _ _ _ _ _
  refine DC.seq ?_
  refine DC.seq ?_
  refine DC.region ?_
  refine DL.y rfl rfl (Y.move) ?_
  refine DL.y rfl rfl (Y.lenS Tryz.underlying80 rfl) ?_
  refine DL.y rfl rfl (Y.move) ?_
  refine DL.nil ?_
  show DC _ _ _ _ _ _
  refine DC.block ?_
  obtain ⟨B0, hB0⟩ : ∃ B0, B0 = w5.heap.size := ⟨_, rfl⟩
  have hB0w := FR.size
  rw [← hB0] at hB0w
  have hb4B : b4 < B0 := by omega
  have hb2B : b2 < B0 := by omega
  have hbsB : bs < B0 := by omega
  refine DC.loop (σ := Nat × Value) [(3, 3), (6, 8), (12, 30)] (fun (k, _) => [(12, .int .i64 (k : Int))]) (fun sg wl => Fr [b4] w5 wl ∧ (fun (k, sl) wl => k ≤ ls.length ∧ wl.heap[b4]? = some (.cells (arrC sl) 26 (0, 0)) ∧ wl.ownsRow B0 26 6 sl k (cellsL (ls.take k))) sg wl) (fun (k, _) => ls.length - k) ((0, .slice none 0 0)) rfl ?_ ?_ ?_
  · exact rfl
  · exact ⟨Fr.refl _ _, Nat.zero_le _, hb4, World.ownsRow_nil _ _ _ _⟩
  · rintro ⟨k, sl⟩ j w8 ⟨f9, hk0, hb4, hown⟩
    replace FR := FR.put f9 (by intro i hi; simp only [List.mem_cons, List.mem_singleton, List.not_mem_nil, or_false] at hi; rcases hi with rfl; all_goals (first | (left; simp; done) | (right; omega)))
    replace hbs := f9.blk hbs (by simp only [List.mem_cons, List.not_mem_nil, or_false, not_or]; omega)
    replace hb2 := f9.blk hb2 (by simp only [List.mem_cons, List.not_mem_nil, or_false, not_or]; omega)
    replace hi2 := Nat.lt_of_lt_of_le hi2 f9.size
    replace hi4 := Nat.lt_of_lt_of_le hi4 f9.size
    have G10 := f9
    have HG10 := Fr.refl [b4] w8
    refine DC.seq ?_
    refine DC.region ?_
    refine DL.if rfl rfl (Y.lt rfl rfl) (fun c13 => ?_) (fun c13 => ?_)
    · have hk : k < ls.length := by omega
      refine DL.nil ?_
      show DC _ _ _ _ _ _
      refine DC.seq ?_
      refine DC.condT rfl ?_
      refine DC.skip ?_
      show DC _ _ _ _ _ _
      refine DC.seq ?_
      refine DC.block ?_
      refine DC.seq ?_
      refine DC.region ?_
      refine DL.y rfl rfl (Y.index F.sl80 rfl rfl (rfl) (hk)) ?_
      refine DL.y rfl rfl (Y.loadB (v := ls[k].go) F.sc20 rfl hbs (by rw [show 0 + k * 1 = k by omega]; exact hcs k hk)) ?_
      refine DL.y rfl rfl (Y.assign) ?_
      refine DL.nil ?_
      show DC _ _ _ _ _ _
      refine DC.seq ?_
      refine DC.region ?_
      refine DL.y rfl rfl (Y.move) ?_
      refine DL.call rfl rfl F.nm72 rfl (fromGo_leaf _ (hok _ (List.getElem_mem hk)) _) ?_
      rintro _ w11 f12 rfl
      replace FR := FR.tr0 f12
      replace G10 := G10.tr0 f12
      replace HG10 := HG10.tr0 f12
      replace hbs := f12.blk0 hbs
      replace hb2 := f12.blk0 hb2
      replace hi2 := Nat.lt_of_lt_of_le hi2 f12.size
      replace hi4 := Nat.lt_of_lt_of_le hi4 f12.size
      replace hb4 := f12.blk0 hb4
      replace hown := ownsRow_fr hown f12 (by intro b hb; first | (simp at hb; done) | (simp only [List.mem_singleton] at hb; subst hb; first | exact hne7 | exact own_ne hown (by omega)))
      refine DL.y rfl rfl (Y.move) ?_
      refine DL.y rfl rfl (Y.extract rfl rfl) ?_
      refine DL.y rfl rfl (Y.extract rfl rfl) ?_
      refine DL.alloc rfl rfl F.z26 rfl ?_
      intro b7 w13 f14 lo7 hi7 hb7
      have hne7 : sl.ownBlock ≠ some b7 := own_ne hown (Or.inr lo7)
      have lt_b2_b7 : b2 < b7 := Nat.lt_of_lt_of_le hi2 lo7
      have lt_b4_b7 : b4 < b7 := Nat.lt_of_lt_of_le hi4 lo7
      have lo7G10 := Nat.le_trans G10.size lo7
      have lo7HG10 := Nat.le_trans HG10.size lo7
      replace lo7 := Nat.le_trans FR.size lo7
      replace FR := FR.tr0 f14
      replace G10 := G10.tr0 f14
      replace HG10 := HG10.tr0 f14
      replace hbs := f14.blk0 hbs
      replace hb2 := f14.blk0 hb2
      replace hi2 := Nat.lt_of_lt_of_le hi2 f14.size
      replace hi4 := Nat.lt_of_lt_of_le hi4 f14.size
      replace hb4 := f14.blk0 hb4
      replace hown := ownsRow_fr hown f14 (by intro b hb; first | (simp at hb; done) | (simp only [List.mem_singleton] at hb; subst hb; first | exact hne7 | exact own_ne hown (by omega)))
      refine DL.storeA (cs := ls[k].cells) rfl F.ag26 rfl rfl (Lf.size _) (Lf.one _) hb7 rfl ?_
      intro w15 f16 hs17 hb7'
      replace FR := FR.put f16 (by intro i hi; simp only [List.mem_cons, List.mem_singleton, List.not_mem_nil, or_false] at hi; rcases hi with rfl; all_goals (first | (left; simp; done) | (right; omega)))
      replace G10 := G10.put f16 (by intro i hi; simp only [List.mem_cons, List.mem_singleton, List.not_mem_nil, or_false] at hi; rcases hi with rfl; all_goals (first | (left; simp; done) | (right; omega)))
      replace HG10 := HG10.put f16 (by intro i hi; simp only [List.mem_cons, List.mem_singleton, List.not_mem_nil, or_false] at hi; rcases hi with rfl; all_goals (first | (left; simp; done) | (right; omega)))
      replace hbs := f16.blk hbs (by simp only [List.mem_cons, List.not_mem_nil, or_false, not_or]; omega)
      replace hb2 := f16.blk hb2 (by simp only [List.mem_cons, List.not_mem_nil, or_false, not_or]; omega)
      replace hi2 := Nat.lt_of_lt_of_le hi2 f16.size
      replace hi4 := Nat.lt_of_lt_of_le hi4 f16.size
      replace hb4 := f16.blk hb4 (by simp only [List.mem_cons, List.not_mem_nil, or_false, not_or]; omega)
      replace hown := ownsRow_fr hown f16 (by intro b hb; first | (simp at hb; done) | (simp only [List.mem_singleton] at hb; subst hb; first | exact hne7 | exact own_ne hown (by omega)))
      replace hi7 := Nat.lt_of_lt_of_le hi7 f16.size
      replace hb7 := hb7'
      refine DL.y rfl rfl (Y.assign) ?_
      refine DL.nil ?_
      show DC _ _ _ _ _ _
      refine DC.seq ?_
      refine DC.seq ?_
      refine DC.region ?_
      refine DL.y rfl rfl (Y.move) ?_
      refine DL.y rfl rfl (Y.not rfl) ?_
      refine DL.nil ?_
      show DC _ _ _ _ _ _
      refine DC.condF rfl ?_
      refine DC.skip ?_
      show DC _ _ _ _ _ _
      refine DC.region ?_
      refine DL.y rfl rfl (Y.field F.fd26_3 rfl) ?_
      refine DL.y rfl rfl (Y.loadB F.sc23 rfl hb4 rfl) ?_
      refine DL.y rfl rfl (Y.loadW rfl hb7 (by rw [Lf.size]; exact F.ag26)) ?_
      refine DL.buildSl1 (cs := ls[k].cells) rfl rfl (F.el23) rfl rfl (Lf.size _) ?_
      intro b27 w18 f19 lo27 hi27 hb27
      have lt_b2_b27 : b2 < b27 := Nat.lt_of_lt_of_le hi2 lo27
      have lt_b4_b27 : b4 < b27 := Nat.lt_of_lt_of_le hi4 lo27
      have lt_b7_b27 : b7 < b27 := Nat.lt_of_lt_of_le hi7 lo27
      have lo27G10 := Nat.le_trans G10.size lo27
      have lo27HG10 := Nat.le_trans HG10.size lo27
      replace lo27 := Nat.le_trans FR.size lo27
      replace FR := FR.tr0 f19
      replace G10 := G10.tr0 f19
      replace HG10 := HG10.tr0 f19
      replace hbs := f19.blk0 hbs
      replace hb2 := f19.blk0 hb2
      replace hi2 := Nat.lt_of_lt_of_le hi2 f19.size
      replace hi4 := Nat.lt_of_lt_of_le hi4 f19.size
      replace hb4 := f19.blk0 hb4
      replace hown := ownsRow_fr hown f19 (by intro b hb; first | (simp at hb; done) | (simp only [List.mem_singleton] at hb; subst hb; first | exact hne7 | exact own_ne hown (by omega)))
      replace hi7 := Nat.lt_of_lt_of_le hi7 f19.size
      replace hb7 := f19.blk0 hb7
      refine DL.append rfl rfl F.el23 rfl rfl hown hb27 (Lf.size _) (Lf.one _) (by omega) (by omega) (by have := G10.size; omega) ?_
      intro sl28 w20 f21 hown'
      replace FR := FR.put f21 (fun i hi => Or.inr (by have := (own_ge hown i hi).1; omega))
      replace G10 := G10.put f21 (fun i hi => Or.inr (by have := (own_ge hown i hi).1; omega))
      replace hbs := f21.blk hbs (fun hm => by have := (own_ge hown _ hm).1; omega)
      replace hb2 := f21.blk hb2 (fun hm => by have := (own_ge hown _ hm).1; omega)
      replace hi2 := Nat.lt_of_lt_of_le hi2 f21.size
      replace hi4 := Nat.lt_of_lt_of_le hi4 f21.size
      replace hb4 := f21.blk hb4 (fun hm => by have := (own_ge hown _ hm).1; omega)
      replace hown := hown'
      refine DL.y rfl rfl (Y.field F.fd26_3 rfl) ?_
      have hne4 := own_ne hown (Or.inl hb4B)
      refine DL.storeC rfl F.co23 F.in23 rfl rfl (own_one hown) hb4 (by show 3 < 6; omega) (cs' := arrC sl28) rfl ?_
      intro w22 f23 hs24 hb4'
      replace FR := FR.put f23 (by intro i hi; simp only [List.mem_cons, List.mem_singleton, List.not_mem_nil, or_false] at hi; rcases hi with rfl; all_goals (first | (left; simp; done) | (right; omega)))
      replace G10 := G10.put f23 (by intro i hi; simp only [List.mem_cons, List.mem_singleton, List.not_mem_nil, or_false] at hi; rcases hi with rfl; all_goals (first | (left; simp; done) | (right; omega)))
      replace hbs := f23.blk hbs (by simp only [List.mem_cons, List.not_mem_nil, or_false, not_or]; omega)
      replace hb2 := f23.blk hb2 (by simp only [List.mem_cons, List.not_mem_nil, or_false, not_or]; omega)
      replace hi2 := Nat.lt_of_lt_of_le hi2 f23.size
      replace hi4 := Nat.lt_of_lt_of_le hi4 f23.size
      replace hown := ownsRow_fr hown f23 (by intro b hb; first | (simp at hb; done) | (simp only [List.mem_singleton] at hb; subst hb; first | exact hne7 | exact own_ne hown (by omega)))
      replace hb4 := hb4'
      refine DL.nil ?_
      show DC _ _ _ _ _ _
      refine DC.region ?_
      refine DL.y rfl rfl (Y.addI (c := ((k + 1 : Nat) : Int)) rfl rfl (by omega) (by omega) (by omega)) ?_
      refine DL.y rfl rfl (Y.move) ?_
      refine DL.nil ?_
      exact ⟨(k + 1, sl28), ⟨G10, hk, hb4, by rw [List.take_succ_eq_append_getElem hk, cellsL_snoc]; exact hown⟩, by show ls.length - (k + 1) < ls.length - k; omega, rfl⟩
    · refine DL.nil ?_
      show DC _ _ _ _ _ _
      refine DC.seq ?_
      refine DC.condF rfl ?_
      refine DC.exit ?_
      show DC _ _ _ _ _ _
      refine DC.seq ?_
      refine DC.region ?_
      refine DL.y rfl rfl (Y.loadW rfl hb4 F.ag26) ?_
      refine DL.storeA rfl F.ag26 rfl rfl rfl (arr_one hown) hb2 rfl ?_
      intro w25 f26 hs27 hb2'
      replace FR := FR.put f26 (by intro i hi; simp only [List.mem_cons, List.mem_singleton, List.not_mem_nil, or_false] at hi; rcases hi with rfl; all_goals (first | (left; simp; done) | (right; omega)))
      replace hbs := f26.blk hbs (by simp only [List.mem_cons, List.not_mem_nil, or_false, not_or]; omega)
      replace hi2 := Nat.lt_of_lt_of_le hi2 f26.size
      replace hi4 := Nat.lt_of_lt_of_le hi4 f26.size
      replace hb4 := f26.blk hb4 (by simp only [List.mem_cons, List.not_mem_nil, or_false, not_or]; omega)
      replace hown := ownsRow_fr hown f26 (by intro b hb; first | (simp at hb; done) | (simp only [List.mem_singleton] at hb; subst hb; first | exact hne7 | exact own_ne hown (by omega)))
      replace hb2 := hb2'
      refine DL.y rfl rfl (Y.assign) ?_
      refine DL.nil ?_
      show DC _ _ _ _ _ _
      refine DC.ret ?_
      have hke : k = ls.length := by omega
      subst hke
      rw [List.take_length] at hown
      exact FinQ.retCT rfl (cs := arrC sl) F.ag26 (.ofBlk hb2) rfl (Ret.mk FR ⟨sl, rfl, own_base hown hB0w⟩)

end Go.Proofs.YtmbleojlnaofjaaGreatDoor
