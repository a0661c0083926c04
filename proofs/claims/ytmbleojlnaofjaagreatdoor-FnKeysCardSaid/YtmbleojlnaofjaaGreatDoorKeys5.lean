/- The walk of gojq.funcKeys. -/
import Derived.Test.YtmbleojlnaofjaaGreatDoorKeys4
namespace Go.Proofs.YtmbleojlnaofjaaGreatDoor
open Go Go.RowKit D Go.Deep
set_option linter.unusedVariables false
set_option linter.unusedSimpArgs false

theorem fk_list (a : Option Addr) (n c : Nat) (hn : n ≤ 1000000) (w : World) : Calls Tryz.prog 73 #[.iface 80 (.slice a n c)] w (Ret w [] fun r w' => ∃ b cs, r = .iface 80 (.slice (some ⟨b, 0, none⟩) n n) ∧ w.heap.size ≤ b ∧ w'.heap[b]? = some (.cells cs 20 (0, 0)) ∧ cs.size = n ∧ ∀ i, i < n → cs[i]? = some (.iface 3 (.int .i64 (i : Nat)))) := by
  refine calls_of Tryz.func73 rfl rfl rfl rfl ?_
  have FR := Fr.refl [] w
  refine DC.seq ?_
  refine DC.region ?_
  refine DL.y rfl rfl (Y.assign) ?_
  refine DL.nil ?_
  show DC _ _ _ _ _ _
  refine DC.seq ?_
  refine DC.region ?_
  refine DL.y rfl rfl (Y.move) ?_
  refine DL.nil ?_
  show DC _ _ _ _ _ _
  refine DC.block ?_
  refine DC.seq ?_
  refine DC.region ?_
  refine DL.y rfl rfl (Y.asYes F.if80 rfl) ?_
  refine DL.y rfl rfl (Y.extract rfl rfl) ?_
  refine DL.y rfl rfl (Y.extract rfl rfl) ?_
  refine DL.nil ?_
  show DC _ _ _ _ _ _
  refine DC.condT rfl ?_
  refine DC.seq ?_
  refine DC.region ?_
  refine DL.y rfl rfl (Y.assign) ?_
  refine DL.nil ?_
  show DC _ _ _ _ _ _
  refine DC.seq ?_
  refine DC.region ?_
  refine DL.y rfl rfl (Y.move) ?_
  refine DL.y rfl rfl (Y.lenS Tryz.underlying80 rfl) ?_
  refine DL.makeS rfl rfl eli_any rfl rfl rfl (by omega) (by omega) ?_
  intro b21 w1 cs0 f2 lo21 hi21 hb21 hz0 hc0
  replace lo21 := Nat.le_trans FR.size lo21
  replace FR := FR.tr0 f2
  refine DL.y rfl rfl (Y.assign) ?_
  refine DL.nil ?_
  show DC _ _ _ _ _ _
  refine DC.seq ?_
  refine DC.seq ?_
  refine DC.region ?_
  refine DL.y rfl rfl (Y.move) ?_
  refine DL.y rfl rfl (Y.lenS Tryz.underlying80 rfl) ?_
  refine DL.y rfl rfl (Y.move) ?_
  refine DL.nil ?_
  show DC _ _ _ _ _ _
  refine DC.block ?_
  refine DC.loop (σ := Nat × Array Value) [(5, 5), (24, 32)] (fun (k, _) => [(24, .int .i64 (k : Int))]) (fun sg wl => Fr [b21] w1 wl ∧ (fun (k, cs) wl => k ≤ n ∧ wl.heap[b21]? = some (.cells cs 20 (0, 0)) ∧ cs.size = n ∧ ∀ i, i < n → i < k → cs[i]? = some (.iface 3 (.int .i64 (i : Nat)))) sg wl) (fun (k, _) => n - k) ((0, cs0)) rfl ?_ ?_ ?_
  · exact rfl
  · exact ⟨Fr.refl _ _, Nat.zero_le _, hb21, hz0, fun i h hi => by omega⟩
  · rintro ⟨k, cs⟩ j w3 ⟨f4, hk0, hb21, hcz, hcj⟩
    replace FR := FR.put f4 (by intro i hi; simp only [List.mem_cons, List.mem_singleton, List.not_mem_nil, or_false] at hi; rcases hi with rfl; all_goals (first | (left; simp; done) | (right; omega)))
    replace hi21 := Nat.lt_of_lt_of_le hi21 f4.size
    have G5 := f4
    have HG5 := Fr.refl [b21] w3
    refine DC.seq ?_
    refine DC.region ?_
    refine DL.if rfl rfl (Y.lt rfl rfl) (fun c25 => ?_) (fun c25 => ?_)
    · have hk : k < n := by omega
      refine DL.nil ?_
      show DC _ _ _ _ _ _
      refine DC.seq ?_
      refine DC.condT rfl ?_
      refine DC.skip ?_
      show DC _ _ _ _ _ _
      refine DC.seq ?_
      refine DC.block ?_
      refine DC.seq ?_
      refine DC.region ?_
      refine DL.y rfl rfl (Y.move) ?_
      refine DL.y rfl rfl (Y.assign) ?_
      refine DL.nil ?_
      show DC _ _ _ _ _ _
      refine DC.region ?_
      refine DL.y rfl rfl (Y.move) ?_
      refine DL.y rfl rfl (Y.move) ?_
      refine DL.y rfl rfl (Y.move) ?_
      refine DL.y rfl rfl (Y.mkI F.if3) ?_
      refine DL.y rfl rfl (Y.index F.sl80 rfl rfl (rfl) (hk)) ?_
      refine DL.storeP rfl F.co20 F.in20 rfl rfl rfl hb21 (by omega) ?_
      intro w6 f7 hs8 hb21'
      replace FR := FR.put f7 (by intro i hi; simp only [List.mem_cons, List.mem_singleton, List.not_mem_nil, or_false] at hi; rcases hi with rfl; all_goals (first | (left; simp; done) | (right; omega)))
      replace G5 := G5.put f7 (by intro i hi; simp only [List.mem_cons, List.mem_singleton, List.not_mem_nil, or_false] at hi; rcases hi with rfl; all_goals (first | (left; simp; done) | (right; omega)))
      replace HG5 := HG5.put f7 (by intro i hi; simp only [List.mem_cons, List.mem_singleton, List.not_mem_nil, or_false] at hi; rcases hi with rfl; all_goals (first | (left; simp; done) | (right; omega)))
      replace hi21 := Nat.lt_of_lt_of_le hi21 f7.size
      replace hb21 := hb21'
      refine DL.nil ?_
      show DC _ _ _ _ _ _
      refine DC.region ?_
      refine DL.y rfl rfl (Y.addI (c := ((k + 1 : Nat) : Int)) rfl rfl (by omega) (by omega) (by omega)) ?_
      refine DL.y rfl rfl (Y.move) ?_
      refine DL.nil ?_
      refine ⟨(k + 1, cs.setIfInBounds (0 + k * 1) (.iface 3 (.int .i64 (k : Nat)))), ⟨G5, by omega, hb21, by simpa using hcz, fun i hi hik => ?_⟩, by show n - (k + 1) < n - k; omega, rfl⟩
      by_cases h' : i = k
      · subst h'; rw [show 0 + i * 1 = i by omega, Array.getElem?_setIfInBounds_self_of_lt (by omega)]
      · rw [Array.getElem?_setIfInBounds_ne (by omega)]; exact hcj i hi (by omega)
    · refine DL.nil ?_
      show DC _ _ _ _ _ _
      refine DC.seq ?_
      refine DC.condF rfl ?_
      refine DC.exit ?_
      show DC _ _ _ _ _ _
      refine DC.seq ?_
      refine DC.region ?_
      refine DL.y rfl rfl (Y.move) ?_
      refine DL.y rfl rfl (Y.mkI F.if80) ?_
      refine DL.y rfl rfl (Y.assign) ?_
      refine DL.nil ?_
      show DC _ _ _ _ _ _
      refine DC.ret ?_
      exact FinQ.ret1 rfl (Ret.mk FR ⟨b21, cs, rfl, lo21, hb21, hcz, fun i hi => hcj i hi (by omega)⟩)

theorem fk_map (keys : List ByteArray) (r : Nat) (es : Array MapEntry) (xs : Nat → Value) (w : World) (hmap : w.heap[r]? = some (.map es keys.length)) (hes : es.size = keys.length) (hent : ∀ (i : Nat) (h : i < keys.length), es[i]? = some ⟨.string keys[i], xs i, i⟩)
    (hrise : ∀ i (h : i + 1 < keys.length), Op.bytesLess keys[i].toList keys[i + 1].toList = true) (hn : keys.length ≤ 1000000) : Calls Tryz.prog 73 #[.iface 83 (.map (some r))] w (Ret w [] fun r w' => ∃ b cs, r = .iface 80 (.slice (some ⟨b, 0, none⟩) keys.length keys.length) ∧ w.heap.size ≤ b ∧ w'.heap[b]? = some (.cells cs 20 (0, 0)) ∧ cs.size = keys.length ∧ ∀ i, i < keys.length → cs[i]? = some (.iface 9 (.string (keys.getD i default)))) := by
  have hrl := lt_of_blk hmap
  refine calls_of Tryz.func73 rfl rfl rfl rfl ?_
  have FR := Fr.refl [] w
  refine DC.seq ?_
  refine DC.region ?_
  refine DL.y rfl rfl (Y.assign) ?_
  refine DL.nil ?_
  show DC _ _ _ _ _ _
  refine DC.seq ?_
  refine DC.region ?_
  refine DL.y rfl rfl (Y.move) ?_
  refine DL.nil ?_
  show DC _ _ _ _ _ _
  refine DC.block ?_
  refine DC.seq ?_
  refine DC.region ?_
  refine DL.y rfl rfl (Y.asNo F.if80 F.z80 rfl rfl) ?_
  refine DL.y rfl rfl (Y.extract rfl rfl) ?_
  refine DL.y rfl rfl (Y.extract rfl rfl) ?_
  refine DL.nil ?_
  show DC _ _ _ _ _ _
  refine DC.condF rfl ?_
  refine DC.seq ?_
  refine DC.region ?_
  refine DL.y rfl rfl (Y.asYes F.if83 rfl) ?_
  refine DL.y rfl rfl (Y.extract rfl rfl) ?_
  refine DL.y rfl rfl (Y.extract rfl rfl) ?_
  refine DL.nil ?_
  show DC _ _ _ _ _ _
  refine DC.condT rfl ?_
  refine DC.seq ?_
  refine DC.region ?_
  refine DL.y rfl rfl (Y.assign) ?_
  refine DL.nil ?_
  show DC _ _ _ _ _ _
  refine DC.seq ?_
  refine DC.region ?_
  refine DL.y rfl rfl (Y.move) ?_
  refine DL.y rfl rfl (hes ▸ Y.lenMap Tryz.underlying83 rfl hmap) ?_
  refine DL.makeS rfl rfl eli_any rfl rfl rfl (by omega) (by omega) ?_
  intro b40 w1 cs0 f2 lo40 hi40 hb40 hz0 hc0
  replace lo40 := Nat.le_trans FR.size lo40
  replace FR := FR.tr0 f2
  replace hmap := f2.blk0 hmap
  refine DL.y rfl rfl (Y.assign) ?_
  refine DL.nil ?_
  show DC _ _ _ _ _ _
  refine DC.seq ?_
  refine DC.seq ?_
  refine DC.region ?_
  refine DL.y rfl rfl (Y.move) ?_
  have hszp := FR.size
  have hb40c : b40 < w1.heap.size := hi40
  refine DL.call rfl rfl F.nm122 rfl (gkeys_any keys r es xs _ hmap hes hent hrise hn) ?_
  rintro _ w3 f4 ⟨b42, rfl, lo42, hi42, hb42⟩
  replace FR := FR.tr0 f4
  replace hmap := f4.blk0 hmap
  replace hb40 := f4.blk0 hb40
  replace hi40 := Nat.lt_of_lt_of_le hi40 f4.size
  have hne : b42 ≠ b40 := by omega
  refine DL.y rfl rfl (Y.lenS Tryz.underlying24 rfl) ?_
  refine DL.y rfl rfl (Y.move) ?_
  refine DL.nil ?_
  show DC _ _ _ _ _ _
  refine DC.block ?_
  refine DC.loop (σ := Nat × Array Value) [(8, 9), (44, 54)] (fun (k, _) => [(44, .int .i64 (k : Int))]) (fun sg wl => Fr [b40] w3 wl ∧ (fun (k, cs) wl => k ≤ keys.length ∧ wl.heap[b40]? = some (.cells cs 20 (0, 0)) ∧ cs.size = keys.length ∧ ∀ i, i < keys.length → i < k → cs[i]? = some (.iface 9 (.string (keys.getD i default)))) sg wl) (fun (k, _) => keys.length - k) ((0, cs0)) rfl ?_ ?_ ?_
  · exact rfl
  · exact ⟨Fr.refl _ _, Nat.zero_le _, hb40, hz0, fun i h hi => by omega⟩
  · rintro ⟨k, cs⟩ j w5 ⟨f6, hk0, hb40, hcz, hcj⟩
    replace FR := FR.put f6 (by intro i hi; simp only [List.mem_cons, List.mem_singleton, List.not_mem_nil, or_false] at hi; rcases hi with rfl; all_goals (first | (left; simp; done) | (right; omega)))
    replace hmap := f6.blk hmap (by simp only [List.mem_cons, List.not_mem_nil, or_false, not_or]; omega)
    replace hi40 := Nat.lt_of_lt_of_le hi40 f6.size
    replace hb42 := f6.blk hb42 (by simp only [List.mem_cons, List.not_mem_nil, or_false, not_or]; omega)
    have G7 := f6
    have HG7 := Fr.refl [b40] w5
    refine DC.seq ?_
    refine DC.region ?_
    refine DL.if rfl rfl (Y.lt rfl rfl) (fun c45 => ?_) (fun c45 => ?_)
    · have hk : k < keys.length := by omega
      refine DL.nil ?_
      show DC _ _ _ _ _ _
      refine DC.seq ?_
      refine DC.condT rfl ?_
      refine DC.skip ?_
      show DC _ _ _ _ _ _
      refine DC.seq ?_
      refine DC.block ?_
      refine DC.seq ?_
      refine DC.region ?_
      refine DL.y rfl rfl (Y.move) ?_
      refine DL.y rfl rfl (Y.index F.sl24 rfl rfl (rfl) (hk)) ?_
      refine DL.y rfl rfl (Y.loadB (v := .string (keys.getD k default)) F.sc9 rfl hb42 (by simp [hk])) ?_
      refine DL.y rfl rfl (Y.assign) ?_
      refine DL.y rfl rfl (Y.assign) ?_
      refine DL.nil ?_
      show DC _ _ _ _ _ _
      refine DC.region ?_
      refine DL.y rfl rfl (Y.move) ?_
      refine DL.y rfl rfl (Y.move) ?_
      refine DL.y rfl rfl (Y.move) ?_
      refine DL.y rfl rfl (Y.mkI F.if9) ?_
      refine DL.y rfl rfl (Y.index F.sl80 rfl rfl (rfl) (hk)) ?_
      refine DL.storeP rfl F.co20 F.in20 rfl rfl rfl hb40 (by omega) ?_
      intro w8 f9 hs10 hb40'
      replace FR := FR.put f9 (by intro i hi; simp only [List.mem_cons, List.mem_singleton, List.not_mem_nil, or_false] at hi; rcases hi with rfl; all_goals (first | (left; simp; done) | (right; omega)))
      replace G7 := G7.put f9 (by intro i hi; simp only [List.mem_cons, List.mem_singleton, List.not_mem_nil, or_false] at hi; rcases hi with rfl; all_goals (first | (left; simp; done) | (right; omega)))
      replace HG7 := HG7.put f9 (by intro i hi; simp only [List.mem_cons, List.mem_singleton, List.not_mem_nil, or_false] at hi; rcases hi with rfl; all_goals (first | (left; simp; done) | (right; omega)))
      replace hmap := f9.blk hmap (by simp only [List.mem_cons, List.not_mem_nil, or_false, not_or]; omega)
      replace hi40 := Nat.lt_of_lt_of_le hi40 f9.size
      replace hb42 := f9.blk hb42 (by simp only [List.mem_cons, List.not_mem_nil, or_false, not_or]; omega)
      replace hb40 := hb40'
      refine DL.nil ?_
      show DC _ _ _ _ _ _
      refine DC.region ?_
      refine DL.y rfl rfl (Y.addI (c := ((k + 1 : Nat) : Int)) rfl rfl (by omega) (by omega) (by omega)) ?_
      refine DL.y rfl rfl (Y.move) ?_
      refine DL.nil ?_
      refine ⟨(k + 1, cs.setIfInBounds (0 + k * 1) (.iface 9 (.string (keys.getD k default)))), ⟨G7, by omega, hb40, by simpa using hcz, fun i hi hik => ?_⟩, by show keys.length - (k + 1) < keys.length - k; omega, rfl⟩
      by_cases h' : i = k
      · subst h'; rw [show 0 + i * 1 = i by omega, Array.getElem?_setIfInBounds_self_of_lt (by omega)]
      · rw [Array.getElem?_setIfInBounds_ne (by omega)]; exact hcj i hi (by omega)
    · refine DL.nil ?_
      show DC _ _ _ _ _ _
      refine DC.seq ?_
      refine DC.condF rfl ?_
      refine DC.exit ?_
      show DC _ _ _ _ _ _
      refine DC.seq ?_
      refine DC.region ?_
      refine DL.y rfl rfl (Y.move) ?_
      refine DL.y rfl rfl (Y.mkI F.if80) ?_
      refine DL.y rfl rfl (Y.assign) ?_
      refine DL.nil ?_
      show DC _ _ _ _ _ _
      refine DC.ret ?_
      exact FinQ.ret1 rfl (Ret.mk FR ⟨b40, cs, rfl, lo40, hb40, hcz, fun i hi => hcj i hi (by omega)⟩)

theorem fk_nil  (w : World) : Calls Tryz.prog 73 #[.nilIface] w (Ret w [] fun r _ => ∃ p, r = .iface 129 (.pointer p)) := by
  refine calls_of Tryz.func73 rfl rfl rfl rfl ?_
  have FR := Fr.refl [] w
  refine DC.seq ?_
  refine DC.region ?_
  refine DL.y rfl rfl (Y.assign) ?_
  refine DL.nil ?_
  show DC _ _ _ _ _ _
  refine DC.seq ?_
  refine DC.region ?_
  refine DL.y rfl rfl (Y.move) ?_
  refine DL.nil ?_
  show DC _ _ _ _ _ _
  refine DC.block ?_
  refine DC.seq ?_
  refine DC.region ?_
  refine DL.y rfl rfl (Y.asNil F.if80 F.z80 rfl) ?_
  refine DL.y rfl rfl (Y.extract rfl rfl) ?_
  refine DL.y rfl rfl (Y.extract rfl rfl) ?_
  refine DL.nil ?_
  show DC _ _ _ _ _ _
  refine DC.condF rfl ?_
  refine DC.seq ?_
  refine DC.region ?_
  refine DL.y rfl rfl (Y.asNil F.if83 F.z83 rfl) ?_
  refine DL.y rfl rfl (Y.extract rfl rfl) ?_
  refine DL.y rfl rfl (Y.extract rfl rfl) ?_
  refine DL.nil ?_
  show DC _ _ _ _ _ _
  refine DC.condF rfl ?_
  refine DC.seq ?_
  refine DC.region ?_
  refine DL.y rfl rfl (Y.assign) ?_
  refine DL.nil ?_
  show DC _ _ _ _ _ _
  refine DC.seq ?_
  refine DC.region ?_
  refine DL.y rfl rfl (Y.move) ?_
  refine DL.y rfl rfl (Y.build (cs := #[.string ⟨#[107, 101, 121, 115]⟩, .nilIface]) (by kernel_rfl)) ?_
  refine DL.boxA rfl rfl rfl ?_
  intro b14 w1 f2 lo14 hi14 hb14
  replace lo14 := Nat.le_trans FR.size lo14
  replace FR := FR.tr0 f2
  refine DL.y rfl rfl (Y.mkI F.if129) ?_
  refine DL.y rfl rfl (Y.assign) ?_
  refine DL.nil ?_
  show DC _ _ _ _ _ _
  refine DC.ret ?_
  exact FinQ.ret1 rfl (Ret.mk FR ⟨_, rfl⟩)

theorem fk_bool (b : Bool) (w : World) : Calls Tryz.prog 73 #[.iface 4 (.bool b)] w (Ret w [] fun r _ => ∃ p, r = .iface 129 (.pointer p)) := by
  refine calls_of Tryz.func73 rfl rfl rfl rfl ?_
  have FR := Fr.refl [] w
  refine DC.seq ?_
  refine DC.region ?_
  refine DL.y rfl rfl (Y.assign) ?_
  refine DL.nil ?_
  show DC _ _ _ _ _ _
  refine DC.seq ?_
  refine DC.region ?_
  refine DL.y rfl rfl (Y.move) ?_
  refine DL.nil ?_
  show DC _ _ _ _ _ _
  refine DC.block ?_
  refine DC.seq ?_
  refine DC.region ?_
  refine DL.y rfl rfl (Y.asNo F.if80 F.z80 rfl rfl) ?_
  refine DL.y rfl rfl (Y.extract rfl rfl) ?_
  refine DL.y rfl rfl (Y.extract rfl rfl) ?_
  refine DL.nil ?_
  show DC _ _ _ _ _ _
  refine DC.condF rfl ?_
  refine DC.seq ?_
  refine DC.region ?_
  refine DL.y rfl rfl (Y.asNo F.if83 F.z83 rfl rfl) ?_
  refine DL.y rfl rfl (Y.extract rfl rfl) ?_
  refine DL.y rfl rfl (Y.extract rfl rfl) ?_
  refine DL.nil ?_
  show DC _ _ _ _ _ _
  refine DC.condF rfl ?_
  refine DC.seq ?_
  refine DC.region ?_
  refine DL.y rfl rfl (Y.assign) ?_
  refine DL.nil ?_
  show DC _ _ _ _ _ _
  refine DC.seq ?_
  refine DC.region ?_
  refine DL.y rfl rfl (Y.move) ?_
  refine DL.y rfl rfl (Y.build (cs := #[.string ⟨#[107, 101, 121, 115]⟩, .iface 4 (.bool b)]) (by kernel_rfl)) ?_
  refine DL.boxA rfl rfl rfl ?_
  intro b14 w1 f2 lo14 hi14 hb14
  replace lo14 := Nat.le_trans FR.size lo14
  replace FR := FR.tr0 f2
  refine DL.y rfl rfl (Y.mkI F.if129) ?_
  refine DL.y rfl rfl (Y.assign) ?_
  refine DL.nil ?_
  show DC _ _ _ _ _ _
  refine DC.ret ?_
  exact FinQ.ret1 rfl (Ret.mk FR ⟨_, rfl⟩)

theorem fk_int (z : Int) (w : World) : Calls Tryz.prog 73 #[.iface 3 (.int .i64 z)] w (Ret w [] fun r _ => ∃ p, r = .iface 129 (.pointer p)) := by
  refine calls_of Tryz.func73 rfl rfl rfl rfl ?_
  have FR := Fr.refl [] w
  refine DC.seq ?_
  refine DC.region ?_
  refine DL.y rfl rfl (Y.assign) ?_
  refine DL.nil ?_
  show DC _ _ _ _ _ _
  refine DC.seq ?_
  refine DC.region ?_
  refine DL.y rfl rfl (Y.move) ?_
  refine DL.nil ?_
  show DC _ _ _ _ _ _
  refine DC.block ?_
  refine DC.seq ?_
  refine DC.region ?_
  refine DL.y rfl rfl (Y.asNo F.if80 F.z80 rfl rfl) ?_
  refine DL.y rfl rfl (Y.extract rfl rfl) ?_
  refine DL.y rfl rfl (Y.extract rfl rfl) ?_
  refine DL.nil ?_
  show DC _ _ _ _ _ _
  refine DC.condF rfl ?_
  refine DC.seq ?_
  refine DC.region ?_
  refine DL.y rfl rfl (Y.asNo F.if83 F.z83 rfl rfl) ?_
  refine DL.y rfl rfl (Y.extract rfl rfl) ?_
  refine DL.y rfl rfl (Y.extract rfl rfl) ?_
  refine DL.nil ?_
  show DC _ _ _ _ _ _
  refine DC.condF rfl ?_
  refine DC.seq ?_
  refine DC.region ?_
  refine DL.y rfl rfl (Y.assign) ?_
  refine DL.nil ?_
  show DC _ _ _ _ _ _
  refine DC.seq ?_
  refine DC.region ?_
  refine DL.y rfl rfl (Y.move) ?_
  refine DL.y rfl rfl (Y.build (cs := #[.string ⟨#[107, 101, 121, 115]⟩, .iface 3 (.int .i64 z)]) (by kernel_rfl)) ?_
  refine DL.boxA rfl rfl rfl ?_
  intro b14 w1 f2 lo14 hi14 hb14
  replace lo14 := Nat.le_trans FR.size lo14
  replace FR := FR.tr0 f2
  refine DL.y rfl rfl (Y.mkI F.if129) ?_
  refine DL.y rfl rfl (Y.assign) ?_
  refine DL.nil ?_
  show DC _ _ _ _ _ _
  refine DC.ret ?_
  exact FinQ.ret1 rfl (Ret.mk FR ⟨_, rfl⟩)

theorem fk_float (z : Nat) (w : World) : Calls Tryz.prog 73 #[.iface 79 (.float .f64 z)] w (Ret w [] fun r _ => ∃ p, r = .iface 129 (.pointer p)) := by
  refine calls_of Tryz.func73 rfl rfl rfl rfl ?_
  have FR := Fr.refl [] w
  refine DC.seq ?_
  refine DC.region ?_
  refine DL.y rfl rfl (Y.assign) ?_
  refine DL.nil ?_
  show DC _ _ _ _ _ _
  refine DC.seq ?_
  refine DC.region ?_
  refine DL.y rfl rfl (Y.move) ?_
  refine DL.nil ?_
  show DC _ _ _ _ _ _
  refine DC.block ?_
  refine DC.seq ?_
  refine DC.region ?_
  refine DL.y rfl rfl (Y.asNo F.if80 F.z80 rfl rfl) ?_
  refine DL.y rfl rfl (Y.extract rfl rfl) ?_
  refine DL.y rfl rfl (Y.extract rfl rfl) ?_
  refine DL.nil ?_
  show DC _ _ _ _ _ _
  refine DC.condF rfl ?_
  refine DC.seq ?_
  refine DC.region ?_
  refine DL.y rfl rfl (Y.asNo F.if83 F.z83 rfl rfl) ?_
  refine DL.y rfl rfl (Y.extract rfl rfl) ?_
  refine DL.y rfl rfl (Y.extract rfl rfl) ?_
  refine DL.nil ?_
  show DC _ _ _ _ _ _
  refine DC.condF rfl ?_
  refine DC.seq ?_
  refine DC.region ?_
  refine DL.y rfl rfl (Y.assign) ?_
  refine DL.nil ?_
  show DC _ _ _ _ _ _
  refine DC.seq ?_
  refine DC.region ?_
  refine DL.y rfl rfl (Y.move) ?_
  refine DL.y rfl rfl (Y.build (cs := #[.string ⟨#[107, 101, 121, 115]⟩, .iface 79 (.float .f64 z)]) (by kernel_rfl)) ?_
  refine DL.boxA rfl rfl rfl ?_
  intro b14 w1 f2 lo14 hi14 hb14
  replace lo14 := Nat.le_trans FR.size lo14
  replace FR := FR.tr0 f2
  refine DL.y rfl rfl (Y.mkI F.if129) ?_
  refine DL.y rfl rfl (Y.assign) ?_
  refine DL.nil ?_
  show DC _ _ _ _ _ _
  refine DC.ret ?_
  exact FinQ.ret1 rfl (Ret.mk FR ⟨_, rfl⟩)

theorem fk_str (s : ByteArray) (w : World) : Calls Tryz.prog 73 #[.iface 9 (.string s)] w (Ret w [] fun r _ => ∃ p, r = .iface 129 (.pointer p)) := by
  refine calls_of Tryz.func73 rfl rfl rfl rfl ?_
  have FR := Fr.refl [] w
  refine DC.seq ?_
  refine DC.region ?_
  refine DL.y rfl rfl (Y.assign) ?_
  refine DL.nil ?_
  show DC _ _ _ _ _ _
  refine DC.seq ?_
  refine DC.region ?_
  refine DL.y rfl rfl (Y.move) ?_
  refine DL.nil ?_
  show DC _ _ _ _ _ _
  refine DC.block ?_
  refine DC.seq ?_
  refine DC.region ?_
  refine DL.y rfl rfl (Y.asNo F.if80 F.z80 rfl rfl) ?_
  refine DL.y rfl rfl (Y.extract rfl rfl) ?_
  refine DL.y rfl rfl (Y.extract rfl rfl) ?_
  refine DL.nil ?_
  show DC _ _ _ _ _ _
  refine DC.condF rfl ?_
  refine DC.seq ?_
  refine DC.region ?_
  refine DL.y rfl rfl (Y.asNo F.if83 F.z83 rfl rfl) ?_
  refine DL.y rfl rfl (Y.extract rfl rfl) ?_
  refine DL.y rfl rfl (Y.extract rfl rfl) ?_
  refine DL.nil ?_
  show DC _ _ _ _ _ _
  refine DC.condF rfl ?_
  refine DC.seq ?_
  refine DC.region ?_
  refine DL.y rfl rfl (Y.assign) ?_
  refine DL.nil ?_
  show DC _ _ _ _ _ _
  refine DC.seq ?_
  refine DC.region ?_
  refine DL.y rfl rfl (Y.move) ?_
  refine DL.y rfl rfl (Y.build (cs := #[.string ⟨#[107, 101, 121, 115]⟩, .iface 9 (.string s)]) (by kernel_rfl)) ?_
  refine DL.boxA rfl rfl rfl ?_
  intro b14 w1 f2 lo14 hi14 hb14
  replace lo14 := Nat.le_trans FR.size lo14
  replace FR := FR.tr0 f2
  refine DL.y rfl rfl (Y.mkI F.if129) ?_
  refine DL.y rfl rfl (Y.assign) ?_
  refine DL.nil ?_
  show DC _ _ _ _ _ _
  refine DC.ret ?_
  exact FinQ.ret1 rfl (Ret.mk FR ⟨_, rfl⟩)


/-- What funcKeys makes of a value. -/
theorem fk_any {w : World} {D : Nat → Prop} {v : V} {x : Value} (h : GV w D v x) (hG : Good v) (hn : v.nodes ≤ 400) : Calls Tryz.prog 73 #[x] w (Ret w [] fun r w' =>
    ((v.kind = 5 ∨ v.kind = 6) ∧ ∃ b cs, r = .iface 80 (.slice (some ⟨b, 0, none⟩) (leaves v).length (leaves v).length) ∧ w'.heap[b]? = some (.cells cs 20 (0, 0)) ∧ cs.size = (leaves v).length ∧ ∀ (i : Nat) (h : i < (leaves v).length), cs[i]? = some (leaves v)[i].go) ∨
    (¬ (v.kind = 5 ∨ v.kind = 6) ∧ ∃ p, r = .iface 129 (.pointer p))) := by
  have err : ∀ {x : Value} {kd : Int}, ¬ (kd = 5 ∨ kd = 6) → v.kind = kd → Calls Tryz.prog 73 #[x] w (Ret w [] fun r _ => ∃ p, r = .iface 129 (.pointer p)) → Calls Tryz.prog 73 #[x] w (Ret w [] fun r w' =>
      ((v.kind = 5 ∨ v.kind = 6) ∧ ∃ b cs, r = .iface 80 (.slice (some ⟨b, 0, none⟩) (leaves v).length (leaves v).length) ∧ w'.heap[b]? = some (.cells cs 20 (0, 0)) ∧ cs.size = (leaves v).length ∧ ∀ (i : Nat) (h : i < (leaves v).length), cs[i]? = some (leaves v)[i].go) ∨
      (¬ (v.kind = 5 ∨ v.kind = 6) ∧ ∃ p, r = .iface 129 (.pointer p))) := fun hk hv hc => hc.mono fun e w' h => Ret.imp (fun r w1 hf hp => Or.inr ⟨by rw [hv]; exact hk, hp⟩) h
  cases h with
  | null => exact err (kd := 0) (by omega) rfl (fk_nil w)
  | fls => exact err (kd := 1) (by omega) rfl (fk_bool _ w)
  | tru => exact err (kd := 2) (by omega) rfl (fk_bool _ w)
  | whole h => exact err (kd := 3) (by omega) rfl (fk_int _ w)
  | frac h => exact err (kd := 3) (by omega) rfl (fk_float _ w)
  | text => exact err (kd := 4) (by omega) rfl (fk_str _ w)
  | @list half text list keys vals a c xs hr hx =>
    obtain ⟨⟨_, _, _, _, hz4, _, _, _, _, _, _⟩, _, _⟩ := hG
    simp only [V.nodes] at hn
    have hl := length_le_nodesL list
    have hk : keys = [] := List.eq_nil_of_length_eq_zero (by omega)
    subst hk
    refine (fk_list a list.length c (by omega) w).mono fun e w' h => Ret.imp (fun r w1 hf hp => Or.inl ⟨Or.inl rfl, ?_⟩) h
    obtain ⟨b, cs, rfl, _, hb, hz, hc⟩ := hp
    have e1 : leaves (.mk 5 half text list [] vals) = numsL list.length := by simp [leaves, txtsL]
    have e2 : (numsL list.length).length = list.length := by simp [numsL]
    rw [e1]
    refine ⟨b, cs, by rw [e2], hb, by rw [e2]; exact hz, fun i hi => ?_⟩
    rw [hc i (by omega)]
    simp [numsL, Lf.go]
  | @map half text list keys vals r es xs hd hr hs he hx =>
    obtain ⟨⟨_, _, _, hz3, _, hkv, _, _, _, _, hrise⟩, _, _⟩ := hG
    simp only [V.nodes] at hn
    have hl := length_le_nodesL vals
    have hk : list = [] := List.eq_nil_of_length_eq_zero (by omega)
    subst hk
    refine (fk_map keys r es xs w hr hs he hrise (by omega)).mono fun e w' h => Ret.imp (fun r w1 hf hp => Or.inl ⟨Or.inr rfl, ?_⟩) h
    obtain ⟨b, cs, rfl, _, hb, hz, hc⟩ := hp
    have e1 : leaves (.mk 6 half text [] keys vals) = txtsL keys := by simp [leaves, numsL]
    have e2 : (txtsL keys).length = keys.length := by simp [txtsL]
    rw [e1]
    refine ⟨b, cs, by rw [e2], hb, by rw [e2]; exact hz, fun i hi => ?_⟩
    have hi2 : i < keys.length := by omega
    rw [hc i hi2]
    simp [txtsL, Lf.go, List.getD_eq_getElem?_getD, hi2]

end Go.Proofs.YtmbleojlnaofjaaGreatDoor
