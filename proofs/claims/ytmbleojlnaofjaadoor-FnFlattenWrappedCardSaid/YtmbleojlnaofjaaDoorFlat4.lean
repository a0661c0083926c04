/- The walk of mapFromGo. -/
import Derived.Test.YtmbleojlnaofjaaDoorFlat3
namespace Go.Proofs.YtmbleojlnaofjaaDoor
open Go Go.RowKit D Go.Deep
set_option linter.unusedVariables false
set_option linter.unusedSimpArgs false


theorem mapD' {w : World} {VT St B H : Nat} {keys : List ByteArray} {vals : List V} {slk slv : Value} {css : List (Array Value)} (h : KV w VT St B H keys keys.length slk vals keys.length slv css) (hkv : keys.length = vals.length) : KV w VT St B H keys keys.length slk vals vals.length slv css :=
  ⟨h.ko, h.kl, hkv ▸ h.vo⟩

set_option maxHeartbeats 2000000 in
theorem mapFromGo_step (m : Nat) (ih : FromC m) (keys : List ByteArray) (vals : List V) (r : Nat) (es : Array MapEntry) (xs : Nat → Value) (D : Nat → Prop) (w : World) (hm : V.nodesL vals ≤ m) (hm2 : V.nodesL vals ≤ 1000000) (hby : bytesK keys + V.bytesL vals ≤ 1000000) (hkl : keys.length = vals.length)
    (hg : ∀ i (h : i < vals.length), Good vals[i]) (hrise : ∀ i (h : i + 1 < keys.length), Op.bytesLess keys[i].toList keys[i + 1].toList = true) (hmap : w.heap[r]? = some (.map es keys.length)) (hes : es.size = keys.length) (hent : ∀ (i : Nat) (h : i < keys.length), es[i]? = some ⟨.string keys[i], xs i, i⟩)
    (hgv : ∀ (i : Nat) (h : i < vals.length), GV w D vals[i] (xs i)) (hD : ∀ b, D b → b < w.heap.size) :
    Calls Tryd.prog 52 #[.map (some r)] w (Ret w [] fun r w' => ∃ cs, r = .tuple #[.agg cs, .bool true] ∧ RVD w' (fun b => w.heap.size ≤ b ∧ b < w'.heap.size) (.mk 6 0 ⟨#[]⟩ [] keys vals) cs) := by
  have hrl := lt_of_blk hmap
  have hll := length_le_nodesL vals
  have hks : ∀ s ∈ keys, s.size ≤ 1000000 := fun s hs => by have := key_le hs; omega
  have hkn : ∀ (i j : Nat) (hi : i < j) (hj : j < keys.length), keys[i]'(by omega) ≠ keys[j] := fun i j hi hj => rise_ne hrise hi hj
  refine calls_of Tryd.func52 rfl rfl rfl rfl ?_
  have FR := Fr.refl [] w
  refine DC.seq ?_
  refine DC.region ?_
  refine DL.alloc rfl rfl F.z26 rfl ?_
  intro b2 w1 f2 lo2 hi2 hb2
  replace lo2 := Nat.le_trans FR.size lo2
  replace FR := FR.tr0 f2
  replace hmap := f2.blk0 hmap
  replace hgv := fun i h => (hgv i h).fr f2 (by intro b hb hm; have := hD b hb; first | (simp at hm; done) | (simp only [List.mem_singleton] at hm; omega))
  refine DL.y rfl rfl (Y.assign) ?_
  refine DL.nil ?_
  show DC _ _ _ _ _ _
  refine DC.seq ?_
  refine DC.region ?_
  refine DL.y rfl rfl (Y.build (cs := mapC (.slice none 0 0) (.slice none 0 0)) (by kernel_rfl)) ?_
  refine DL.alloc rfl rfl F.z26 rfl ?_
  intro b4 w3 f4 lo4 hi4 hb4
  have lt_b2_b4 : b2 < b4 := Nat.lt_of_lt_of_le hi2 lo4
  replace lo4 := Nat.le_trans FR.size lo4
  replace FR := FR.tr0 f4
  replace hmap := f4.blk0 hmap
  replace hgv := fun i h => (hgv i h).fr f4 (by intro b hb hm; have := hD b hb; first | (simp at hm; done) | (simp only [List.mem_singleton] at hm; omega))
  replace hb2 := f4.blk0 hb2
  replace hi2 := Nat.lt_of_lt_of_le hi2 f4.size
  refine DL.storeA rfl F.ag26 rfl rfl rfl (by kernel_rfl) hb4 rfl ?_
  intro w5 f6 hs7 hb4'
  replace FR := FR.put f6 (by intro i hi; simp only [List.mem_cons, List.mem_singleton, List.not_mem_nil, or_false] at hi; rcases hi with rfl; all_goals (first | (left; simp; done) | (right; omega)))
  replace hmap := f6.blk hmap (by simp only [List.mem_cons, List.not_mem_nil, or_false, not_or]; omega)
  replace hgv := fun i h => (hgv i h).fr f6 (by intro b hb hm; have := hD b hb; first | (simp at hm; done) | (simp only [List.mem_singleton] at hm; omega))
  replace hb2 := f6.blk hb2 (by simp only [List.mem_cons, List.not_mem_nil, or_false, not_or]; omega)
  replace hi2 := Nat.lt_of_lt_of_le hi2 f6.size
  replace hi4 := Nat.lt_of_lt_of_le hi4 f6.size
  replace hb4 := hb4'
  refine DL.nil ?_
  show DC _ _ _ _ _ _
  refine DC.seq ?_
  refine DC.seq ?_
  refine DC.region ?_
  refine DL.y rfl rfl (Y.move) ?_
  have hmap0 := hmap
  refine DL.call rfl rfl F.nm68 rfl (mapsKeys_any (some r) _) ?_
  rintro _ w8 f9 ⟨rfl, hwk⟩
  replace FR := FR.tr0 f9
  replace hmap := f9.blk0 hmap
  replace hgv := fun i h => (hgv i h).fr f9 (by intro b hb hm; have := hD b hb; first | (simp at hm; done) | (simp only [List.mem_singleton] at hm; omega))
  replace hb2 := f9.blk0 hb2
  replace hi2 := Nat.lt_of_lt_of_le hi2 f9.size
  replace hi4 := Nat.lt_of_lt_of_le hi4 f9.size
  replace hb4 := f9.blk0 hb4
  obtain ⟨lk, hlk⟩ : ∃ lk, lk = w8.heap.size := ⟨_, rfl⟩
  have hb4k : b4 < lk := by omega
  have hb2k : b2 < lk := by omega
  refine DL.call rfl rfl F.nm67 rfl (sortedKeys_any hwk hmap0 hes hent hrise (by omega) hks) ?_
  rintro vk w10 f11 hko
  replace FR := FR.tr0 f11
  replace hmap := f11.blk0 hmap
  replace hgv := fun i h => (hgv i h).fr f11 (by intro b hb hm; have := hD b hb; first | (simp at hm; done) | (simp only [List.mem_singleton] at hm; omega))
  replace hb2 := f11.blk0 hb2
  replace hi2 := Nat.lt_of_lt_of_le hi2 f11.size
  replace hi4 := Nat.lt_of_lt_of_le hi4 f11.size
  replace hb4 := f11.blk0 hb4
  obtain ⟨ak, ck, rfl, hkr⟩ := row_keys hko (H := w10.heap.size) (fun b hb => (own_ge hko b (mem_ownL.2 hb)).2)
  obtain ⟨hkk, hhk⟩ : ∃ hkk, hkk = w10.heap.size := ⟨_, rfl⟩
  rw [← hhk, ← hlk] at hkr
  have hlek := Nat.le_of_eq hhk
  refine DL.y rfl rfl (Y.lenS Tryd.underlying24 rfl) ?_
  refine DL.y rfl rfl (Y.move) ?_
  refine DL.nil ?_
  show DC _ _ _ _ _ _
  refine DC.block ?_
  obtain ⟨B0, hB0⟩ : ∃ B0, B0 = w10.heap.size := ⟨_, rfl⟩
  have hB0w := FR.size
  rw [← hB0] at hB0w
  have hb4B : b4 < B0 := by omega
  have hb2B : b2 < B0 := by omega
  have hkkB : hkk ≤ B0 := by omega
  refine DC.loop (σ := Nat × Value × Value × List (Array Value)) [(3, 3), (6, 8), (14, 40)] (fun (k, _, _, _) => [(14, .int .i64 (k : Int))]) (fun sg wl => Fr [b4] w10 wl ∧ (fun (k, sk, sv, css) wl => k ≤ keys.length ∧ wl.heap[b4]? = some (.cells (mapC sk sv) 26 (0, 0)) ∧ KV wl 26 9 B0 wl.heap.size keys k sk vals k sv css) sg wl) (fun (k, _, _, _) => keys.length - k) ((0, .slice none 0 0, .slice none 0 0, [])) rfl ?_ ?_ ?_
  · exact rfl
  · exact ⟨Fr.refl _ _, Nat.zero_le _, hb4, KV.nil _ _ _ _ _ _ _⟩
  · rintro ⟨k, sk, sv, css⟩ j w12 ⟨f13, hk0, hb4, hkv⟩
    replace FR := FR.put f13 (by intro i hi; simp only [List.mem_cons, List.mem_singleton, List.not_mem_nil, or_false] at hi; rcases hi with rfl; all_goals (first | (left; simp; done) | (right; omega)))
    replace hmap := f13.blk hmap (by simp only [List.mem_cons, List.not_mem_nil, or_false, not_or]; omega)
    replace hgv := fun i h => (hgv i h).fr f13 (by intro b hb hm; have := hD b hb; first | (simp at hm; done) | (simp only [List.mem_singleton] at hm; omega))
    replace hb2 := f13.blk hb2 (by simp only [List.mem_cons, List.not_mem_nil, or_false, not_or]; omega)
    replace hi2 := Nat.lt_of_lt_of_le hi2 f13.size
    replace hi4 := Nat.lt_of_lt_of_le hi4 f13.size
    replace hkr := hkr.fr f13 (by intro b hb hm;  first | (simp at hm; done) | (simp only [List.mem_singleton] at hm; omega))
    replace hlek := Nat.le_trans hlek f13.size
    have G14 := f13
    have HG14 := Fr.refl [b4] w12
    refine DC.seq ?_
    refine DC.region ?_
    refine DL.if rfl rfl (Y.lt rfl rfl) (fun c15 => ?_) (fun c15 => ?_)
    · have hk : k < keys.length := by omega
      have hk2 : k < vals.length := by omega
      obtain ⟨bk, ok, rfl, hbk, hkc, hkc1⟩ := hkr k hk
      obtain ⟨H0, hH0⟩ : ∃ H0, H0 = w12.heap.size := ⟨_, rfl⟩
      rw [← hH0] at hkv
      refine DL.nil ?_
      show DC _ _ _ _ _ _
      refine DC.seq ?_
      refine DC.condT rfl ?_
      refine DC.skip ?_
      show DC _ _ _ _ _ _
      refine DC.seq ?_
      refine DC.block ?_
      refine DC.seq ?_
      refine DC.region ?_
      refine DL.y rfl rfl (Y.index F.sl24 rfl rfl (rfl) (hk)) ?_
      refine DL.y rfl rfl (Y.load (v := .string keys[k]) F.sc9 rfl (hkc.cell 0 (v := .string keys[k]) (by simp [strCells, List.getD_eq_getElem?_getD, hk]))) ?_
      refine DL.y rfl rfl (Y.assign) ?_
      refine DL.nil ?_
      show DC _ _ _ _ _ _
      refine DC.seq ?_
      refine DC.region ?_
      refine DL.y rfl rfl (Y.move) ?_
      refine DL.y rfl rfl (Y.move) ?_
      refine DL.y rfl rfl (Y.lookupAt Tryd.underlying66 Tryd.underlying9 rfl hk rfl hmap hes hent hkn) ?_
      obtain ⟨lo, hlo⟩ : ∃ lo, lo = w12.heap.size := ⟨_, rfl⟩
      have hBlo : B0 ≤ lo := by have := G14.size; omega
      have hH0lo : H0 ≤ lo := by have := HG14.size; omega
      refine DL.call rfl rfl F.nm43 rfl (ih _ _ _ _ (by have := nodes_le hk2; omega) (by have := nodes_le hk2; omega) (by have := bytes_le hk2; omega) (hg k hk2) (hgv k hk2) (fun b hb => by have := hD b hb; have := FR.size; omega)) ?_
      rintro _ w15 f16 ⟨ce, rfl, hce⟩
      replace FR := FR.tr0 f16
      replace G14 := G14.tr0 f16
      replace HG14 := HG14.tr0 f16
      replace hmap := f16.blk0 hmap
      replace hgv := fun i h => (hgv i h).fr f16 (by intro b hb hm; have := hD b hb; first | (simp at hm; done) | (simp only [List.mem_singleton] at hm; omega))
      replace hb2 := f16.blk0 hb2
      replace hi2 := Nat.lt_of_lt_of_le hi2 f16.size
      replace hi4 := Nat.lt_of_lt_of_le hi4 f16.size
      replace hkr := hkr.fr f16 (by intro b hb hm;  first | (simp at hm; done) | (simp only [List.mem_singleton] at hm; omega))
      replace hlek := Nat.le_trans hlek f16.size
      replace hb4 := f16.blk0 hb4
      replace hkv := hkv.fr f16 (by intro b hb; first | (simp at hb; done) | (simp only [List.mem_singleton] at hb; omega))
      obtain ⟨hi, hhi⟩ : ∃ hi, hi = w15.heap.size := ⟨_, rfl⟩
      rw [← hlo, ← hhi] at hce
      have hle := Nat.le_of_eq hhi
      have hlohi : lo ≤ hi := by rw [hlo, hhi]; exact f16.size
      refine DL.y rfl rfl (Y.move) ?_
      refine DL.y rfl rfl (Y.extract rfl rfl) ?_
      refine DL.y rfl rfl (Y.extract rfl rfl) ?_
      refine DL.alloc rfl rfl F.z26 rfl ?_
      intro b7 w17 f18 lo7 hi7 hb7
      have lt_b2_b7 : b2 < b7 := Nat.lt_of_lt_of_le hi2 lo7
      have lt_b4_b7 : b4 < b7 := Nat.lt_of_lt_of_le hi4 lo7
      have le_hkk_b7 : hkk ≤ b7 := Nat.le_trans hlek lo7
      have le_hi_b7 : hi ≤ b7 := Nat.le_trans hle lo7
      have lo7G14 := Nat.le_trans G14.size lo7
      have lo7HG14 := Nat.le_trans HG14.size lo7
      replace lo7 := Nat.le_trans FR.size lo7
      replace FR := FR.tr0 f18
      replace G14 := G14.tr0 f18
      replace HG14 := HG14.tr0 f18
      replace hmap := f18.blk0 hmap
      replace hgv := fun i h => (hgv i h).fr f18 (by intro b hb hm; have := hD b hb; first | (simp at hm; done) | (simp only [List.mem_singleton] at hm; omega))
      replace hb2 := f18.blk0 hb2
      replace hi2 := Nat.lt_of_lt_of_le hi2 f18.size
      replace hi4 := Nat.lt_of_lt_of_le hi4 f18.size
      replace hkr := hkr.fr f18 (by intro b hb hm;  first | (simp at hm; done) | (simp only [List.mem_singleton] at hm; omega))
      replace hlek := Nat.le_trans hlek f18.size
      replace hb4 := f18.blk0 hb4
      replace hkv := hkv.fr f18 (by intro b hb; first | (simp at hb; done) | (simp only [List.mem_singleton] at hb; omega))
      replace hce := hce.fr f18 (by intro b hb hm;  first | (simp at hm; done) | (simp only [List.mem_singleton] at hm; omega))
      replace hle := Nat.le_trans hle f18.size
      refine DL.storeA (cs := ce) rfl F.ag26 rfl rfl hce.size hce.one hb7 rfl ?_
      intro w19 f20 hs21 hb7'
      replace FR := FR.put f20 (by intro i hi; simp only [List.mem_cons, List.mem_singleton, List.not_mem_nil, or_false] at hi; rcases hi with rfl; all_goals (first | (left; simp; done) | (right; omega)))
      replace G14 := G14.put f20 (by intro i hi; simp only [List.mem_cons, List.mem_singleton, List.not_mem_nil, or_false] at hi; rcases hi with rfl; all_goals (first | (left; simp; done) | (right; omega)))
      replace HG14 := HG14.put f20 (by intro i hi; simp only [List.mem_cons, List.mem_singleton, List.not_mem_nil, or_false] at hi; rcases hi with rfl; all_goals (first | (left; simp; done) | (right; omega)))
      replace hmap := f20.blk hmap (by simp only [List.mem_cons, List.not_mem_nil, or_false, not_or]; omega)
      replace hgv := fun i h => (hgv i h).fr f20 (by intro b hb hm; have := hD b hb; first | (simp at hm; done) | (simp only [List.mem_singleton] at hm; omega))
      replace hb2 := f20.blk hb2 (by simp only [List.mem_cons, List.not_mem_nil, or_false, not_or]; omega)
      replace hi2 := Nat.lt_of_lt_of_le hi2 f20.size
      replace hi4 := Nat.lt_of_lt_of_le hi4 f20.size
      replace hkr := hkr.fr f20 (by intro b hb hm;  first | (simp at hm; done) | (simp only [List.mem_singleton] at hm; omega))
      replace hlek := Nat.le_trans hlek f20.size
      replace hb4 := f20.blk hb4 (by simp only [List.mem_cons, List.not_mem_nil, or_false, not_or]; omega)
      replace hkv := hkv.fr f20 (by intro b hb; first | (simp at hb; done) | (simp only [List.mem_singleton] at hb; omega))
      replace hce := hce.fr f20 (by intro b hb hm;  first | (simp at hm; done) | (simp only [List.mem_singleton] at hm; omega))
      replace hle := Nat.le_trans hle f20.size
      replace hi7 := Nat.lt_of_lt_of_le hi7 f20.size
      replace hb7 := hb7'
      refine DL.y rfl rfl (Y.assign) ?_
      refine DL.nil ?_
      show DC _ _ _ _ _ _
      refine DC.seq ?_
      refine DC.seq ?_
      refine DC.region ?_
      refine DL.y rfl rfl (Y.move) ?_
      refine DL.y rfl rfl (Y.not rfl) ?_
      refine DL.nil ?_
      show DC _ _ _ _ _ _
      refine DC.condF rfl ?_
      refine DC.skip ?_
      show DC _ _ _ _ _ _
      refine DC.drawn (fun w0 => Fr (ownL sk ++ ownL sv) w0) 11 F.mixed ?_
      intro wd fd hsd
      replace FR := FR.tr0 fd
      replace G14 := G14.tr0 fd
      replace HG14 := HG14.tr0 fd
      replace hmap := fd.blk0 hmap
      replace hgv := fun i h => (hgv i h).fr fd (by intro b hb hm; have := hD b hb; first | (simp at hm; done) | (simp only [List.mem_singleton] at hm; omega))
      replace hb2 := fd.blk0 hb2
      replace hi2 := Nat.lt_of_lt_of_le hi2 fd.size
      replace hi4 := Nat.lt_of_lt_of_le hi4 fd.size
      replace hkr := hkr.fr fd (by intro b hb hm;  first | (simp at hm; done) | (simp only [List.mem_singleton] at hm; omega))
      replace hlek := Nat.le_trans hlek fd.size
      replace hb4 := fd.blk0 hb4
      replace hkv := hkv.fr fd (by intro b hb; first | (simp at hb; done) | (simp only [List.mem_singleton] at hb; omega))
      replace hce := hce.fr fd (by intro b hb hm;  first | (simp at hm; done) | (simp only [List.mem_singleton] at hm; omega))
      replace hle := Nat.le_trans hle fd.size
      replace hi7 := Nat.lt_of_lt_of_le hi7 fd.size
      replace hb7 := fd.blk0 hb7
      refine ⟨Fr.refl _ _, ?_⟩
      have hHd : H0 ≤ wd.heap.size := by have := HG14.size; omega
      have hoL : ∀ i ∈ ownL sk ++ ownL sv, B0 ≤ i ∧ i < H0 := fun i hi => by
        rcases List.mem_append.1 hi with h | h
        · exact ⟨(own_ge hkv.ko i h).1, hkv.kl i (mem_ownL.1 h)⟩
        · exact ⟨(own_ge hkv.vo.own i h).1, (hkv.vo.lt i (mem_ownL.1 h)).1⟩
      have hn4 : b4 ∉ ownL sk ++ ownL sv := fun hm => by have := hoL _ hm; omega
      have hn7 : b7 ∉ ownL sk ++ ownL sv := fun hm => by have := hoL _ hm; omega
      have hkvu := hkv.up hHd
      have hBd : B0 ≤ wd.heap.size := by have := G14.size; omega
      have hoff := off_of (X := fun b => sk.ownBlock = some b) hce (B := B0) (sl := sv) hBlo hle (fun b hb => by have := (hkv.vo.lt b hb).1; omega) (fun b hb => by have := hkv.kl b hb; omega)
      refine DG.with (fun e' w' => ∃ sk' sv', AllEq e' [(4, .pointer (some ⟨b4, 0, none⟩)), (14, .int .i64 (k : Int)), (38, .pointer (some ⟨b4, 4, none⟩)), (32, sk'), (37, sv')] ∧ Fr (ownL sk ++ ownL sv) wd w' ∧ KV w' 26 9 B0 w'.heap.size keys (k + 1) sk' vals (k + 1) sv' (css ++ [ce])) 3 #[true, true, true, true, true, true, true, true, true, true, true, false, false, false] ?_ (fun fin => ?_)
      · rintro e9 w9 ⟨sk', sv', heq, hfr, hk9⟩
        rw [← updL_same heq]
        replace FR := FR.put hfr (fun i hi => Or.inr (by have := hoL i hi; omega))
        replace G14 := G14.put hfr (fun i hi => Or.inr (by have := hoL i hi; omega))
        replace hmap := hfr.blk hmap (fun hm => by have := hoL _ hm; omega)
        replace hgv := fun i h => (hgv i h).fr hfr (fun b hb hm => by have := hD b hb; have := hoL b hm; omega)
        replace hb2 := hfr.blk hb2 (fun hm => by have := hoL _ hm; omega)
        replace hi2 := Nat.lt_of_lt_of_le hi2 hfr.size
        replace hi4 := Nat.lt_of_lt_of_le hi4 hfr.size
        replace hkr := hkr.fr hfr (fun b hb hm => by have := hoL b hm; omega)
        replace hlek := Nat.le_trans hlek hfr.size
        replace hb4 := hfr.blk hb4 (fun hm => by have := hoL _ hm; omega)
        obtain ⟨H9, hH9⟩ : ∃ H9, H9 = w9.heap.size := ⟨_, rfl⟩
        rw [← hH9] at hk9
        have hBH9 : B0 ≤ H9 := by have := hfr.size; omega
        refine DG.pick [11] (by kernel_rfl) (by simp) (fun i hi => ?_)
        obtain rfl := List.mem_singleton.1 hi
        refine ⟨_, rfl, ?_⟩
        refine DL.storeC rfl F.co24 F.in24 rfl rfl (own_one hk9.ko) hb4 (by show 4 < 6; omega) (cs' := mapC sk' sv) rfl ?_
        intro w22 f23 hs24 hb4'
        replace FR := FR.put f23 (by intro i hi; simp only [List.mem_cons, List.mem_singleton, List.not_mem_nil, or_false] at hi; rcases hi with rfl; all_goals (first | (left; simp; done) | (right; omega)))
        replace G14 := G14.put f23 (by intro i hi; simp only [List.mem_cons, List.mem_singleton, List.not_mem_nil, or_false] at hi; rcases hi with rfl; all_goals (first | (left; simp; done) | (right; omega)))
        replace hmap := f23.blk hmap (by simp only [List.mem_cons, List.not_mem_nil, or_false, not_or]; omega)
        replace hgv := fun i h => (hgv i h).fr f23 (by intro b hb hm; have := hD b hb; first | (simp at hm; done) | (simp only [List.mem_singleton] at hm; omega))
        replace hb2 := f23.blk hb2 (by simp only [List.mem_cons, List.not_mem_nil, or_false, not_or]; omega)
        replace hi2 := Nat.lt_of_lt_of_le hi2 f23.size
        replace hi4 := Nat.lt_of_lt_of_le hi4 f23.size
        replace hkr := hkr.fr f23 (by intro b hb hm;  first | (simp at hm; done) | (simp only [List.mem_singleton] at hm; omega))
        replace hlek := Nat.le_trans hlek f23.size
        replace hk9 := hk9.fr f23 (by intro b hb; first | (simp at hb; done) | (simp only [List.mem_singleton] at hb; omega))
        replace hb4 := hb4'
        refine DL.nil ⟨Or.inl (by kernel_rfl), ?_⟩
        refine DG.pick [12] (by kernel_rfl) (by simp) (fun i hi => ?_)
        obtain rfl := List.mem_singleton.1 hi
        refine ⟨_, rfl, ?_⟩
        refine DL.y rfl rfl (Y.field F.fd26_5 rfl) ?_
        refine DL.nil ⟨Or.inl (by kernel_rfl), ?_⟩
        refine DG.pick [13] (by kernel_rfl) (by simp) (fun i hi => ?_)
        obtain rfl := List.mem_singleton.1 hi
        refine ⟨_, rfl, ?_⟩
        refine DL.storeC rfl F.co23 F.in23 rfl rfl (hk9.vo.one) hb4 (by show 5 < 6; omega) (cs' := mapC sk' sv') rfl ?_
        intro w25 f26 hs27 hb4'
        replace FR := FR.put f26 (by intro i hi; simp only [List.mem_cons, List.mem_singleton, List.not_mem_nil, or_false] at hi; rcases hi with rfl; all_goals (first | (left; simp; done) | (right; omega)))
        replace G14 := G14.put f26 (by intro i hi; simp only [List.mem_cons, List.mem_singleton, List.not_mem_nil, or_false] at hi; rcases hi with rfl; all_goals (first | (left; simp; done) | (right; omega)))
        replace hmap := f26.blk hmap (by simp only [List.mem_cons, List.not_mem_nil, or_false, not_or]; omega)
        replace hgv := fun i h => (hgv i h).fr f26 (by intro b hb hm; have := hD b hb; first | (simp at hm; done) | (simp only [List.mem_singleton] at hm; omega))
        replace hb2 := f26.blk hb2 (by simp only [List.mem_cons, List.not_mem_nil, or_false, not_or]; omega)
        replace hi2 := Nat.lt_of_lt_of_le hi2 f26.size
        replace hi4 := Nat.lt_of_lt_of_le hi4 f26.size
        replace hkr := hkr.fr f26 (by intro b hb hm;  first | (simp at hm; done) | (simp only [List.mem_singleton] at hm; omega))
        replace hlek := Nat.le_trans hlek f26.size
        replace hk9 := hk9.fr f26 (by intro b hb; first | (simp at hb; done) | (simp only [List.mem_singleton] at hb; omega))
        replace hb4 := hb4'
        refine DL.nil ⟨Or.inl (by kernel_rfl), ?_⟩
        refine DG.done (by kernel_rfl) ?_
        show DC _ _ _ _ _ _
        refine DC.region ?_
        refine DL.y rfl rfl (Y.addI (c := ((k + 1 : Nat) : Int)) rfl rfl (by omega) (by omega) (by omega)) ?_
        refine DL.y rfl rfl (Y.move) ?_
        refine DL.nil ?_
        exact ⟨(k + 1, sk', sv', css ++ [ce]), ⟨G14, hk, hb4, hk9.up (by omega)⟩, by show keys.length - (k + 1) < keys.length - k; omega, rfl⟩
      refine DG.take 0 rfl (by kernel_rfl) (by kernel_rfl) (by kernel_rfl) (by kernel_rfl) (by kernel_rfl) rfl rfl (fun wq fq => Y.field F.fd26_4 rfl) ?_
      refine DG.take 1 rfl (by kernel_rfl) (by kernel_rfl) (by kernel_rfl) (by kernel_rfl) (by kernel_rfl) rfl rfl (fun wq fq => Y.loadB F.sc24 rfl (fq.blk hb4 hn4) rfl) ?_
      refine DG.take 2 rfl (by kernel_rfl) (by kernel_rfl) (by kernel_rfl) (by kernel_rfl) (by kernel_rfl) rfl rfl (fun wq fq => Y.move) ?_
      refine DG.take 5 rfl (by kernel_rfl) (by kernel_rfl) (by kernel_rfl) (by kernel_rfl) (by kernel_rfl) rfl rfl (fun wq fq => Y.field F.fd26_5 rfl) ?_
      refine DG.take 6 rfl (by kernel_rfl) (by kernel_rfl) (by kernel_rfl) (by kernel_rfl) (by kernel_rfl) rfl rfl (fun wq fq => Y.loadB F.sc23 rfl (fq.blk hb4 hn4) rfl) ?_
      have FS : Fr (ownL sk ++ ownL sv) wd wd := Fr.refl _ _
      refine DG.pick [3, 7] (by kernel_rfl) (by simp) (fun i hi => ?_)
      have hi' : i = 3 ∨ i = 7 := by simpa using hi
      refine hi'.elim (fun hi => ?_) (fun hi => ?_)
      · subst hi
        refine ⟨_, rfl, ?_⟩
        refine DL.buildSl1 (cs := #[.string keys[k]]) rfl rfl F.el24 rfl rfl rfl ?_
        intro b31 w28 f29 lob31 hib31 hb31
        replace hkvu := (hkvu.fr f29 (by simp)).up f29.size
        replace hoff := off_new hoff f29
        have wdb31 := Nat.le_trans FS.size lob31
        replace FS := FS.tr0 f29
        replace hb7 := f29.blk0 hb7
        refine DL.nil ⟨Or.inr FS, ?_⟩
        refine DG.pick [4, 7] (by kernel_rfl) (by simp) (fun i hi => ?_)
        have hi' : i = 4 ∨ i = 7 := by simpa using hi
        refine hi'.elim (fun hi => ?_) (fun hi => ?_)
        · subst hi
          refine ⟨_, rfl, ?_⟩
          refine DL.appendAt rfl rfl F.el24 rfl rfl hkvu.ko (.ofBlk hb31) rfl (by kernel_rfl) (by omega) (by omega) (by have := FS.size; omega) ?_
          intro sk' w30 f31 ho hat
          replace hb7 := f31.blk hb7 (fun hm => hn7 (List.mem_append_left _ hm))
          replace hkvu := hkvu.addK hk f31 ho hat
          replace hoff := off_addK hoff f31 hat
          replace FS := FS.put f31 (fun i hi => Or.inl (List.mem_append_left _ hi))
          refine DL.nil ⟨Or.inr FS, ?_⟩
          refine DG.take 10 rfl (by kernel_rfl) (by kernel_rfl) (by kernel_rfl) (by kernel_rfl) (by kernel_rfl) rfl rfl (fun wq fq => Y.field F.fd26_4 rfl) ?_
          refine DG.pick [7] (by kernel_rfl) (by simp) (fun i hi => ?_)
          obtain rfl := List.mem_singleton.1 hi
          refine ⟨_, rfl, ?_⟩
          refine DL.y rfl rfl (Y.loadW rfl hb7 (by rw [hce.size]; exact F.ag26)) ?_
          refine DL.nil ⟨Or.inr FS, ?_⟩
          refine DG.pick [8] (by kernel_rfl) (by simp) (fun i hi => ?_)
          obtain rfl := List.mem_singleton.1 hi
          refine ⟨_, rfl, ?_⟩
          refine DL.buildSl1 (cs := ce) rfl rfl F.el23 rfl rfl hce.size ?_
          intro b36 w34 f35 lob36 hib36 hb36
          replace hkvu := (hkvu.fr f35 (by simp)).up f35.size
          replace hoff := off_new hoff f35
          have wdb36 := Nat.le_trans FS.size lob36
          replace FS := FS.tr0 f35
          refine DL.nil ⟨Or.inr FS, ?_⟩
          refine DG.pick [9] (by kernel_rfl) (by simp) (fun i hi => ?_)
          obtain rfl := List.mem_singleton.1 hi
          refine ⟨_, rfl, ?_⟩
          refine DL.appendAt rfl rfl F.el23 rfl rfl hkvu.vo.own (.ofBlk hb36) hce.size hce.one (by omega) (by omega) (by have := FS.size; omega) ?_
          intro sv' w36 f37 ho hat
          replace hkvu := hkvu.addV hk2 hoff f37 ho hat
          replace FS := FS.put f37 (fun i hi => Or.inl (List.mem_append_right _ hi))
          refine DL.nil ⟨Or.inr FS, ?_⟩
          exact fin _ _ _ rfl ⟨_, _, ⟨rfl, rfl, rfl, rfl, rfl⟩, FS, hkvu⟩
        · subst hi
          refine ⟨_, rfl, ?_⟩
          refine DL.y rfl rfl (Y.loadW rfl hb7 (by rw [hce.size]; exact F.ag26)) ?_
          refine DL.nil ⟨Or.inr FS, ?_⟩
          refine DG.pick [4, 8] (by kernel_rfl) (by simp) (fun i hi => ?_)
          have hi' : i = 4 ∨ i = 8 := by simpa using hi
          refine hi'.elim (fun hi => ?_) (fun hi => ?_)
          · subst hi
            refine ⟨_, rfl, ?_⟩
            refine DL.appendAt rfl rfl F.el24 rfl rfl hkvu.ko (.ofBlk hb31) rfl (by kernel_rfl) (by omega) (by omega) (by have := FS.size; omega) ?_
            intro sk' w40 f41 ho hat
            replace hkvu := hkvu.addK hk f41 ho hat
            replace hoff := off_addK hoff f41 hat
            replace FS := FS.put f41 (fun i hi => Or.inl (List.mem_append_left _ hi))
            refine DL.nil ⟨Or.inr FS, ?_⟩
            refine DG.take 10 rfl (by kernel_rfl) (by kernel_rfl) (by kernel_rfl) (by kernel_rfl) (by kernel_rfl) rfl rfl (fun wq fq => Y.field F.fd26_4 rfl) ?_
            refine DG.pick [8] (by kernel_rfl) (by simp) (fun i hi => ?_)
            obtain rfl := List.mem_singleton.1 hi
            refine ⟨_, rfl, ?_⟩
            refine DL.buildSl1 (cs := ce) rfl rfl F.el23 rfl rfl hce.size ?_
            intro b36 w42 f43 lob36 hib36 hb36
            replace hkvu := (hkvu.fr f43 (by simp)).up f43.size
            replace hoff := off_new hoff f43
            have wdb36 := Nat.le_trans FS.size lob36
            replace FS := FS.tr0 f43
            refine DL.nil ⟨Or.inr FS, ?_⟩
            refine DG.pick [9] (by kernel_rfl) (by simp) (fun i hi => ?_)
            obtain rfl := List.mem_singleton.1 hi
            refine ⟨_, rfl, ?_⟩
            refine DL.appendAt rfl rfl F.el23 rfl rfl hkvu.vo.own (.ofBlk hb36) hce.size hce.one (by omega) (by omega) (by have := FS.size; omega) ?_
            intro sv' w44 f45 ho hat
            replace hkvu := hkvu.addV hk2 hoff f45 ho hat
            replace FS := FS.put f45 (fun i hi => Or.inl (List.mem_append_right _ hi))
            refine DL.nil ⟨Or.inr FS, ?_⟩
            exact fin _ _ _ rfl ⟨_, _, ⟨rfl, rfl, rfl, rfl, rfl⟩, FS, hkvu⟩
          · subst hi
            refine ⟨_, rfl, ?_⟩
            refine DL.buildSl1 (cs := ce) rfl rfl F.el23 rfl rfl hce.size ?_
            intro b36 w46 f47 lob36 hib36 hb36
            replace hkvu := (hkvu.fr f47 (by simp)).up f47.size
            replace hoff := off_new hoff f47
            have wdb36 := Nat.le_trans FS.size lob36
            replace FS := FS.tr0 f47
            replace hb31 := f47.blk0 hb31
            refine DL.nil ⟨Or.inr FS, ?_⟩
            refine DG.pick [4] (by kernel_rfl) (by simp) (fun i hi => ?_)
            obtain rfl := List.mem_singleton.1 hi
            refine ⟨_, rfl, ?_⟩
            refine DL.appendAt rfl rfl F.el24 rfl rfl hkvu.ko (.ofBlk hb31) rfl (by kernel_rfl) (by omega) (by omega) (by have := FS.size; omega) ?_
            intro sk' w48 f49 ho hat
            replace hb36 := f49.blk hb36 (fun hm => by have := hoL _ (List.mem_append_left _ hm); omega)
            replace hkvu := hkvu.addK hk f49 ho hat
            replace hoff := off_addK hoff f49 hat
            replace FS := FS.put f49 (fun i hi => Or.inl (List.mem_append_left _ hi))
            refine DL.nil ⟨Or.inr FS, ?_⟩
            refine DG.take 10 rfl (by kernel_rfl) (by kernel_rfl) (by kernel_rfl) (by kernel_rfl) (by kernel_rfl) rfl rfl (fun wq fq => Y.field F.fd26_4 rfl) ?_
            refine DG.pick [9] (by kernel_rfl) (by simp) (fun i hi => ?_)
            obtain rfl := List.mem_singleton.1 hi
            refine ⟨_, rfl, ?_⟩
            refine DL.appendAt rfl rfl F.el23 rfl rfl hkvu.vo.own (.ofBlk hb36) hce.size hce.one (by omega) (by omega) (by have := FS.size; omega) ?_
            intro sv' w50 f51 ho hat
            replace hkvu := hkvu.addV hk2 hoff f51 ho hat
            replace FS := FS.put f51 (fun i hi => Or.inl (List.mem_append_right _ hi))
            refine DL.nil ⟨Or.inr FS, ?_⟩
            exact fin _ _ _ rfl ⟨_, _, ⟨rfl, rfl, rfl, rfl, rfl⟩, FS, hkvu⟩
      · subst hi
        refine ⟨_, rfl, ?_⟩
        refine DL.y rfl rfl (Y.loadW rfl hb7 (by rw [hce.size]; exact F.ag26)) ?_
        refine DL.nil ⟨Or.inr FS, ?_⟩
        refine DG.pick [3, 8] (by kernel_rfl) (by simp) (fun i hi => ?_)
        have hi' : i = 3 ∨ i = 8 := by simpa using hi
        refine hi'.elim (fun hi => ?_) (fun hi => ?_)
        · subst hi
          refine ⟨_, rfl, ?_⟩
          refine DL.buildSl1 (cs := #[.string keys[k]]) rfl rfl F.el24 rfl rfl rfl ?_
          intro b31 w54 f55 lob31 hib31 hb31
          replace hkvu := (hkvu.fr f55 (by simp)).up f55.size
          replace hoff := off_new hoff f55
          have wdb31 := Nat.le_trans FS.size lob31
          replace FS := FS.tr0 f55
          refine DL.nil ⟨Or.inr FS, ?_⟩
          refine DG.pick [4, 8] (by kernel_rfl) (by simp) (fun i hi => ?_)
          have hi' : i = 4 ∨ i = 8 := by simpa using hi
          refine hi'.elim (fun hi => ?_) (fun hi => ?_)
          · subst hi
            refine ⟨_, rfl, ?_⟩
            refine DL.appendAt rfl rfl F.el24 rfl rfl hkvu.ko (.ofBlk hb31) rfl (by kernel_rfl) (by omega) (by omega) (by have := FS.size; omega) ?_
            intro sk' w56 f57 ho hat
            replace hkvu := hkvu.addK hk f57 ho hat
            replace hoff := off_addK hoff f57 hat
            replace FS := FS.put f57 (fun i hi => Or.inl (List.mem_append_left _ hi))
            refine DL.nil ⟨Or.inr FS, ?_⟩
            refine DG.take 10 rfl (by kernel_rfl) (by kernel_rfl) (by kernel_rfl) (by kernel_rfl) (by kernel_rfl) rfl rfl (fun wq fq => Y.field F.fd26_4 rfl) ?_
            refine DG.pick [8] (by kernel_rfl) (by simp) (fun i hi => ?_)
            obtain rfl := List.mem_singleton.1 hi
            refine ⟨_, rfl, ?_⟩
            refine DL.buildSl1 (cs := ce) rfl rfl F.el23 rfl rfl hce.size ?_
            intro b36 w58 f59 lob36 hib36 hb36
            replace hkvu := (hkvu.fr f59 (by simp)).up f59.size
            replace hoff := off_new hoff f59
            have wdb36 := Nat.le_trans FS.size lob36
            replace FS := FS.tr0 f59
            refine DL.nil ⟨Or.inr FS, ?_⟩
            refine DG.pick [9] (by kernel_rfl) (by simp) (fun i hi => ?_)
            obtain rfl := List.mem_singleton.1 hi
            refine ⟨_, rfl, ?_⟩
            refine DL.appendAt rfl rfl F.el23 rfl rfl hkvu.vo.own (.ofBlk hb36) hce.size hce.one (by omega) (by omega) (by have := FS.size; omega) ?_
            intro sv' w60 f61 ho hat
            replace hkvu := hkvu.addV hk2 hoff f61 ho hat
            replace FS := FS.put f61 (fun i hi => Or.inl (List.mem_append_right _ hi))
            refine DL.nil ⟨Or.inr FS, ?_⟩
            exact fin _ _ _ rfl ⟨_, _, ⟨rfl, rfl, rfl, rfl, rfl⟩, FS, hkvu⟩
          · subst hi
            refine ⟨_, rfl, ?_⟩
            refine DL.buildSl1 (cs := ce) rfl rfl F.el23 rfl rfl hce.size ?_
            intro b36 w62 f63 lob36 hib36 hb36
            replace hkvu := (hkvu.fr f63 (by simp)).up f63.size
            replace hoff := off_new hoff f63
            have wdb36 := Nat.le_trans FS.size lob36
            replace FS := FS.tr0 f63
            replace hb31 := f63.blk0 hb31
            refine DL.nil ⟨Or.inr FS, ?_⟩
            refine DG.pick [4] (by kernel_rfl) (by simp) (fun i hi => ?_)
            obtain rfl := List.mem_singleton.1 hi
            refine ⟨_, rfl, ?_⟩
            refine DL.appendAt rfl rfl F.el24 rfl rfl hkvu.ko (.ofBlk hb31) rfl (by kernel_rfl) (by omega) (by omega) (by have := FS.size; omega) ?_
            intro sk' w64 f65 ho hat
            replace hb36 := f65.blk hb36 (fun hm => by have := hoL _ (List.mem_append_left _ hm); omega)
            replace hkvu := hkvu.addK hk f65 ho hat
            replace hoff := off_addK hoff f65 hat
            replace FS := FS.put f65 (fun i hi => Or.inl (List.mem_append_left _ hi))
            refine DL.nil ⟨Or.inr FS, ?_⟩
            refine DG.take 10 rfl (by kernel_rfl) (by kernel_rfl) (by kernel_rfl) (by kernel_rfl) (by kernel_rfl) rfl rfl (fun wq fq => Y.field F.fd26_4 rfl) ?_
            refine DG.pick [9] (by kernel_rfl) (by simp) (fun i hi => ?_)
            obtain rfl := List.mem_singleton.1 hi
            refine ⟨_, rfl, ?_⟩
            refine DL.appendAt rfl rfl F.el23 rfl rfl hkvu.vo.own (.ofBlk hb36) hce.size hce.one (by omega) (by omega) (by have := FS.size; omega) ?_
            intro sv' w66 f67 ho hat
            replace hkvu := hkvu.addV hk2 hoff f67 ho hat
            replace FS := FS.put f67 (fun i hi => Or.inl (List.mem_append_right _ hi))
            refine DL.nil ⟨Or.inr FS, ?_⟩
            exact fin _ _ _ rfl ⟨_, _, ⟨rfl, rfl, rfl, rfl, rfl⟩, FS, hkvu⟩
        · subst hi
          refine ⟨_, rfl, ?_⟩
          refine DL.buildSl1 (cs := ce) rfl rfl F.el23 rfl rfl hce.size ?_
          intro b36 w68 f69 lob36 hib36 hb36
          replace hkvu := (hkvu.fr f69 (by simp)).up f69.size
          replace hoff := off_new hoff f69
          have wdb36 := Nat.le_trans FS.size lob36
          replace FS := FS.tr0 f69
          refine DL.nil ⟨Or.inr FS, ?_⟩
          refine DG.pick [3] (by kernel_rfl) (by simp) (fun i hi => ?_)
          obtain rfl := List.mem_singleton.1 hi
          refine ⟨_, rfl, ?_⟩
          refine DL.buildSl1 (cs := #[.string keys[k]]) rfl rfl F.el24 rfl rfl rfl ?_
          intro b31 w70 f71 lob31 hib31 hb31
          replace hkvu := (hkvu.fr f71 (by simp)).up f71.size
          replace hoff := off_new hoff f71
          have wdb31 := Nat.le_trans FS.size lob31
          replace FS := FS.tr0 f71
          replace hb36 := f71.blk0 hb36
          refine DL.nil ⟨Or.inr FS, ?_⟩
          refine DG.pick [4] (by kernel_rfl) (by simp) (fun i hi => ?_)
          obtain rfl := List.mem_singleton.1 hi
          refine ⟨_, rfl, ?_⟩
          refine DL.appendAt rfl rfl F.el24 rfl rfl hkvu.ko (.ofBlk hb31) rfl (by kernel_rfl) (by omega) (by omega) (by have := FS.size; omega) ?_
          intro sk' w72 f73 ho hat
          replace hb36 := f73.blk hb36 (fun hm => by have := hoL _ (List.mem_append_left _ hm); omega)
          replace hkvu := hkvu.addK hk f73 ho hat
          replace hoff := off_addK hoff f73 hat
          replace FS := FS.put f73 (fun i hi => Or.inl (List.mem_append_left _ hi))
          refine DL.nil ⟨Or.inr FS, ?_⟩
          refine DG.take 10 rfl (by kernel_rfl) (by kernel_rfl) (by kernel_rfl) (by kernel_rfl) (by kernel_rfl) rfl rfl (fun wq fq => Y.field F.fd26_4 rfl) ?_
          refine DG.pick [9] (by kernel_rfl) (by simp) (fun i hi => ?_)
          obtain rfl := List.mem_singleton.1 hi
          refine ⟨_, rfl, ?_⟩
          refine DL.appendAt rfl rfl F.el23 rfl rfl hkvu.vo.own (.ofBlk hb36) hce.size hce.one (by omega) (by omega) (by have := FS.size; omega) ?_
          intro sv' w74 f75 ho hat
          replace hkvu := hkvu.addV hk2 hoff f75 ho hat
          replace FS := FS.put f75 (fun i hi => Or.inl (List.mem_append_right _ hi))
          refine DL.nil ⟨Or.inr FS, ?_⟩
          exact fin _ _ _ rfl ⟨_, _, ⟨rfl, rfl, rfl, rfl, rfl⟩, FS, hkvu⟩
    · refine DL.nil ?_
      show DC _ _ _ _ _ _
      refine DC.seq ?_
      refine DC.condF rfl ?_
      refine DC.exit ?_
      show DC _ _ _ _ _ _
      refine DC.seq ?_
      refine DC.region ?_
      refine DL.y rfl rfl (Y.loadW rfl hb4 F.ag26) ?_
      refine DL.storeA rfl F.ag26 rfl rfl rfl (map_one (own_sl hkv.ko) (own_sl hkv.vo.own)) hb2 rfl ?_
      intro w76 f77 hs78 hb2'
      replace FR := FR.put f77 (by intro i hi; simp only [List.mem_cons, List.mem_singleton, List.not_mem_nil, or_false] at hi; rcases hi with rfl; all_goals (first | (left; simp; done) | (right; omega)))
      replace hmap := f77.blk hmap (by simp only [List.mem_cons, List.not_mem_nil, or_false, not_or]; omega)
      replace hgv := fun i h => (hgv i h).fr f77 (by intro b hb hm; have := hD b hb; first | (simp at hm; done) | (simp only [List.mem_singleton] at hm; omega))
      replace hi2 := Nat.lt_of_lt_of_le hi2 f77.size
      replace hi4 := Nat.lt_of_lt_of_le hi4 f77.size
      replace hkr := hkr.fr f77 (by intro b hb hm;  first | (simp at hm; done) | (simp only [List.mem_singleton] at hm; omega))
      replace hlek := Nat.le_trans hlek f77.size
      replace hb4 := f77.blk hb4 (by simp only [List.mem_cons, List.not_mem_nil, or_false, not_or]; omega)
      replace hkv := hkv.fr f77 (by intro b hb; first | (simp at hb; done) | (simp only [List.mem_singleton] at hb; omega))
      replace hb2 := hb2'
      refine DL.y rfl rfl (Y.assign) ?_
      refine DL.nil ?_
      show DC _ _ _ _ _ _
      refine DC.ret ?_
      have hke : k = keys.length := by omega
      subst hke
      exact FinQ.retCT rfl (cs := mapC sk sv) F.ag26 (.ofBlk hb2) rfl (Ret.mk FR ⟨_, rfl, (mapD (mapD' hkv hkl) (by omega) (by omega) hks).mono (fun b hb => ⟨by omega, by omega⟩)⟩)

end Go.Proofs.YtmbleojlnaofjaaDoor
