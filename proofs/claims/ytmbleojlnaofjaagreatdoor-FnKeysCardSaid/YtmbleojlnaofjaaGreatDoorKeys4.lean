/- The walks of gojq's keys and funcKeys. -/
import Derived.Test.YtmbleojlnaofjaaGreatDoorKeys3
import Derived.Test.YtmbleojlnaofjaaGreatDoorKeys2
namespace Go.Proofs.YtmbleojlnaofjaaGreatDoor
open Go Go.RowKit D Go.Sort Go.Proofs Go.Deep
set_option linter.unusedVariables false
set_option linter.unusedSimpArgs false


theorem els_any : elemT Tryz.prog 24 9 (.string ⟨#[]⟩) 16 := ⟨Tryz.underlying24, by kernel_rfl⟩
theorem eli_any : elemT Tryz.prog 80 20 .nilIface 16 := ⟨Tryz.underlying80, by kernel_rfl⟩

theorem gkeys_any (keys : List ByteArray) (r : Nat) (es : Array MapEntry) (xs : Nat → Value) (w : World) (hmap : w.heap[r]? = some (.map es keys.length)) (hes : es.size = keys.length) (hent : ∀ (i : Nat) (h : i < keys.length), es[i]? = some ⟨.string keys[i], xs i, i⟩)
    (hrise : ∀ i (h : i + 1 < keys.length), Op.bytesLess keys[i].toList keys[i + 1].toList = true) (hn : keys.length ≤ 1000000) :
    Calls Tryz.prog 122 #[.map (some r)] w (Ret w [] fun v w' => ∃ b, v = .slice (some ⟨b, 0, none⟩) keys.length keys.length ∧ w.heap.size ≤ b ∧ b < w'.heap.size ∧ w'.heap[b]? = some (.cells (keys.map Value.string).toArray 9 (0, 0))) := by
  have hrl := lt_of_blk hmap
  have hold : ∀ x ∈ es.toList, x.born < keys.length := fun x hx => by
    obtain ⟨i, hi, he⟩ := List.getElem_of_mem hx
    have hi2 : i < es.size := by simpa using hi
    have h1 := hent i (by omega)
    rw [Array.getElem?_eq_getElem hi2] at h1
    have h2 : es[i] = x := by rw [← he]; simp
    rw [h2] at h1
    cases h1; show i < keys.length; omega
  have hnd : (es.toList.map (·.born)).Nodup := by
    have e : es.toList.map (·.born) = List.range keys.length := by
      apply List.ext_getElem
      · simp [hes]
      · intro i h1 h2
        have hi : i < keys.length := by simpa using h2
        have h3 := hent i hi
        rw [Array.getElem?_eq_getElem (by omega)] at h3
        simp only [Option.some.injEq] at h3
        simp [h3]
    rw [e]; exact List.nodup_range
  refine calls_of Tryz.func122 rfl rfl rfl rfl ?_
  have FR := Fr.refl [] w
  refine DC.seq ?_
  refine DC.region ?_
  refine DL.y rfl rfl (Y.assign) ?_
  refine DL.nil ?_
  show DC _ _ _ _ _ _
  refine DC.seq ?_
  refine DC.region ?_
  refine DL.y rfl rfl (Y.move) ?_
  refine DL.y rfl rfl (hes ▸ Y.lenMap Tryz.underlying83 rfl hmap) ?_
  refine DL.makeS rfl rfl els_any rfl rfl rfl (by omega) (by omega) ?_
  intro b8 w1 cs0 f2 lo8 hi8 hb8 hz0 hc0
  replace lo8 := Nat.le_trans FR.size lo8
  replace FR := FR.tr0 f2
  replace hmap := f2.blk0 hmap
  refine DL.y rfl rfl (Y.assign) ?_
  refine DL.nil ?_
  show DC _ _ _ _ _ _
  refine DC.seq ?_
  refine DC.region ?_
  refine DL.y rfl rfl (Y.assign) ?_
  refine DL.nil ?_
  show DC _ _ _ _ _ _
  refine DC.seq ?_
  refine DC.seq ?_
  refine DC.region ?_
  refine DL.y rfl rfl (Y.move) ?_
  refine DL.rangeMap rfl rfl Tryz.underlying83 rfl hmap ?_
  intro b10 w3 f4 lo10 hi10 hb10
  have lt_b8_b10 : b8 < b10 := Nat.lt_of_lt_of_le hi8 lo10
  replace lo10 := Nat.le_trans FR.size lo10
  replace FR := FR.tr0 f4
  replace hmap := f4.blk0 hmap
  replace hb8 := f4.blk0 hb8
  replace hi8 := Nat.lt_of_lt_of_le hi8 f4.size
  refine DL.nil ?_
  show DC _ _ _ _ _ _
  refine DC.block ?_
  refine DC.loop (σ := Nat × List Nat × Array Value) [(4, 5), (11, 20)] (fun (k, _, _) => [(4, .int .i64 (k : Int))]) (fun sg wl => Fr [b8, b10] w3 wl ∧ (fun (k, seen, cs) wl => k ≤ keys.length ∧ wl.heap[b10]? = some (.mapIter (some r) keys.length seen.toArray keys.length) ∧ wl.heap[b8]? = some (.cells cs 9 (0, 0)) ∧ cs.size = keys.length ∧ seen.length = k ∧ seen.Nodup ∧ (∀ x ∈ seen, x < keys.length) ∧ ∀ j (h : j < seen.length), cs[j]? = some (encStr (keyB keys seen[j]))) sg wl) (fun (k, _, _) => keys.length - k) ((0, [], cs0)) rfl ?_ ?_ ?_
  · exact rfl
  · exact ⟨Fr.refl _ _, Nat.zero_le _, hb10, hb8, hz0, rfl, List.nodup_nil, (fun x hx => by cases hx), (fun j h => by cases h)⟩
  · rintro ⟨k, seen, cs⟩ j w5 ⟨f6, hk0, hb10, hb8, hcz, hsk, hsn, hsl, hcj⟩
    replace FR := FR.put f6 (by intro i hi; simp only [List.mem_cons, List.mem_singleton, List.not_mem_nil, or_false] at hi; rcases hi with rfl | rfl; all_goals (first | (left; simp; done) | (right; omega)))
    replace hmap := f6.blk hmap (by simp only [List.mem_cons, List.not_mem_nil, or_false, not_or]; omega)
    replace hi8 := Nat.lt_of_lt_of_le hi8 f6.size
    replace hi10 := Nat.lt_of_lt_of_le hi10 f6.size
    have G7 := f6
    have HG7 := Fr.refl [b8, b10] w5
    refine DC.seq ?_
    refine DC.region ?_
    refine DL.nextMap rfl rfl rfl hb10 hmap hold (fun hz => ?_) (fun en w8 hen f9 hs10 hb10' => ?_)
    · refine DL.y rfl rfl (Y.extract rfl rfl) ?_
      refine DL.nil ?_
      show DC _ _ _ _ _ _
      refine DC.seq ?_
      refine DC.condF rfl ?_
      refine DC.exit ?_
      show DC _ _ _ _ _ _
      refine DC.seq ?_
      refine DC.region ?_
      have hkn : k = keys.length ∧ (seen.map (keyB keys)).Perm (keysB keys) := by
        have hall : ∀ i, i < keys.length → i ∈ seen := fun i hi => by
          have h1 := left_none hz (en := ⟨.string keys[i], xs i, i⟩) (by have := hent i hi; rw [← Array.getElem?_toList] at this; exact List.mem_of_getElem? this)
          simpa using h1
        have hp : seen.Perm (List.range keys.length) := (List.perm_ext_iff_of_nodup hsn List.nodup_range).2 (fun x => ⟨fun h => List.mem_range.2 (hsl x h), fun h => hall x (List.mem_range.1 h)⟩)
        refine ⟨by have := hp.length_eq; simp at this; omega, ?_⟩
        have h2 := hp.map (keyB keys)
        rwa [keyB_range] at h2
      obtain ⟨hkn, hperm⟩ := hkn
      have hcse : cs = ((seen.map (keyB keys)).map encStr).toArray := by
        apply Array.ext_getElem?
        intro i
        by_cases hi : i < seen.length
        · rw [hcj i hi]; simp [hi]
        · rw [Array.getElem?_eq_none (by omega)]; simp [hi]
      have hsl2 : (seen.map (keyB keys)).length = keys.length := by simp; omega
      refine DL.y rfl rfl (Y.move) ?_
      refine DL.call rfl rfl F.nm144 rfl (hsl2 ▸ sort_any (cap := keys.length) hb8 hcse hperm hrise (by omega)) ?_
      rintro _ w10 f11 ⟨rfl, hb8⟩
      replace FR := FR.put f11 (by intro i hi; simp only [List.mem_cons, List.mem_singleton, List.not_mem_nil, or_false] at hi; rcases hi with rfl; all_goals (first | (left; simp; done) | (right; omega)))
      replace G7 := G7.put f11 (by intro i hi; simp only [List.mem_cons, List.mem_singleton, List.not_mem_nil, or_false] at hi; rcases hi with rfl; all_goals (first | (left; simp; done) | (right; omega)))
      replace HG7 := HG7.put f11 (by intro i hi; simp only [List.mem_cons, List.mem_singleton, List.not_mem_nil, or_false] at hi; rcases hi with rfl; all_goals (first | (left; simp; done) | (right; omega)))
      replace hmap := f11.blk hmap (by simp only [List.mem_cons, List.not_mem_nil, or_false, not_or]; omega)
      replace hi8 := Nat.lt_of_lt_of_le hi8 f11.size
      replace hi10 := Nat.lt_of_lt_of_le hi10 f11.size
      replace hb10 := f11.blk hb10 (by simp only [List.mem_cons, List.not_mem_nil, or_false, not_or]; omega)
      refine DL.nil ?_
      show DC _ _ _ _ _ _
      refine DC.seq ?_
      refine DC.region ?_
      refine DL.y rfl rfl (Y.move) ?_
      refine DL.y rfl rfl (Y.assign) ?_
      refine DL.nil ?_
      show DC _ _ _ _ _ _
      refine DC.ret ?_
      exact FinQ.ret1 rfl (Ret.mk FR ⟨b8, rfl, lo8, hi8, hb8⟩)
    · replace FR := FR.put f9 (by intro i hi; simp only [List.mem_cons, List.mem_singleton, List.not_mem_nil, or_false] at hi; rcases hi with rfl; all_goals (first | (left; simp; done) | (right; omega)))
      replace G7 := G7.put f9 (by intro i hi; simp only [List.mem_cons, List.mem_singleton, List.not_mem_nil, or_false] at hi; rcases hi with rfl; all_goals (first | (left; simp; done) | (right; omega)))
      replace HG7 := HG7.put f9 (by intro i hi; simp only [List.mem_cons, List.mem_singleton, List.not_mem_nil, or_false] at hi; rcases hi with rfl; all_goals (first | (left; simp; done) | (right; omega)))
      replace hmap := f9.blk hmap (by simp only [List.mem_cons, List.not_mem_nil, or_false, not_or]; omega)
      replace hi8 := Nat.lt_of_lt_of_le hi8 f9.size
      replace hi10 := Nat.lt_of_lt_of_le hi10 f9.size
      replace hb8 := f9.blk hb8 (by simp only [List.mem_cons, List.not_mem_nil, or_false, not_or]; omega)
      replace hb10 := hb10'
      obtain ⟨hmem, hns⟩ := left_mem hen
      obtain ⟨i, hi, hen'⟩ : ∃ i, ∃ hi : i < keys.length, es[i]? = some en := by
        obtain ⟨i, hi, he⟩ := List.getElem_of_mem hmem
        have hi2 : i < es.size := by simpa using hi
        exact ⟨i, by omega, by rw [Array.getElem?_eq_getElem hi2, ← he]; simp⟩
      obtain ⟨key, val, born⟩ := en
      have hx := (hent i hi).symm.trans hen'
      simp only [Option.some.injEq, MapEntry.mk.injEq] at hx
      obtain ⟨rfl, rfl, rfl⟩ := hx
      have hns : i ∉ seen := by simpa using hns
      have hkn : k < keys.length := by
        have h1 := nodup_bound keys.length (seen ++ [i]) (List.nodup_append.2 ⟨hsn, by simp, by intro a ha b hb e; simp at hb; subst hb; subst e; exact hns ha⟩) (fun x hx => by rcases List.mem_append.1 hx with h | h; exact hsl x h; simp at h; omega)
        simp only [List.length_append, List.length_singleton] at h1
        omega
      refine DL.y rfl rfl (Y.extract rfl rfl) ?_
      refine DL.nil ?_
      show DC _ _ _ _ _ _
      refine DC.seq ?_
      refine DC.condT rfl ?_
      refine DC.skip ?_
      show DC _ _ _ _ _ _
      refine DC.block ?_
      refine DC.seq ?_
      refine DC.region ?_
      refine DL.y rfl rfl (Y.entry rfl hb10 hmap hmem hnd) ?_
      refine DL.y rfl rfl (Y.extract rfl rfl) ?_
      refine DL.y rfl rfl (Y.assign) ?_
      refine DL.nil ?_
      show DC _ _ _ _ _ _
      refine DC.seq ?_
      refine DC.region ?_
      refine DL.y rfl rfl (Y.move) ?_
      refine DL.y rfl rfl (Y.move) ?_
      refine DL.y rfl rfl (Y.move) ?_
      refine DL.y rfl rfl (Y.index F.sl24 rfl rfl (rfl) (hkn)) ?_
      refine DL.storeP rfl F.co9 F.in9 rfl rfl rfl hb8 (by omega) ?_
      intro w12 f13 hs14 hb8'
      replace FR := FR.put f13 (by intro i hi; simp only [List.mem_cons, List.mem_singleton, List.not_mem_nil, or_false] at hi; rcases hi with rfl; all_goals (first | (left; simp; done) | (right; omega)))
      replace G7 := G7.put f13 (by intro i hi; simp only [List.mem_cons, List.mem_singleton, List.not_mem_nil, or_false] at hi; rcases hi with rfl; all_goals (first | (left; simp; done) | (right; omega)))
      replace HG7 := HG7.put f13 (by intro i hi; simp only [List.mem_cons, List.mem_singleton, List.not_mem_nil, or_false] at hi; rcases hi with rfl; all_goals (first | (left; simp; done) | (right; omega)))
      replace hmap := f13.blk hmap (by simp only [List.mem_cons, List.not_mem_nil, or_false, not_or]; omega)
      replace hi8 := Nat.lt_of_lt_of_le hi8 f13.size
      replace hi10 := Nat.lt_of_lt_of_le hi10 f13.size
      replace hb10 := f13.blk hb10 (by simp only [List.mem_cons, List.not_mem_nil, or_false, not_or]; omega)
      replace hb8 := hb8'
      refine DL.nil ?_
      show DC _ _ _ _ _ _
      refine DC.region ?_
      refine DL.y rfl rfl (Y.move) ?_
      refine DL.y rfl rfl (Y.addI (c := ((k + 1 : Nat) : Int)) rfl rfl (by omega) (by omega) (by omega)) ?_
      refine DL.y rfl rfl (Y.assign) ?_
      refine DL.nil ?_
      refine ⟨(k + 1, seen ++ [i], cs.setIfInBounds (0 + k * 1) (.string keys[i])), ⟨G7, hkn, by simpa using hb10, hb8, by simpa using hcz, by simp [hsk], List.nodup_append.2 ⟨hsn, by simp, by intro a ha b hb e; simp at hb; subst hb; subst e; exact hns ha⟩, fun x hx => by rcases List.mem_append.1 hx with h | h; exact hsl x h; simp at h; omega, fun j hj => ?_⟩, by show keys.length - (k + 1) < keys.length - k; omega, rfl⟩
      simp only [List.length_append, List.length_singleton] at hj
      by_cases hjk : j < seen.length
      · rw [Array.getElem?_setIfInBounds_ne (by omega), List.getElem_append_left hjk]; exact hcj j hjk
      · have hje : j = k := by omega
        subst hje
        rw [List.getElem_append_right (by omega)]
        rw [show 0 + j * 1 = j by omega, Array.getElem?_setIfInBounds_self_of_lt (by omega)]
        simp only [List.getElem_singleton, keyB_at hi, encStr]

end Go.Proofs.YtmbleojlnaofjaaGreatDoor
