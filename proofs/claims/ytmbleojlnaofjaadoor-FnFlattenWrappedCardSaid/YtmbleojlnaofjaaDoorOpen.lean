/- An argument that reads is a tree of values. -/
import Derived.Test.YtmbleojlnaofjaaDoorV
import Derived.Test.YtmbleojlnaofjaaDoorF
import Derived.ChangeArms
import Derived.ChangeShapes
import Derived.SizedLaws
import Derived.DataReads
import Derived.Lib.LaidU8
namespace Go.Proofs.YtmbleojlnaofjaaDoor
open Go Go.RowKit D Go.ChangeShapes Go.WideShapes
set_option linter.unusedVariables false
set_option linter.unusedSimpArgs false


theorem exists_list {α : Type} (Q : Nat → α → Prop) : ∀ n : Nat, (∀ i, i < n → ∃ x, Q i x) → ∃ l : List α, l.length = n ∧ ∀ i (h : i < l.length), Q i l[i]
  | 0, _ => ⟨[], rfl, fun i h => by cases h⟩
  | n + 1, h => by
    obtain ⟨l, hl, hq⟩ := exists_list Q n (fun i hi => h i (by omega))
    obtain ⟨x, hx⟩ := h n (by omega)
    refine ⟨l ++ [x], by simp [hl], fun i hi => ?_⟩
    by_cases hn : i < l.length
    · rw [List.getElem_append_left hn]; exact hq i hn
    · have hi' : i = n := by simp only [List.length_append, List.length_singleton] at hi; omega
      subst hi'
      rw [List.getElem_append_right (by omega)]
      simpa [hl] using hx

theorem list_six {α : Type} {l : List α} (h : l.length = 6) : ∃ a b c d e f, l = [a, b, c, d, e, f] := by
  match l, h with
  | [a, b, c, d, e, f], _ => exact ⟨a, b, c, d, e, f, rfl⟩
theorem weights_all {H : Type} {Q : Program} {e : TypeId} : ∀ {ds : List (DataW H)} {d : DataW H}, d ∈ ds → ∀ n ∈ d.weights Q e, n ∈ DataW.weightsAll Q e ds
  | d0 :: r, d, hd, n, hn => by
    simp only [DataW.weightsAll, List.mem_append]
    rcases List.mem_cons.1 hd with rfl | hd
    · exact Or.inl hn
    · exact Or.inr (weights_all hd n hn)

theorem spot_plain {w : World} {b o : Nat} {sp : Option Nat} {v : Value} (h : w.cell? ⟨b, o, sp⟩ = some v) : sp = none := World.cell?_spot h
theorem cell_lt {w : World} {a : Addr} {v : Value} (h : w.cell? a = some v) : a.block < w.heap.size := by
  rcases Nat.lt_or_ge a.block w.heap.size with h' | h'
  · exact h'
  · have : w.heap[a.block]? = none := by simp [h']
    simp [World.cell?, this] at h

section
variable {Hd : Type} {enc : TypeId × Value → Hd} {w : World} {sp : Nat → Bool} {held : Bool}
/-- A slice that reads is a row of cells, each part of it reads. -/
theorem open_part {t e sz : Nat} {fuel : Nat} {cs : List Value} {x : DataW Hd × List MemPlace} (ht : Tryd.prog.underlying t = some (.slice e)) (hc : Tryd.prog.cellsOf e = sz) (hz : 0 < sz) (hb : 1 ≤ Tryd.prog.bytesOf e)
    (h : DataW.trod enc Tryd.prog w 0 sp held (fuel + 1) t cs = some x) (hw : ∀ n ∈ x.1.weights Tryd.prog t, n ≤ reachBytes) :
    ∃ a len cap, cs = [.slice a len cap] ∧ len ≤ 140737488351232 ∧
      ∀ i, i < len → ∃ b o cl d, a = some ⟨b, o, none⟩ ∧ b < w.heap.size ∧ CellsAt w b (o + i * sz) cl ∧ cl.size = sz ∧ DataW.trod enc Tryd.prog w 0 sp held fuel e cl.toList = some d ∧ ∀ n ∈ d.1.weights Tryd.prog e, n ≤ reachBytes := by
  rcases DataW.trod_slice ht h with ⟨rfl, rfl⟩ | ⟨a, len, cap, elems, rest, n, hn, rfl, rfl, _, hl, _, hel, hat, _, _⟩
  · exact ⟨none, 0, 0, rfl, by omega, fun i hi => absurd hi (by omega)⟩
  · obtain rfl : n = fuel := by omega
    subst hel
    have hlen : elems.length ≤ 140737488351232 := by
      have := hw ((elems.length + rest.length) * Tryd.prog.bytesOf e) (by simp [DataW.weights, ht])
      have h2 : (elems.length + rest.length) * 1 ≤ (elems.length + rest.length) * Tryd.prog.bytesOf e := Nat.mul_le_mul_left _ hb
      simp only [reachBytes] at this
      omega
    refine ⟨some a, _, cap, rfl, hlen, fun i hi => ?_⟩
    have h1 := hat i hi
    rw [List.getElem?_eq_getElem hi, Option.bind_eq_some_iff] at h1
    obtain ⟨cl, hcl, hd⟩ := h1
    obtain ⟨_, hsz, hcell⟩ := World.cells?_some hcl
    obtain ⟨b, o, spot⟩ := a
    rw [hc] at hsz hcell
    have hsp : spot = none := by
      have h1 := hat 0 (by omega)
      rw [List.getElem?_eq_getElem (by omega), Option.bind_eq_some_iff] at h1
      obtain ⟨c', hcl', _⟩ := h1
      obtain ⟨_, hsz', hcell'⟩ := World.cells?_some hcl'
      rw [hc] at hsz' hcell'
      have h2 := hcell' 0 hz
      rw [List.getElem?_eq_getElem (by omega)] at h2
      have h3 := World.cell?_spot h2
      simpa [Addr.add] using h3
    subst hsp
    have hbl : b < w.heap.size := by
      have h2 := hcell 0 hz
      rw [List.getElem?_eq_getElem (by omega)] at h2
      have h3 := cell_lt h2
      rw [add_plain, add_plain] at h3
      exact h3
    refine ⟨b, o, cl.toArray, elems[i], rfl, hbl, fun j hj => ?_, by simpa using hsz, hd, fun n hn => ?_⟩
    · have := hcell j (by simpa [hsz] using hj)
      rw [add_plain, add_plain] at this
      simpa [Nat.add_assoc] using this
    · refine hw n ?_
      simp only [DataW.weights, ht, List.mem_cons, List.mem_append]
      exact Or.inr (Or.inl (weights_all (List.mem_map_of_mem (f := (·.1)) (List.getElem_mem hi)) n hn))

theorem open_text {t : Nat} {fuel : Nat} {cs : List Value} {x : DataW Hd × List MemPlace} (ht : Tryd.prog.underlying t = some .string) (h : DataW.trod enc Tryd.prog w 0 sp held fuel t cs = some x) (hw : ∀ n ∈ x.1.weights Tryd.prog t, n ≤ reachBytes) :
    ∃ s : ByteArray, cs = [.string s] ∧ s.size ≤ 140737488351232 := by
  obtain ⟨s, rfl, rfl, _⟩ := DataW.trod_string ht h
  refine ⟨s, rfl, ?_⟩
  have := hw s.data.toList.length (by simp [DataW.weights])
  simpa [reachBytes] using this
theorem open_num {t : Nat} {fuel : Nat} {cs : List Value} {x : DataW Hd × List MemPlace} (ht : Tryd.prog.underlying t = some (.int .i64)) (h : DataW.trod enc Tryd.prog w 0 sp held fuel t cs = some x) :
    ∃ n : Int, cs = [.int .i64 n] ∧ -9223372036854775808 ≤ n ∧ n ≤ 9223372036854775807 := by
  obtain ⟨n, rfl, rfl, hwf⟩ := DataW.trod_int ht h
  refine ⟨n, rfl, ?_⟩
  simp only [Lit.wf, Bool.and_eq_true, decide_eq_true_eq] at hwf
  exact hwf

theorem open_rows {n : Nat} {a : Option Addr} {fuel : Nat}
    (ih : ∀ (cs : List Value) (x : DataW Hd × List MemPlace), DataW.trod enc Tryd.prog w 0 sp held fuel 26 cs = some x → (∀ n ∈ x.1.weights Tryd.prog 26, n ≤ reachBytes) → ∃ v, RV w w.heap.size v cs.toArray)
    (h : ∀ i, i < n → ∃ b o cl d, a = some ⟨b, o, none⟩ ∧ b < w.heap.size ∧ CellsAt w b (o + i * 6) cl ∧ cl.size = 6 ∧ DataW.trod enc Tryd.prog w 0 sp held fuel 26 cl.toList = some d ∧ ∀ n ∈ d.1.weights Tryd.prog 26, n ≤ reachBytes) :
    ∃ (list : List V) (cl : Nat → Array Value), list.length = n ∧ Row w w.heap.size a list.length 6 cl ∧ ∀ (i : Nat) (h : i < list.length), RV w w.heap.size list[i] (cl i) := by
  obtain ⟨l, hl, hq⟩ := exists_list (fun i (p : V × Array Value) => RV w w.heap.size p.1 p.2 ∧ ∃ b o, a = some ⟨b, o, none⟩ ∧ b < w.heap.size ∧ CellsAt w b (o + i * 6) p.2 ∧ p.2.size = 6) n (fun i hi => by
    obtain ⟨b, o, cl, d, h1, h2, h3, h4, h5, h6⟩ := h i hi
    obtain ⟨v, hv⟩ := ih _ _ h5 h6
    exact ⟨(v, cl), by simpa using hv, b, o, h1, h2, h3, h4⟩)
  refine ⟨l.map (·.1), fun i => (l.getD i (⟨0, 0, default, [], [], []⟩, #[])).2, by simpa using hl, fun i hi => ?_, fun i hi => ?_⟩
  · have hi : i < l.length := by simpa using hi
    have := (hq i hi).2
    simpa [List.getD_eq_getElem?_getD, hi] using this
  · have hi : i < l.length := by simpa using hi
    have := (hq i hi).1
    simpa [List.getD_eq_getElem?_getD, hi] using this

/-- A value of the type of the laws' arguments that reads IS a tree. -/
theorem rv_of_trod (fuel : Nat) : ∀ (cs : List Value) (x : DataW Hd × List MemPlace), DataW.trod enc Tryd.prog w 0 sp held fuel 26 cs = some x → (∀ n ∈ x.1.weights Tryd.prog 26, n ≤ reachBytes) → ∃ v, RV w w.heap.size v cs.toArray := by
  induction fuel using Nat.strongRecOn with
  | _ fuel IH =>
  intro cs x h hw
  rcases Nat.lt_or_ge fuel 1 with hf | hf
  · obtain rfl : fuel = 0 := by omega
    simp [DataW.trod] at h
  rcases Nat.lt_or_ge fuel 2 with hf2 | hf2
  · obtain rfl : fuel = 1 := by omega
    obtain ⟨xs, n, hn, rfl, hl, hxl, hall⟩ := DataW.trod_struct Tryd.underlying26 h
    obtain rfl : n = 0 := by omega
    have := hall 0 _ rfl
    have hxl : xs.length = 6 := hxl
    rw [List.getElem?_eq_getElem (by omega)] at this
    simp [DataW.trod] at this
  · obtain ⟨fuel, rfl⟩ : ∃ k, fuel = k + 2 := ⟨fuel - 2, by omega⟩
    obtain ⟨xs, n, hn, rfl, hl, hxl, hall⟩ := DataW.trod_struct Tryd.underlying26 h
    obtain rfl : n = fuel + 1 := by omega
    have hcz : Tryd.prog.cellsOf 26 = 6 := by kernel_rfl
    rw [hcz] at hl
    have hxl : xs.length = 6 := hxl
    obtain ⟨c0, c1, c2, c3, c4, c5, rfl⟩ := list_six hl
    obtain ⟨x0, x1, x2, x3, x4, x5, rfl⟩ := list_six hxl
    have h0 : DataW.trod enc Tryd.prog w 0 sp held (fuel + 1) 22 (([c0, c1, c2, c3, c4, c5].drop 0).take (Tryd.prog.cellsOf 22)) = some x0 := hall 0 { name := "Kind", type := 22, offset := 0, embedded := false, tag := "", pkgPath := "", byteOffset := 0 } rfl
    have h1 : DataW.trod enc Tryd.prog w 0 sp held (fuel + 1) 3 (([c0, c1, c2, c3, c4, c5].drop 1).take (Tryd.prog.cellsOf 3)) = some x1 := hall 1 { name := "Half", type := 3, offset := 1, embedded := false, tag := "", pkgPath := "", byteOffset := 8 } rfl
    have h2 : DataW.trod enc Tryd.prog w 0 sp held (fuel + 1) 9 (([c0, c1, c2, c3, c4, c5].drop 2).take (Tryd.prog.cellsOf 9)) = some x2 := hall 2 { name := "Text", type := 9, offset := 2, embedded := false, tag := "", pkgPath := "", byteOffset := 16 } rfl
    have h3 : DataW.trod enc Tryd.prog w 0 sp held (fuel + 1) 23 (([c0, c1, c2, c3, c4, c5].drop 3).take (Tryd.prog.cellsOf 23)) = some x3 := hall 3 { name := "List", type := 23, offset := 3, embedded := false, tag := "", pkgPath := "", byteOffset := 32 } rfl
    have h4 : DataW.trod enc Tryd.prog w 0 sp held (fuel + 1) 24 (([c0, c1, c2, c3, c4, c5].drop 4).take (Tryd.prog.cellsOf 24)) = some x4 := hall 4 { name := "Keys", type := 24, offset := 4, embedded := false, tag := "", pkgPath := "", byteOffset := 56 } rfl
    have h5 : DataW.trod enc Tryd.prog w 0 sp held (fuel + 1) 23 (([c0, c1, c2, c3, c4, c5].drop 5).take (Tryd.prog.cellsOf 23)) = some x5 := hall 5 { name := "Vals", type := 23, offset := 5, embedded := false, tag := "", pkgPath := "", byteOffset := 80 } rfl
    rw [F.co22] at h0
    rw [F.co3] at h1
    rw [F.co9] at h2
    rw [F.co23] at h3
    rw [F.co24] at h4
    rw [F.co23] at h5
    simp only [List.drop_zero, List.drop_succ_cons, List.take_succ_cons, List.take_zero] at h0 h1 h2 h3 h4 h5
    have hww : ∀ (j t : Nat) (d : DataW Hd), ([22, 3, 9, 23, 24, 23] : List TypeId)[j]? = some t → ([x0.1, x1.1, x2.1, x3.1, x4.1, x5.1] : List (DataW Hd))[j]? = some d → ∀ n ∈ d.weights Tryd.prog t, n ≤ reachBytes := by
      intro j t d hj hd n hn
      refine hw n ?_
      have := DataW.weights_mem_each (P := Tryd.prog) hj hd n hn
      simpa [DataW.weights, Tryd.underlying26] using this
    obtain ⟨k, e0, hk⟩ := open_num Tryd.underlying22 h0
    obtain ⟨hf, e1, hhf⟩ := open_num Tryd.underlying3 h1
    obtain ⟨s, e2, hs⟩ := open_text Tryd.underlying9 h2 (hww 2 _ _ rfl rfl)
    obtain ⟨a3, l3, p3, e3, b3, q3⟩ := open_part Tryd.underlying23 hcz (by omega) (by decide +kernel) h3 (hww 3 _ _ rfl rfl)
    obtain ⟨a4, l4, p4, e4, b4, q4⟩ := open_part Tryd.underlying24 F.co9 (by omega) (by decide +kernel) h4 (hww 4 _ _ rfl rfl)
    obtain ⟨a5, l5, p5, e5, b5, q5⟩ := open_part Tryd.underlying23 hcz (by omega) (by decide +kernel) h5 (hww 5 _ _ rfl rfl)
    simp only [List.cons.injEq, and_true] at e0 e1 e2 e3 e4 e5
    subst e0 e1 e2 e3 e4 e5
    have ih : ∀ (cs : List Value) (x : DataW Hd × List MemPlace), DataW.trod enc Tryd.prog w 0 sp held fuel 26 cs = some x → (∀ n ∈ x.1.weights Tryd.prog 26, n ≤ reachBytes) → ∃ v, RV w w.heap.size v cs.toArray := IH fuel (by omega)
    obtain ⟨list, cl, rfl, hrl, hll⟩ := open_rows ih q3
    obtain ⟨vals, cv, rfl, hrv, hvv⟩ := open_rows ih q5
    obtain ⟨keys, hkl, hkk⟩ := exists_list (fun i (s : ByteArray) => s.size ≤ 140737488351232 ∧ ∃ b o, a4 = some ⟨b, o, none⟩ ∧ b < w.heap.size ∧ CellsAt w b (o + i * 1) #[.string s]) l4 (fun i hi => by
      obtain ⟨b, o, c, d, z1, z2, z3, z4, z5, z6⟩ := q4 i hi
      obtain ⟨s, es, hs⟩ := open_text Tryd.underlying9 z5 z6
      obtain rfl : c = #[.string s] := by cases c; simpa using es
      exact ⟨s, hs, b, o, z1, z2, z3⟩)
    subst hkl
    refine ⟨.mk k hf s list keys vals, .mk cl cv hk hhf hs b3 b4 b5 (fun t ht => ?_) hrl hll (fun i hi => ?_) hrv hvv⟩
    · obtain ⟨i, hi, rfl⟩ := List.getElem_of_mem ht
      exact (hkk i hi).1
    · obtain ⟨_, b, o, z1, z2, z3⟩ := hkk i hi
      exact ⟨b, o, z1, z2, by simpa [strCells, List.getD_eq_getElem?_getD, hi] using z3, rfl⟩
end


theorem nfirst : Tryd.prog.globalNamed "unicode/utf8.first" = some 0 := by kernel_rfl
theorem naccept : Tryd.prog.globalNamed "unicode/utf8.acceptRanges" = some 1 := by kernel_rfl
theorem tfirst : (Tryd.prog.globals[0]?).map (·.type) = some 78 := by kernel_rfl
theorem taccept : (Tryd.prog.globals[1]?).map (·.type) = some 81 := by kernel_rfl
theorem cfirst : Tryd.prog.cellsOf 78 = 256 := by kernel_rfl
theorem caccept : Tryd.prog.cellsOf 80 = 2 := by kernel_rfl
theorem ufirst : Tryd.prog.underlying 78 = some (.array 256 5) := by kernel_rfl
theorem uu8 : Tryd.prog.underlying 5 = some (.int .u8) := by kernel_rfl
theorem cu8 : Tryd.prog.cellsOf 5 = 1 := by kernel_rfl
theorem ua16 : Tryd.prog.underlying 81 = some (.array 16 80) := by kernel_rfl
/-- The two tables of package utf8, as a row lists them. -/
theorem tabs_of_laid {W : World} {l : List (String × DataW Unit)} (h : laidMet Tryd.prog l W) (h1 : ("unicode/utf8.first", Lib.firstData) ∈ l) (h2 : ("unicode/utf8.acceptRanges", Lib.acceptData) ∈ l) : Tabs W := by
  have h3 := Lib.laidMet.reads h h1
  have h4 := Lib.laidMet.reads h h2
  refine ⟨fun c hc => ?_, fun i hi => ?_⟩
  · obtain ⟨g, t, cs, fuel, p, hg, hty, hvar, hd⟩ := h3
    obtain rfl := Option.some.inj (nfirst.symm.trans hg)
    obtain rfl := Option.some.inj (tfirst.symm.trans hty)
    have hcs := Lib.cells_of_tab ufirst uu8 cu8 cfirst hd
    have := World.var?_cell hg hvar c
    rw [this, ← Array.getElem?_toList, hcs]
    simp [Lib.firstTab, hc]
  · obtain ⟨g, t, cs, fuel, p, hg, hty, hvar, hd⟩ := h4
    obtain rfl := Option.some.inj (naccept.symm.trans hg)
    obtain rfl := Option.some.inj (taccept.symm.trans hty)
    obtain ⟨fuel', d, q, hdi, he⟩ := Lib.array_elem ua16 hd i hi
    simp only [List.getElem?_map, List.getElem?_range hi, Option.map_some, Option.some.injEq] at hdi
    subst hdi
    rw [caccept] at he
    have hcs := Lib.ints_of_struct Tryd.underlying80 (fun j f hj => by
      match j, hj with
      | 0, hj => simp at hj; subst hj; exact ⟨uu8, rfl, cu8⟩
      | 1, hj => simp at hj; subst hj; exact ⟨uu8, rfl, cu8⟩
      | j + 2, hj => simp at hj) (by rw [caccept]; rfl) he
    have e0 := congrArg (·[0]?) hcs
    have e1 := congrArg (·[1]?) hcs
    simp only [List.getElem?_take, List.getElem?_drop] at e0 e1
    constructor
    · rw [World.var?_cell hg hvar (2 * i), ← Array.getElem?_toList]
      simpa [Nat.mul_comm] using e0
    · rw [World.var?_cell hg hvar (2 * i + 1), ← Array.getElem?_toList]
      simpa [Nat.mul_comm] using e1
theorem Tabs.size {w : World} (h : Tabs w) : 2 ≤ w.heap.size := by
  have := cell_lt (h.2 0 (by decide)).1
  exact this

end Go.Proofs.YtmbleojlnaofjaaDoor
