/- The keys of a map, sorted: the shelf's contracts. -/
import Derived.Test.YtmbleojlnaofjaaDoorRK
import Derived.Test.YtmbleojlnaofjaaDoorO6
import Derived.Test.YtmbleojlnaofjaaDoorF
import Derived.Test.YtmbleojlnaofjaaDoorShelfM
import Derived.Sort.KeysCollected
import Derived.Shelf.SlIter.Nil
import Derived.Shelf.SortM.Plain
import Derived.Shelf.SortM.SortNone
namespace Go.Proofs.YtmbleojlnaofjaaDoor
open Go Go.RowKit D Go.Sort Go.Proofs Go.Maps Go.Shelf
set_option linter.unusedVariables false
set_option linter.unusedSimpArgs false


/-! ### The keys of a map, sorted -/
def keysB (keys : List ByteArray) : List (List UInt8) := keys.map fun s => s.data.toList
theorem sort_rising {keys : List ByteArray} (hr : ∀ i (h : i + 1 < keys.length), Op.bytesLess keys[i].toList keys[i + 1].toList = true) {ss : List (List UInt8)} (hp : ss.Perm (keysB keys)) : (ss.mergeSort fun x y => decide (x ≤ y)) = keysB keys := by
  rw [show (ss.mergeSort fun x y => decide (x ≤ y)) = (keysB keys).mergeSort leB from mergeSort_of_perm hp]
  refine List.mergeSort_of_pairwise ?_
  rw [List.pairwise_iff_getElem]
  intro i j hi hj hij
  simp only [keysB, List.length_map] at hi hj
  simp only [keysB, List.getElem_map, leB, decide_eq_true_eq]
  have h1 := rise_lt hr (j - i - 1) i (by omega)
  simp only [show i + (j - i - 1) + 1 = j by omega] at h1
  rw [Go.Proofs.bytesLess_eq, decide_eq_true_eq, ByteArray.toList_eq, ByteArray.toList_eq] at h1
  exact List.le_of_lt h1
theorem sorts_any (m : Nat) : AnyZ.SortsIn Tryd.prog Tryd.sorted67_ren Fence.wide m :=
  ⟨fun blk off cap ss W hH hblk hsz => callsIn_wide.2 (AnyM.slices_Sort_string Tryd.sort79 blk off cap ss W hH hblk hsz),
   fun p cap W => callsIn_wide.2 (AnyM.slices_Sort_string_none Tryd.sort79 p cap W)⟩
theorem mapsKeys_any (mb : Option Nat) (w : World) : Calls Tryd.prog 68 #[.map mb] w (Ret w [] fun v w' => v = .func (.func 80) #[] #[.pointer (some ⟨w.heap.size, 0, none⟩)] ∧ w' = w.alloc (.cells #[.map mb] 66)) := by
  refine (callsIn_wide.1 (AnyZ.keys_in Tryd.keys68 Fence.wide 5 trivial rfl mb w)).mono ?_
  rintro e w' ⟨rfl, rfl⟩
  exact Ret.mk (fr_alloc w _) ⟨rfl, rfl⟩
def noR : Value → Option (DataW Unit × List MemPlace) := fun _ => some (.nil, [])
theorem rg_at {key : ByteArray} {x : Value} {i : Nat} (h : key.size ≤ maxLen) : WideElems.rd Tryd.prog 9 noR ⟨.string key, x, i⟩ = some (.string key.data.toList, .nil) := by
  simp [WideElems.rd, noR, Go.WideMaps.keyOf_string_mk Tryd.underlying9 h]
set_option maxHeartbeats 1000000 in
theorem sortedKeys_any {keys : List ByteArray} {r : Nat} {es : Array MapEntry} {xs : Nat → Value} {w w2 : World} (hw : w2 = w.alloc (.cells #[.map (some r)] 66)) (hmap : w.heap[r]? = some (.map es keys.length)) (hes : es.size = keys.length) (hent : ∀ (i : Nat) (h : i < keys.length), es[i]? = some ⟨.string keys[i], xs i, i⟩)
    (hrise : ∀ i (h : i + 1 < keys.length), Op.bytesLess keys[i].toList keys[i + 1].toList = true) (hn : keys.length ≤ 1000000) (hk : ∀ s ∈ keys, s.size ≤ 1000000) :
    Calls Tryd.prog 67 #[.func (.func 80) #[] #[.pointer (some ⟨w.heap.size, 0, none⟩)]] w2 (Ret w2 [] fun v w' => w'.ownsRow w2.heap.size 9 1 v keys.length (keys.map Value.string)) := by
  subst hw
  have hmx : maxLen = 9223372036854775807 := rfl
  have hel : es.toList = (List.range keys.length).map (fun i => (⟨.string (keys.getD i default), xs i, i⟩ : MapEntry)) := by
    apply List.ext_getElem
    · simp [hes]
    · intro i h1 h2
      have hi : i < keys.length := by simpa using h2
      have h3 := hent i hi
      rw [Array.getElem?_eq_getElem (by omega)] at h3
      simp only [Option.some.injEq] at h3
      simp [h3, hi]
  have hkx : ∀ x ∈ es.toList, ∃ i, ∃ h : i < keys.length, x = ⟨.string keys[i], xs i, i⟩ := fun x hx => by
    rw [hel] at hx
    obtain ⟨i, hi, rfl⟩ := List.mem_map.1 hx
    have hi := List.mem_range.1 hi
    exact ⟨i, hi, by simp [hi]⟩
  have hst : MapKept.Stamped es keys.length := by
    refine ⟨fun x hx => ?_, ?_, ?_⟩
    · obtain ⟨i, hi, rfl⟩ := hkx x hx; exact hi
    · rw [hel, List.map_map]
      have : ((fun e : MapEntry => e.born) ∘ fun i => (⟨.string (keys.getD i default), xs i, i⟩ : MapEntry)) = id := rfl
      rw [this, List.map_id]; exact List.nodup_range
    · rw [hel, List.map_map]
      refine List.pairwise_map.2 (List.nodup_range.imp_of_mem fun {a b} ha hb hne h => hne ?_)
      have ha := List.mem_range.1 ha
      have hb := List.mem_range.1 hb
      have h' : keys[a] = keys[b] := by simpa [ha, hb] using h
      rcases Nat.lt_trichotomy a b with hlt | he | hlt
      · exact absurd h' (rise_ne hrise hlt hb)
      · exact he
      · exact absurd h'.symm (rise_ne hrise hlt ha)
  have hown : w.ownsMap Tryd.prog 9 noR r keys.length (.map ((es.toList.map (WideElems.rg Tryd.prog 9 noR)).foldr DataW.insert [])) :=
    ⟨es, keys.length, hmap, ⟨by rw [hes, hmx]; omega, hst, fun x hx => by obtain ⟨i, hi, rfl⟩ := hkx x hx; exact ⟨_, rg_at (by have := hk _ (List.getElem_mem hi); omega)⟩⟩, by omega, rfl⟩
  have hlen : Maps.size (DataW.map ((es.toList.map (WideElems.rg Tryd.prog 9 noR)).foldr DataW.insert [])) = keys.length := by
    show ((es.toList.map (WideElems.rg Tryd.prog 9 noR)).foldr DataW.insert []).length = _
    rw [(WideShapes.sorted_perm _).length_eq, List.length_map]; simp [hes]
  have hsk : (strKeys (DataW.map ((es.toList.map (WideElems.rg Tryd.prog 9 noR)).foldr DataW.insert []))).Perm (keysB keys) := by
    show (List.map _ _).Perm _
    refine ((WideShapes.sorted_perm _).map _).trans (List.Perm.of_eq ?_)
    rw [List.map_map]
    apply List.ext_getElem
    · simp [keysB, hes]
    · intro i h1 h2
      have hi : i < keys.length := by simpa [keysB] using h2
      have h3 := hent i hi
      rw [Array.getElem?_eq_getElem (by omega)] at h3
      simp only [Option.some.injEq] at h3
      simp only [List.getElem_map, Array.getElem_toList, Function.comp, h3, keysB]
      rw [WideElems.rg_of (rg_at (by have := hk _ (List.getElem_mem hi); omega))]
      rfl
  have hbl := hown.lt
  have hseq : SeqGives Fence.wide 2 Tryd.prog 80 #[.pointer (some ⟨w.heap.size, 0, none⟩)] encStr (fun ss => ss.Perm (strKeys (DataW.map ((es.toList.map (WideElems.rg Tryd.prog 9 noR)).foldr DataW.insert [])))) keys.length (w.alloc (.cells #[.map (some r)] 66)) := by
    rw [← hlen]
    exact AnyZ.keys_gives (ρ := Tryd.keys68_ren) { Tryd.keys68 with } Fence.wide _ trivial rfl (by omega) w.heap.size r keys.length _ _ (by simp) (by simp) (by
      obtain ⟨es, clock, hb, Ft, hs, hD⟩ := hown
      exact ⟨es, clock, (Below.heap_alloc _ _ r hbl).trans hb, Ft, hs, hD⟩)
  have h := AnyZ.sorted_in Tryd.sorted67 Fence.wide 5 trivial trivial trivial trivial rfl (by omega) (sorts_any _) (enters_of Tryd.func79 (by kernel_rfl) rfl) 80 #[.pointer (some ⟨w.heap.size, 0, none⟩)] trivial (enters_of Tryd.func80 (by kernel_rfl) rfl) _ keys.length (by omega) (by omega) _ hseq
  refine (callsIn_wide.1 h).mono ?_
  rintro e w' ⟨v, ss, rfl, hp, ho, _, hb⟩
  have hp2 := hp.trans hsk
  rw [sort_rising hrise hp2] at ho
  have hl2 : ss.length = keys.length := by have := hp2.length_eq; simpa [keysB] using this
  rw [hl2] at ho
  have he : (keysB keys).map encStr = keys.map Value.string := by simp [keysB, encStr]
  rw [he] at ho
  exact Ret.mk (Fr.ofBelow hb) ho

end Go.Proofs.YtmbleojlnaofjaaDoor
