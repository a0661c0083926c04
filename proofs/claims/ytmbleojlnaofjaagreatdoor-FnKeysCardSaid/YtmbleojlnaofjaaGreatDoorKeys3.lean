/- The keys of a map, collected and sorted. -/
import Derived.Test.YtmbleojlnaofjaaGreatDoorRK
import Derived.Test.YtmbleojlnaofjaaGreatDoorO6
import Derived.Test.YtmbleojlnaofjaaGreatDoorF
import Derived.Test.YtmbleojlnaofjaaGreatDoorShelfS
import Derived.Sort.KeysCollected
import Derived.Sort.Walk0
import Derived.Shelf.Sort.Plain
namespace Go.Proofs.YtmbleojlnaofjaaGreatDoor
open Go Go.RowKit D Go.Sort Go.Proofs
set_option linter.unusedVariables false
set_option linter.unusedSimpArgs false


/-! ### The plain law: what is collected and sorted -/
def keyB (keys : List ByteArray) (x : Nat) : List UInt8 := ((keys[x]?).map fun s => s.data.toList).getD []
def keysB (keys : List ByteArray) : List (List UInt8) := keys.map fun s => s.data.toList
theorem keyB_at {keys : List ByteArray} {x : Nat} (h : x < keys.length) : keyB keys x = keys[x].data.toList := by simp [keyB, h]
theorem keyB_range (keys : List ByteArray) : (List.range keys.length).map (keyB keys) = keysB keys := by
  apply List.ext_getElem
  · simp [keysB]
  · intro i h1 h2
    have hi : i < keys.length := by simpa [keysB] using h2
    simp only [List.getElem_map, List.getElem_range, keysB]
    rw [keyB_at hi]
theorem nodup_bound : ∀ (n : Nat) (l : List Nat), l.Nodup → (∀ x ∈ l, x < n) → l.length ≤ n
  | 0, l, _, h => by cases l with | nil => simp | cons a l => exact absurd (h a (by simp)) (by omega)
  | n + 1, l, hn, h => by
    have h1 := nodup_bound n (l.erase n) (hn.erase n) (fun x hx => by
      have h2 := h x (List.mem_of_mem_erase hx)
      have h3 : x ≠ n := fun e => by subst e; exact (hn.not_mem_erase) hx
      omega)
    have h4 := List.length_erase (a := n) (l := l)
    split at h4 <;> omega
theorem sort_rising {keys : List ByteArray} (hr : ∀ i (h : i + 1 < keys.length), Op.bytesLess keys[i].toList keys[i + 1].toList = true) {ss : List (List UInt8)} (hp : ss.Perm (keysB keys)) : (ss.mergeSort fun x y => decide (x ≤ y)) = keysB keys := by
  rw [show (ss.mergeSort fun x y => decide (x ≤ y)) = (keysB keys).mergeSort leB from mergeSort_of_perm hp]
  refine List.mergeSort_of_pairwise ?_
  rw [List.pairwise_iff_getElem]
  intro i j hi hj hij
  simp only [keysB, List.length_map] at hi hj
  simp only [keysB, List.getElem_map, leB, decide_eq_true_eq]
  have h1 := rise_lt hr (j - i - 1) i (by omega)
  simp only [show i + (j - i - 1) + 1 = j by omega] at h1
  rw [Go.Proofs.bytesLess_eq, decide_eq_true_eq, ByteArray.toList_eq, ByteArray.toList_eq] at h1
  exact List.le_of_lt h1
theorem sort_any {w : World} {blk cap : Nat} {cs : Array Value} {keys : List ByteArray} {ss : List (List UInt8)} (hb : w.heap[blk]? = some (.cells cs 9 (0, 0))) (hcs : cs = (ss.map encStr).toArray) (hp : ss.Perm (keysB keys))
    (hr : ∀ i (h : i + 1 < keys.length), Op.bytesLess keys[i].toList keys[i + 1].toList = true) (hn : ss.length ≤ 1000000) :
    Calls Tryz.prog 144 #[.slice (some ⟨blk, 0, none⟩) ss.length cap] w (Ret w [blk] fun v w' => v = .tuple #[] ∧ w'.heap[blk]? = some (.cells (keys.map Value.string).toArray 9 (0, 0))) := by
  have hlt := lt_of_blk hb
  have hH : Holds encStr w blk 0 ss.toArray := fun j hj => by
    have hj : j < ss.length := by simpa using hj
    refine ⟨?_, by simp [World.frozen?, hb]⟩
    rw [Nat.zero_add]
    refine cell_of_blk hb ?_
    rw [hcs]
    simp [hj]
  refine (Any.sort_Strings Tryz.laysSort blk 0 cap ss w hH hlt (by omega)).mono fun e w' h => ?_
  obtain ⟨rfl, n, os, rfl⟩ := h
  rw [sort_rising hr hp]
  have hlen : ss.length = keys.length := by have := hp.length_eq; simpa [keysB] using this
  have hbm : (w.heap.modify blk (onCells (putCells encStr 0 (keysB keys).toArray)))[blk]? = some (.cells (keys.map Value.string).toArray 9 (0, 0)) := by
    rw [Array.getElem?_modify, if_pos rfl, hb]
    show some (Obj.cells (putCells encStr 0 (keysB keys).toArray cs) 9 (0, 0)) = _
    congr 2
    apply Array.ext_getElem?
    intro i
    simp only [putCells, Array.getElem?_mapIdx, hcs]
    by_cases hi : i < keys.length
    · have hi2 : i < ss.length := by omega
      simp [hi, hi2, keysB, encStr]
    · have hi2 : ¬ i < ss.length := by omega
      simp [hi, hi2]
  refine Ret.mk ⟨rfl, rfl, rfl, ?_, fun i hi hs => ?_⟩ ⟨rfl, ?_⟩
  · show w.heap.size ≤ (w.heap.modify blk _ ++ os).size
    simp
  · show (w.heap.modify blk _ ++ os)[i]? = _
    have hne : blk ≠ i := fun h => hs (by simp [h])
    rw [Array.getElem?_append_left (by simpa using hi), Array.getElem?_modify, if_neg hne]
  · show (w.heap.modify blk _ ++ os)[blk]? = _
    rw [Array.getElem?_append_left (by simpa using hlt)]
    exact hbm
theorem left_mem {es : Array MapEntry} {seen : Array Nat} {en : MapEntry} (h : en ∈ (leftOf es seen).toList) : en ∈ es.toList ∧ en.born ∉ seen.toList := by
  unfold leftOf at h
  simp only [Array.toList_filter, List.mem_filter, Bool.not_eq_true', Array.mem_toList_iff] at h ⊢
  exact ⟨h.1, fun hm => by have := Array.contains_iff_mem.2 hm; rw [h.2] at this; cases this⟩
theorem left_none {es : Array MapEntry} {seen : Array Nat} (h : (leftOf es seen).size = 0) {en : MapEntry} (he : en ∈ es.toList) : en.born ∈ seen.toList := by
  unfold leftOf at h
  rcases Classical.em (en.born ∈ seen.toList) with h' | h'
  · exact h'
  · have : en ∈ es.filter (fun e => !seen.contains e.born) := by
      simp only [Array.mem_filter, Bool.not_eq_true']
      refine ⟨by simpa using he, ?_⟩
      cases hc : seen.contains en.born with
      | false => rfl
      | true => exact absurd (by simpa using Array.contains_iff_mem.1 hc) h'
    have h2 := Array.size_eq_zero_iff.1 h
    rw [h2] at this
    simp at this

end Go.Proofs.YtmbleojlnaofjaaGreatDoor
