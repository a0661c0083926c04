/- More laws: slices that are built and grown; the range over a map. -/
import Derived.Test.YtmbleojlnaofjaaDoorO4
import Derived.Great.BuildSlice
import Derived.Laws.AppendOwn
import Derived.Maps.RangeRun
namespace Go.Proofs.YtmbleojlnaofjaaDoor.D
open Go Go.RowKit Go.Deep
set_option linter.unusedVariables false
set_option linter.unusedSectionVars false
set_option linter.unusedSimpArgs false
/-! ### Own slices -/
def ownL (v : Value) : List Nat := match v.ownBlock with | some b => [b] | none => []
theorem mem_ownL {v : Value} {b : Nat} : b ∈ ownL v ↔ v.ownBlock = some b := by
  unfold ownL
  cases h : v.ownBlock with
  | none => simp
  | some c => simp [eq_comm]
theorem own_ge {w : World} {B e size n : Nat} {v : Value} {xs : List Value} (h : w.ownsRow B e size v n xs) : ∀ b ∈ ownL v, B ≤ b ∧ b < w.heap.size := fun b hb => h.lt b (mem_ownL.1 hb)
theorem ownsRow_fr {S : List Nat} {w w' : World} {B e size n : Nat} {v : Value} {xs : List Value} (h : w.ownsRow B e size v n xs) (f : Fr S w w') (hs : ∀ b ∈ S, v.ownBlock ≠ some b) : w'.ownsRow B e size v n xs := by
  refine ⟨h.1, ?_⟩
  rcases h.2 with hn | ⟨g, cap, cur, rfl, hb, hg, rest⟩
  · exact .inl hn
  · exact .inr ⟨g, cap, cur, rfl, hb, f.blk hg (fun hm => hs g hm (by simp [Value.ownBlock])), rest⟩
theorem own_ne {w : World} {B e size n b : Nat} {v : Value} {xs : List Value} (h : w.ownsRow B e size v n xs) (hb : b < B ∨ w.heap.size ≤ b) : v.ownBlock ≠ some b := fun hv => by
  have := h.lt b hv
  omega
theorem fr_grown {w w' : World} {v : Value} (h : w.grownBy w' v.ownBlock) : Fr (ownL v) w w' :=
  ⟨h.os, h.tape, h.output, h.size, fun i hi hs => h.block i hi (fun e => hs (mem_ownL.2 e.symm))⟩
theorem own_base {w : World} {B B' e size n : Nat} {v : Value} {xs : List Value} (h : w.ownsRow B e size v n xs) (hb : B' ≤ B) : w.ownsRow B' e size v n xs := by
  refine ⟨h.1, ?_⟩
  rcases h.2 with hn | ⟨g, cap, cur, hv, hg, rest⟩
  · exact .inl hn
  · exact .inr ⟨g, cap, cur, hv, by omega, rest⟩
/-- The cells of an own slice. -/
theorem own_cells {w : World} {B e size n : Nat} {v : Value} {xs : List Value} (h : w.ownsRow B e size v n xs) : ∃ a cap, v = .slice a n cap ∧ n * size = xs.length ∧ ∀ (i : Nat), i < n → ∃ b, a = some ⟨b, 0, none⟩ ∧ B ≤ b ∧ b < w.heap.size ∧ ∀ j, j < size → w.cell? ⟨b, i * size + j, none⟩ = xs[i * size + j]? := by
  rcases h.2 with ⟨rfl, rfl⟩ | ⟨g, cap, cur, rfl, hb, hg, hnc, _, hcs, ht⟩
  · exact ⟨none, 0, rfl, h.1.symm, fun i hi => absurd hi (by omega)⟩
  · refine ⟨some ⟨g, 0, none⟩, cap, rfl, h.1.symm, fun i hi => ⟨g, rfl, hb, (Array.getElem?_eq_some_iff.1 hg).1, fun j hj => ?_⟩⟩
    have hlt : i * size + j < n * size := by
      have h1 : (i + 1) * size ≤ n * size := Nat.mul_le_mul_right _ (by omega)
      rw [Nat.add_mul, Nat.one_mul] at h1
      omega
    rw [← ht, List.getElem?_take, if_pos hlt]
    simp [World.cell?, hg]

/-! ### One part that fills -/
theorem foldl_set (l : List Value) : ∀ (j : Nat) (a : Array Value), ((l.zipIdx j).foldl (fun (cs : Array Value) (p : Value × Nat) => cs.setIfInBounds p.2 p.1) a).size = a.size ∧
    ∀ i, i < a.size → ((l.zipIdx j).foldl (fun (cs : Array Value) (p : Value × Nat) => cs.setIfInBounds p.2 p.1) a)[i]? = if j ≤ i ∧ i < j + l.length then l[i - j]? else a[i]? := by
  induction l with
  | nil => intro j a; simp; intro i hi h1 h2; omega
  | cons v l ih =>
    intro j a
    obtain ⟨h1, h2⟩ := ih (j + 1) (a.setIfInBounds j v)
    simp only [List.zipIdx_cons, List.foldl_cons]
    refine ⟨by rw [h1]; simp, fun i hi => ?_⟩
    rw [h2 i (by simpa using hi)]
    by_cases hij : i = j
    · subst hij
      rw [if_neg (by omega), if_pos (by simp)]
      simp [hi]
    · by_cases hc : j + 1 ≤ i ∧ i < j + 1 + l.length
      · rw [if_pos hc, if_pos (by simp only [List.length_cons]; omega)]
        rw [show i - j = (i - (j + 1)) + 1 by omega]
        simp
      · rw [if_neg hc, if_neg (by simp only [List.length_cons]; omega), Array.getElem?_setIfInBounds_ne (by omega)]
theorem fill_one {v : Value} {cs z : Array Value} {size : Nat} (hv : v.cells = cs) (hs : cs.size = size) (hz : z.size = size) : Instr.fill (fun i => some (i * size, size)) z [(0, v)] = some cs := by
  unfold Instr.fill
  simp only [Nat.zero_mul, Nat.zero_add, hv]
  rw [if_neg (by simp [hs, hz])]
  unfold Instr.fill
  have h := foldl_set cs.toList 0 z
  have e : (cs.zipIdx.foldl (fun (a : Array Value) (p : Value × Nat) => a.setIfInBounds p.2 p.1) z) = (cs.toList.zipIdx 0).foldl (fun (a : Array Value) (p : Value × Nat) => a.setIfInBounds p.2 p.1) z := by
    rw [← Array.foldl_toList, Array.toList_zipIdx]
  congr 1
  show cs.zipIdx.foldl (fun (a : Array Value) (p : Value × Nat) => a.setIfInBounds p.2 p.1) z = cs
  rw [e]
  apply Array.ext_getElem?
  intro i
  by_cases hi : i < z.size
  · rw [h.2 i hi, if_pos ⟨Nat.zero_le _, by simp; omega⟩]
    simp
  · rw [Array.getElem?_eq_none (by rw [h.1]; omega), Array.getElem?_eq_none (by omega)]

section
variable {P : Program} {n : Nat} {e : Env} {w : World} {ops rest : List Oper} {K : Env → World → Prop} {dst : Option Tmp} {ty : TypeId} {pos : String} {af : Array Edge} {g : Option (Nat × Bool)}
/-- The element's facts that slices ask for. -/
def eltT (P : Program) (t el size bytes : Nat) : Bool := match P.underlying t, P.info? el with
  | some (.slice el'), some i => (el' == el) && (i.size == size) && (i.bytes == bytes) && (match i.zero with | some z => z.cells.size == size | none => false) && !(size == 0) && Nat.ble size 1000
  | _, _ => false
theorem eltT_spec {t el size bytes : Nat} (h : eltT P t el size bytes = true) : ∃ i z, P.underlying t = some (.slice el) ∧ P.info? el = some i ∧ i.size = size ∧ i.bytes = bytes ∧ i.zero = some z ∧ z.cells.size = size ∧ 0 < size ∧ size ≤ 1000 := by
  unfold eltT at h
  split at h
  · rename_i el' i h1 h2
    simp only [Bool.and_eq_true, beq_iff_eq, Bool.not_eq_true', beq_eq_false_iff_ne] at h
    obtain ⟨⟨⟨⟨⟨h3, h4⟩, h5⟩, h6⟩, h7⟩, h8⟩ := h
    subst h3
    cases hz : i.zero with
    | none => rw [hz] at h6; cases h6
    | some z => rw [hz] at h6; exact ⟨i, z, h1, h2, h4, h5, hz, by simpa using h6, by omega, Nat.le_of_ble_eq_true h8⟩
  · cases h
theorem DL.buildSl1 {x : Operand} {t el size bytes d : Nat} {v : Value} {cs : Array Value} (hg : wantB ops e g = true) (hn : Nat.blt d n = true) (ht : eltT P t el size bytes = true) (hx : ev e x = v) (hv : v.cells = cs) (hs : cs.size = size)
    (k : ∀ b w', Fr [] w w' → w.heap.size ≤ b → b < w'.heap.size → w'.heap[b]? = some (.cells cs el (0, 0)) → DL P n ops rest (upd e d (.slice (some ⟨b, 0, none⟩) 1 1)) w' K) :
    DL P n ops (⟨some d, .buildSlice t 1 #[(0, x)], ty, pos, af, g⟩ :: rest) e w K := by
  obtain ⟨i, z, h1, h2, h3, h4, h5, h6, h7, h8⟩ := eltT_spec ht
  have hrun := run_buildSlice (P := P) w t el 1 #[(0, v)] cs i z h1 h2 h5 (by rw [h3]; omega) (by rw [h3]; omega) (by
    rw [h3]
    exact fill_one hv hs (by simp))
  refine DL.run (w' := { w with heap := w.heap.push (.cells cs el) }) hg hn (v := .slice (some ⟨w.heap.size, 0, none⟩) 1 1) ?_ (k w.heap.size _ (fr_alloc w _) (Nat.le_refl _) (by simp) (blk_alloc w _))
  have e1 : (#[(0, x)] : Array (Nat × Operand)).map (fun p => (p.1, ev e p.2)) = #[(0, v)] := by simp [hx]
  have e2 : execOp (ev e) ⟨some d, .buildSlice t 1 #[(0, x)], ty, pos, af, g⟩ = (do pure (.value (← Instr.buildSlice t 1 ((#[(0, x)] : Array (Nat × Operand)).map (fun p => (p.1, ev e p.2)))))) := rfl
  rw [e2, e1]
  simp only [Sem.run_bind, hrun, Result.andThen_ok, Sem.run_pure]
  rfl
theorem DL.append {s x : Operand} {t el size bytes d B m c N b u : Nat} {fr : Nat × Nat} {v : Value} {xs : List Value} {news : Array Value} (hg : wantB ops e g = true) (hn : Nat.blt d n = true) (ht : eltT P t el size bytes = true) (hs : ev e s = v) (hx : ev e x = .slice (some ⟨b, 0, none⟩) m c)
    (hown : w.ownsRow B el size v N xs) (hb : w.heap[b]? = some (.cells news u fr)) (hl : news.size = m * size) (h1 : news.all (·.oneCell') = true) (hby : (N + m) * bytes ≤ 140737488355328) (hm : N + m ≤ 9223372036854775807) (hB : B ≤ w.heap.size)
    (k : ∀ v' w', Fr (ownL v) w w' → w'.ownsRow B el size v' (N + m) (xs ++ news.toList) → DL P n ops rest (upd e d v') w' K) :
    DL P n ops (⟨some d, .call ⟨.builtin .append, #[s, x], #[t, t]⟩, ty, pos, af, g⟩ :: rest) e w K := by
  obtain ⟨i, z, k1, k2, k3, k4, k5, k6, k7, k8⟩ := eltT_spec ht
  obtain ⟨v', w', hrun, ho, hgr, _⟩ := run_append_own (P := P) w B t ty el i z size bytes k1 k2 k5 k3 k4 k6 k7 v N xs hown ⟨b, 0, none⟩ m c news.toList (by simpa using hl) (fun j u hu => by
    rw [add_addr, Nat.zero_add]
    exact cell_of_blk hb (by simpa using hu)) (fun u hu => by
    have := Array.all_eq_true.1 h1
    obtain ⟨j, hj, rfl⟩ := List.getElem_of_mem hu
    simpa using this j (by simpa using hj)) hm hby hB
  refine DL.run hg hn (v := v') ?_ (k v' w' (fr_grown hgr) ho)
  simp [execOp, resolve, invoke, builtin, hs, hx, hrun]
/-- A store of one cell within a block whose cells are known. -/
theorem DL.storeC {x y : Operand} {t u : TypeId} {b o : Nat} {cs cs' : Array Value} {v : Value} (hg : wantB ops e g = true) (ht : P.cellsOf t = 1) (hi : (P.info? t).isSome = true) (hx : ev e x = .pointer (some ⟨b, o, none⟩)) (hy : ev e y = v) (hv : v.oneCell' = true)
    (hb : w.heap[b]? = some (.cells cs u (0, 0))) (ho : o < cs.size) (hc : cs.setIfInBounds o v = cs')
    (k : ∀ w', Fr [b] w w' → w'.heap.size = w.heap.size → w'.heap[b]? = some (.cells cs' u (0, 0)) → DL P n ops rest e w' K) :
    DL P n ops (⟨none, .store t x y, ty, pos, af, g⟩ :: rest) e w K :=
  DL.storeP hg ht hi hx hy hv hb ho (fun w' h1 h2 h3 => k w' h1 h2 (by rw [h3, hc]))
/-- range over a map. -/
theorem DL.rangeMap {x : Operand} {t kt el d m clock : Nat} {es : Array MapEntry} (hg : wantB ops e g = true) (hn : Nat.blt d n = true) (ht : P.underlying t = some (.map kt el)) (hx : ev e x = .map (some m)) (hm : w.heap[m]? = some (.map es clock))
    (k : ∀ b w', Fr [] w w' → w.heap.size ≤ b → b < w'.heap.size → w'.heap[b]? = some (.mapIter (some m) clock #[] clock) → DL P n ops rest (upd e d (.pointer (some ⟨b, 0, none⟩))) w' K) :
    DL P n ops (⟨some d, .range t x, ty, pos, af, g⟩ :: rest) e w K := by
  refine DL.new hg rfl hn (ob := .mapIter (some m) clock #[] clock) ?_ k
  have := run_range_map (P := P) w t kt el m es clock ht hm
  simp only [execOp, hx, Sem.run_bind, this, Result.andThen_ok, Sem.run_pure]
  rfl
/-- One step of it. -/
theorem DL.nextMap {x : Operand} {d r m clock : Nat} {es : Array MapEntry} {seen : Array Nat} (hg : wantB ops e g = true) (hn : Nat.blt d n = true) (hx : ev e x = .pointer (some ⟨r, 0, none⟩)) (hr : w.heap[r]? = some (.mapIter (some m) clock seen clock)) (hm : w.heap[m]? = some (.map es clock)) (hold : ∀ x ∈ es.toList, x.born < clock)
    (k0 : (leftOf es seen).size = 0 → DL P n ops rest (upd e d (.tuple #[.bool false])) w K)
    (k1 : ∀ en w', en ∈ (leftOf es seen).toList → Fr [r] w w' → w'.heap.size = w.heap.size → w'.heap[r]? = some (.mapIter (some m) clock (seen.push en.born) clock) → DL P n ops rest (upd e d (.tuple #[.bool true, en.key, en.val])) w' K) :
    DL P n ops (⟨some d, .next x false, ty, pos, af, g⟩ :: rest) e w K := by
  have hlt := lt_of_blk hr
  rcases run_next_at (P := P) w ty r m clock clock seen es clock hr hm hold (Nat.le_refl _) with ⟨h0, hrun⟩ | ⟨en, he, w1, hal, hrun⟩
  · refine DL.run hg hn ?_ (k0 h0)
    simp only [execOp, hx, Sem.run_bind, hrun, Result.andThen_ok, Sem.run_pure]
  · refine DL.run hg hn (v := .tuple #[.bool true, en.key, en.val]) (w' := ChangeMaps.setBlock w1 r (.mapIter (some m) clock (seen.push en.born) clock)) ?_ (k1 en _ he ?_ ?_ ?_)
    · simp only [execOp, hx, Sem.run_bind, hrun, Result.andThen_ok, Sem.run_pure]
    · rcases hal with rfl | rfl <;>
      · refine ⟨rfl, rfl, rfl, by simp [ChangeMaps.setBlock], fun i hi hs => ?_⟩
        have hne : r ≠ i := fun h => hs (by simp [h])
        show (Array.setIfInBounds _ _ _)[i]? = _
        exact Array.getElem?_setIfInBounds_ne hne
    · rcases hal with rfl | rfl
      · simp [ChangeMaps.setBlock]
      · simp only [ChangeMaps.setBlock, Array.size_setIfInBounds]; rfl
    · rcases hal with rfl | rfl
      · simp [ChangeMaps.setBlock, hlt]
      · have hlt2 : r < w.drew.heap.size := hlt
        exact Array.getElem?_setIfInBounds_self_of_lt hlt2
theorem Y.entry {x : Operand} {r m clock : Nat} {es : Array MapEntry} {seen : Array Nat} {en : MapEntry} (hx : ev e x = .pointer (some ⟨r, 0, none⟩)) (hr : w.heap[r]? = some (.mapIter (some m) clock (seen.push en.born) clock)) (hm : w.heap[m]? = some (.map es clock)) (he : en ∈ es.toList) (hn : (es.toList.map (·.born)).Nodup) :
    Y P e ⟨dst, .entry x, ty, pos, af, g⟩ w (.tuple #[en.key, en.val]) := by
  have := run_entry_at (P := P) w r m clock seen es clock en hr hm he hn
  unfold Y
  simp only [execOp, hx, Sem.run_bind, this, Result.andThen_ok, Sem.run_pure]
end
end Go.Proofs.YtmbleojlnaofjaaDoor.D
