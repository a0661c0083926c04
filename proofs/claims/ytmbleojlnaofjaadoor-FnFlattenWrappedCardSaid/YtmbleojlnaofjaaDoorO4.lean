/- More laws: runes of strings, the range over a string, pieces of slices. -/
import Derived.Test.YtmbleojlnaofjaaDoorO3
import Derived.Laws.IdiomStrings
import Derived.Laws.Cover4
namespace Go.Proofs.YtmbleojlnaofjaaDoor.D
open Go Go.RowKit Go.Deep
set_option linter.unusedVariables false
set_option linter.unusedSectionVars false
set_option linter.unusedSimpArgs false
theorem width_pos (s : ByteArray) (pos : Nat) : 1 ≤ (Utf8.decode s pos).2 := by
  simp only [Utf8.decode]
  repeat' split
  all_goals simp
/-- The runes of a string from a place on. -/
def runesL (s : ByteArray) : Nat → Nat → List Nat
  | 0, _ => []
  | f + 1, i => if i < s.size then (Utf8.decode s i).1 :: runesL s f (i + (Utf8.decode s i).2) else []
def runesOf (s : ByteArray) : List Nat := runesL s s.size 0
theorem runesFrom_eq (s : ByteArray) : ∀ (f i : Nat) (acc : Array Value), Conv.runesFrom s f i acc = acc ++ ((runesL s f i).map fun r : Nat => Value.int .i32 (r : Int)).toArray
  | 0, i, acc => by simp [Conv.runesFrom, runesL]
  | f + 1, i, acc => by
    unfold Conv.runesFrom runesL
    split
    · show Conv.runesFrom s f (i + (Utf8.decode s i).2) (acc.push (.int .i32 ((Utf8.decode s i).1 : Int))) = _
      rw [runesFrom_eq s f]
      apply Array.ext'
      simp
    · simp
theorem runesL_length (s : ByteArray) : ∀ (f i : Nat), (runesL s f i).length ≤ f
  | 0, i => by simp [runesL]
  | f + 1, i => by
    unfold runesL
    split
    · have := runesL_length s f (i + (Utf8.decode s i).2); simp only [List.length_cons]; omega
    · simp
theorem runesL_end (s : ByteArray) (f i : Nat) (h : s.size ≤ i) : runesL s f i = [] := by
  cases f with
  | zero => rfl
  | succ f => unfold runesL; rw [if_neg (by omega)]
/-- A round of a range over a string. -/
theorem runesL_step {s : ByteArray} {f i : Nat} (hf : s.size ≤ f + i) (hi : i < s.size) : ∃ f', f = f' + 1 ∧ runesL s f i = (Utf8.decode s i).1 :: runesL s f' (i + (Utf8.decode s i).2) ∧ s.size ≤ f' + (i + (Utf8.decode s i).2) := by
  cases f with
  | zero => omega
  | succ f =>
    refine ⟨f, rfl, ?_, ?_⟩
    · rw [runesL, if_pos hi]
    · have := width_pos s i; omega
section
variable {P : Program} {n : Nat} {e : Env} {w : World} {ops rest : List Oper} {K : Env → World → Prop} {dst : Option Tmp} {ty : TypeId} {pos : String} {af : Array Edge} {g : Option (Nat × Bool)}
theorem DL.runes {x : Operand} {s t el d : Nat} {b : ByteArray} (hg : wantB ops e g = true) (hn : Nat.blt d n = true) (hs : P.underlying s = some .string) (ht : P.underlying t = some (.slice el)) (he : P.underlying el = some (.int .i32)) (hx : ev e x = .string b) (hb : b.size ≤ 70368744177664)
    (k : ∀ a w' cs cap, Fr [] w w' → w.heap.size ≤ a → a < w'.heap.size → w'.heap[a]? = some (.cells cs el (0, 0)) → (∀ i (h : i < (runesOf b).length), cs[i]? = some (.int .i32 ((runesOf b)[i] : Int))) → (runesOf b).length ≤ cap →
      DL P n ops rest (upd e d (.slice (some ⟨a, 0, none⟩) (runesOf b).length cap)) w' K) :
    DL P n ops (⟨some d, .convert s t x, ty, pos, af, g⟩ :: rest) e w K := by
  have hR : Conv.runesFrom b b.size 0 #[] = ((runesOf b).map fun r : Nat => Value.int .i32 (r : Int)).toArray := by rw [runesFrom_eq]; simp [runesOf]
  have hsz : (Conv.runesFrom b b.size 0 #[]).size = (runesOf b).length := by rw [hR]; simp
  have hlen : (runesOf b).length ≤ b.size := runesL_length b _ _
  have hrun := run_runes_of_string (P := P) w s t el b hs ht he (by rw [hsz]; omega)
  rw [hsz] at hrun
  have hcap := grownCap_ge w (runesOf b).length 0 el
  generalize hcs : Conv.runesFrom b b.size 0 #[] ++ Array.replicate (grownCap w (runesOf b).length 0 el - (runesOf b).length) (.int .i32 0) = cs at hrun
  generalize grownCap w (runesOf b).length 0 el = cap at hrun hcap
  refine DL.run (w' := w.drew.alloc (.cells cs el)) hg hn (v := .slice (some ⟨w.heap.size, 0, none⟩) (runesOf b).length cap) ?_ (k w.heap.size _ cs cap ?_ (Nat.le_refl _) ?_ ?_ ?_ hcap)
  · simp only [execOp, hx, Sem.run_bind, hrun, Result.andThen_ok, Sem.run_pure]
  · exact (Fr.drawn w (w.drawn + 1)).tr (fr_alloc w.drew _)
  · show w.heap.size < (w.heap.push _).size; simp
  · exact blk_alloc w.drew _
  · intro i hi
    rw [← hcs, hR, Array.getElem?_append_left (by simpa using hi)]
    simp [hi]
theorem Y.sliceLH {x y z : Operand} {t el size b o len cap : Nat} {k k' : IntKind} {l h : Int} (ht : sliceT P t el size = true) (hx : ev e x = .slice (some ⟨b, o, none⟩) len cap) (hy : ev e y = .int k l) (hz : ev e z = .int k' h) (h0 : 0 ≤ l) (h1 : l ≤ h) (h2 : h ≤ cap) (h3 : l < cap) :
    Y P e ⟨dst, .slice t x (some y) (some z) none, ty, pos, af, g⟩ w (.slice (some ⟨b, o + l.toNat * size, none⟩) (h.toNat - l.toNat) (cap - l.toNat)) := by
  obtain ⟨e1, e2⟩ := sliceT_spec ht
  have hh : (h.toNat : Int) = h := Int.toNat_of_nonneg (by omega)
  have hp : 0 ≤ h := by omega
  have hc : ¬ cap = l.toNat := by omega
  unfold Y
  simp [execOp, Instr.sliceAt, Instr.slice, run_underlying e1, hx, hy, hz, Instr.sliceBounds, Instr.sliceBound, asIntOf, h0, h1, h2, hh, hp, e2, hc, add_addr]
theorem Y.slice1 {x y z : Operand} {t el size b o len cap : Nat} {k k' : IntKind} {l h : Int} (ht : sliceT P t el size = true) (hx : ev e x = .slice (some ⟨b, o, none⟩) len cap) (hy : ev e y = .int k l) (hz : ev e z = .int k' h) (h0 : 0 ≤ l) (h1 : h = l + 1) (h2 : h ≤ cap) :
    Y P e ⟨dst, .slice t x (some y) (some z) none, ty, pos, af, g⟩ w (.slice (some ⟨b, o + l.toNat * size, none⟩) 1 (cap - l.toNat)) := by
  have := Y.sliceLH (P := P) (w := w) (dst := dst) (ty := ty) (pos := pos) (af := af) (g := g) ht hx hy hz h0 (by omega) h2 (by omega)
  rw [show h.toNat - l.toNat = 1 by omega] at this
  exact this
theorem Y.negI {x : Operand} {t : TypeId} {a c : Int} (hx : ev e x = .int .i64 a) (hc : -a = c) (h1 : -9223372036854775808 ≤ -a) (h2 : -a ≤ 9223372036854775807) : Y P e ⟨dst, .unOp .neg t x, ty, pos, af, g⟩ w (.int .i64 c) := by
  have := Y.neg (P := P) (w := w) (dst := dst) (ty := ty) (pos := pos) (af := af) (g := g) (t := t) hx
  rw [show (0 : Int) - a = -a by omega, wrap_i64 h1 h2, hc] at this
  exact this
/-- string(r). -/
theorem Y.runeStr {x : Operand} {s t : Nat} {k : IntKind} {r : Int} (hs : (P.underlying s).isSome = true) (ht : P.underlying t = some .string) (hx : ev e x = .int k r) : Y P e ⟨dst, .convert s t x, ty, pos, af, g⟩ w (.string (Utf8.encode r)) := by
  obtain ⟨d, hd⟩ := Option.isSome_iff_exists.1 hs
  unfold Y; simp [execOp, convert, run_underlying hd, run_underlying ht, hx, Conv.intToString]
/-- string(l) of one rune. -/
theorem Y.rune1Str {x : Operand} {s t el b o cap : Nat} {r : Int} (hs : P.underlying s = some (.slice el)) (he : P.underlying el = some (.int .i32)) (ht : P.underlying t = some .string) (hx : ev e x = .slice (some ⟨b, o, none⟩) 1 cap) (hc : w.cell? ⟨b, o, none⟩ = some (.int .i32 r)) :
    Y P e ⟨dst, .convert s t x, ty, pos, af, g⟩ w (.string (Utf8.encode r)) := by
  have hl : (loadCells ⟨b, o, none⟩ 1).run P w = .ok #[.int .i32 r] w := by
    have := run_loadCells_list (P := P) w ⟨b, o, none⟩ [.int .i32 r] (fun j v hj => by
      obtain rfl : j = 0 := by have := (List.getElem?_eq_some_iff.1 hj).1; simpa using this
      rw [add_addr]
      simp only [List.getElem?_cons_zero, Option.some.injEq] at hj
      rw [← hj]; exact hc)
    simpa using this
  have h0 : ByteArray.empty ++ Utf8.encode r = Utf8.encode r := by
    apply ByteArray.ext
    simp
  have h1 : (Conv.runesToString (.slice (some ⟨b, o, none⟩) 1 cap)).run P w = .ok (.string (Utf8.encode r)) w := by
    simp [Conv.runesToString, hl, h0]
  unfold Y; simp [execOp, convert, run_underlying hs, run_underlying he, run_underlying ht, hx, h1]
/-- range over a string. -/
theorem DL.rangeStr {x : Operand} {t d : Nat} {s : ByteArray} (hg : wantB ops e g = true) (hn : Nat.blt d n = true) (ht : P.underlying t = some .string) (hx : ev e x = .string s)
    (k : ∀ b w', Fr [] w w' → w.heap.size ≤ b → b < w'.heap.size → w'.heap[b]? = some (.stringIter s 0) → DL P n ops rest (upd e d (.pointer (some ⟨b, 0, none⟩))) w' K) :
    DL P n ops (⟨some d, .range t x, ty, pos, af, g⟩ :: rest) e w K :=
  DL.new hg rfl hn (by simp [execOp, Instr.range, run_underlying ht, hx, newObj, Sem.run]) k
theorem DL.nextStr {x : Operand} {d b p : Nat} {s : ByteArray} (hg : wantB ops e g = true) (hn : Nat.blt d n = true) (hx : ev e x = .pointer (some ⟨b, 0, none⟩)) (hb : w.heap[b]? = some (.stringIter s p)) (hp : p < s.size)
    (k : ∀ w', Fr [b] w w' → w'.heap.size = w.heap.size → w'.heap[b]? = some (.stringIter s (p + (Utf8.decode s p).2)) → DL P n ops rest (upd e d (.tuple #[.bool true, .int .i64 p, .int .i32 (Utf8.decode s p).1])) w' K) :
    DL P n ops (⟨some d, .next x true, ty, pos, af, g⟩ :: rest) e w K := by
  have hlt := lt_of_blk hb
  have hget : w.heap[b] = .stringIter s p := by have := (Array.getElem?_eq_some_iff.1 hb).2; simpa using this
  refine DL.run hg hn (v := .tuple #[.bool true, .int .i64 p, .int .i32 (Utf8.decode s p).1]) (w' := { w with heap := w.heap.setIfInBounds b (.stringIter s (p + (Utf8.decode s p).2)) }) ?_ (k _ ⟨rfl, rfl, rfl, by simp, fun i hi hs => ?_⟩ (by simp) (by simp [hlt]))
  · simp [execOp, Instr.next, hx, getObj, setObj, Sem.run, hb, hp, goInt]
  · have hne : b ≠ i := fun h => hs (by simp [h])
    simp [Array.getElem?_setIfInBounds_ne hne]
theorem DL.overStr {x : Operand} {d b p : Nat} {s : ByteArray} (hg : wantB ops e g = true) (hn : Nat.blt d n = true) (hx : ev e x = .pointer (some ⟨b, 0, none⟩)) (hb : w.heap[b]? = some (.stringIter s p)) (hp : ¬ p < s.size)
    (k : DL P n ops rest (upd e d (.tuple #[.bool false])) w K) :
    DL P n ops (⟨some d, .next x true, ty, pos, af, g⟩ :: rest) e w K :=
  DL.run hg hn (by simp [execOp, Instr.next, hx, getObj, Sem.run, hb, hp]) k
end
end Go.Proofs.YtmbleojlnaofjaaDoor.D
