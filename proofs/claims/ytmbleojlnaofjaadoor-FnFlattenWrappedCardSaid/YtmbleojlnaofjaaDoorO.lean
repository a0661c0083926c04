/- The laws of the operations one by one. -/
import Derived.Test.YtmbleojlnaofjaaDoorY
namespace Go.Proofs.YtmbleojlnaofjaaDoor.D
open Go Go.RowKit
set_option linter.unusedVariables false
set_option linter.unusedSectionVars false
set_option linter.unusedSimpArgs false

theorem scalarT_spec {P : Program} {t : TypeId} (h : scalarT P t = true) : ∃ d, P.underlying t = some d ∧ (match d with | .struct _ | .array _ _ => false | _ => true) = true := by
  unfold scalarT at h
  cases hd : P.underlying t with
  | none => rw [hd] at h; cases h
  | some d => rw [hd] at h; refine ⟨d, rfl, ?_⟩; cases d <;> simp_all
theorem isAgg_scalar {P : Program} {t : TypeId} (h : scalarT P t = true) (w : World) : (isAgg t).run P w = .ok false w := by
  obtain ⟨d, hd, hm⟩ := scalarT_spec h
  simp only [isAgg, Sem.run_bind, run_underlying hd, Result.andThen]
  cases d <;> simp_all
theorem aggT_spec {P : Program} {t : TypeId} {m : Nat} (h : aggT P t m = true) : (∀ w, (isAgg t).run P w = .ok true w) ∧ (∀ w, (sizeOf t).run P w = .ok m w) := by
  unfold aggT at h
  rw [Bool.and_eq_true] at h
  obtain ⟨h1, h2⟩ := h
  constructor
  · intro w
    cases hd : P.underlying t with
    | none => rw [hd] at h1; cases h1
    | some d =>
      rw [hd] at h1
      simp only [isAgg, Sem.run_bind, run_underlying hd, Result.andThen]
      cases d <;> simp_all
  · intro w
    cases hi : P.info? t with
    | none => rw [hi] at h2; cases h2
    | some i => rw [hi] at h2; simp [sizeOf, typeInfo, hi]; simpa using h2
theorem add_addr (b o m : Nat) : (⟨b, o, none⟩ : Addr).add m = ⟨b, o + m, none⟩ := by
  unfold Addr.add
  split
  · subst_vars; rfl
  · rfl
theorem wrap_i64 {x : Int} (h1 : -9223372036854775808 ≤ x) (h2 : x ≤ 9223372036854775807) : IntKind.i64.wrap x = x := IntWalk.i64_in _ ⟨by omega, by omega⟩
/-- The cells of an address on read so. -/
def CellsAt (w : World) (b o : Nat) (cs : Array Value) : Prop := ∀ i, i < cs.size → w.cell? ⟨b, o + i, none⟩ = cs[i]?
theorem CellsAt.ofBlk {w : World} {b : Nat} {cs : Array Value} {t : TypeId} {fr : Nat × Nat} (h : w.heap[b]? = some (.cells cs t fr)) : CellsAt w b 0 cs := by
  intro i hi
  simp [World.cell?, h]
theorem CellsAt.cell {w : World} {b o : Nat} {cs : Array Value} (h : CellsAt w b o cs) (i : Nat) {v : Value} (hv : cs[i]? = some v) : w.cell? ⟨b, o + i, none⟩ = some v := by
  rw [h i (Array.getElem?_eq_some_iff.1 hv).1, hv]
theorem CellsAt.fr {S : List Nat} {w w' : World} {b o : Nat} {cs : Array Value} (h : CellsAt w b o cs) (f : Fr S w w') (hs : b ∉ S) : CellsAt w' b o cs := by
  intro i hi
  have := h i hi
  rw [Array.getElem?_eq_getElem hi] at this ⊢
  exact f.cell this hs
theorem CellsAt.lt {w : World} {b o : Nat} {cs : Array Value} (h : CellsAt w b o cs) (hp : 0 < cs.size) : b < w.heap.size := by
  have := h 0 hp
  rw [Array.getElem?_eq_getElem hp] at this
  exact World.block_lt_of_cell? w _ this
theorem loadVar_agg {P : Program} {t : TypeId} {w : World} {b o : Nat} {cs : Array Value} (ht : aggT P t cs.size = true) (h : CellsAt w b o cs) : (loadVar t ⟨b, o, none⟩).run P w = .ok (.agg cs) w := by
  obtain ⟨h1, h2⟩ := aggT_spec ht
  have hl : (loadCells ⟨b, o, none⟩ cs.toList.length).run P w = .ok cs.toList.toArray w := by
    refine run_loadCells_list w _ _ (fun j v hv => ?_)
    rw [add_addr]
    refine h.cell j ?_
    simpa using hv
  have hl' : (loadCells ⟨b, o, none⟩ cs.size).run P w = .ok cs w := by simpa using hl
  unfold loadVar
  rw [Sem.run_bind, h1, Result.andThen_ok]
  simp only [if_true]
  rw [Sem.run_bind, h2, Result.andThen_ok, Sem.run_bind, hl', Result.andThen_ok]
  rfl
theorem loadVar_scalar {P : Program} {t : TypeId} {w : World} {a : Addr} {v : Value} (ht : scalarT P t = true) (h : w.cell? a = some v) : (loadVar t a).run P w = .ok v w := by
  simp [loadVar, isAgg_scalar ht, load, Sem.run, h]

section
variable {P : Program} {n : Nat} {e : Env} {w : World} {ops rest : List Oper} {K : Env → World → Prop} {dst : Option Tmp} {ty : TypeId} {pos : String} {af : Array Edge} {g : Option (Nat × Bool)}

/-! ### What only reads -/
theorem Y.move {x : Operand} : Y P e ⟨dst, .move x, ty, pos, af, g⟩ w (ev e x) := rfl
theorem Y.assign {x : Operand} : Y P e ⟨dst, .assign x, ty, pos, af, g⟩ w (ev e x) := rfl
theorem Y.load {x : Operand} {t : TypeId} {a : Addr} {v : Value} (ht : scalarT P t = true) (hx : ev e x = .pointer (some a)) (hc : w.cell? a = some v) : Y P e ⟨dst, .load t x, ty, pos, af, g⟩ w v := by
  unfold Y
  simp [execOp, Instr.loadAt, hx, Instr.sureAddr, loadVar_scalar ht hc]
theorem Y.loadB {x : Operand} {t u : TypeId} {b o : Nat} {cs : Array Value} {fr : Nat × Nat} {v : Value} (ht : scalarT P t = true) (hx : ev e x = .pointer (some ⟨b, o, none⟩)) (hb : w.heap[b]? = some (.cells cs u fr)) (hv : cs[o]? = some v) :
    Y P e ⟨dst, .load t x, ty, pos, af, g⟩ w v := Y.load ht hx (cell_of_blk hb hv)
theorem Y.loadA {x : Operand} {t : TypeId} {b o : Nat} {cs : Array Value} (ht : aggT P t cs.size = true) (hx : ev e x = .pointer (some ⟨b, o, none⟩)) (hc : CellsAt w b o cs) : Y P e ⟨dst, .load t x, ty, pos, af, g⟩ w (.agg cs) := by
  unfold Y
  simp [execOp, Instr.loadAt, hx, Instr.sureAddr, loadVar_agg ht hc]
theorem Y.loadAn {x : Operand} {t : TypeId} {b o m : Nat} {cs : Array Value} (hs : cs.size = m) (ht : aggT P t m = true) (hx : ev e x = .pointer (some ⟨b, o, none⟩)) (hc : CellsAt w b o cs) : Y P e ⟨dst, .load t x, ty, pos, af, g⟩ w (.agg cs) :=
  Y.loadA (by rw [hs]; exact ht) hx hc
theorem Y.loadAB {x : Operand} {t u : TypeId} {b : Nat} {cs : Array Value} {fr : Nat × Nat} (ht : aggT P t cs.size = true) (hx : ev e x = .pointer (some ⟨b, 0, none⟩)) (hb : w.heap[b]? = some (.cells cs u fr)) :
    Y P e ⟨dst, .load t x, ty, pos, af, g⟩ w (.agg cs) := Y.loadA ht hx (.ofBlk hb)
/-- A whole block that holds a struct. -/
theorem Y.loadW {x : Operand} {t u : TypeId} {b : Nat} {cs : Array Value} {fr : Nat × Nat} (hx : ev e x = .pointer (some ⟨b, 0, none⟩)) (hb : w.heap[b]? = some (.cells cs u fr)) (ht : aggT P t cs.size = true) :
    Y P e ⟨dst, .load t x, ty, pos, af, g⟩ w (.agg cs) := Y.loadA ht hx (.ofBlk hb)
theorem Y.field {x : Operand} {s f off b o : Nat} (hf : fieldT P s f off = true) (hx : ev e x = .pointer (some ⟨b, o, none⟩)) : Y P e ⟨dst, .fieldAddr s x f, ty, pos, af, g⟩ w (.pointer (some ⟨b, o + off, none⟩)) := by
  unfold fieldT at hf
  cases hu : P.underlying s with
  | none => rw [hu] at hf; cases hf
  | some d =>
    rw [hu] at hf
    cases d with
    | struct fs =>
      simp only at hf
      cases hfs : fs[f]? with
      | none => rw [hfs] at hf; cases hf
      | some fd =>
        rw [hfs] at hf
        simp only [Bool.and_eq_true, beq_iff_eq] at hf
        obtain ⟨h1, h2⟩ := hf
        cases hi : P.info? fd.type with
        | none => rw [hi] at h2; cases h2
        | some i =>
          rw [hi] at h2
          have hsz : ¬ i.size = 0 := by simpa using h2
          unfold Y
          simp [execOp, Instr.fieldAt, hx, Instr.sureAddr, run_underlying hu, hfs, fieldPlace, sizeOf, typeInfo, hi, hsz, add_addr, h1]
    | _ => cases hf
theorem sliceT_spec {t el size : Nat} (h : sliceT P t el size = true) : P.underlying t = some (.slice el) ∧ ∀ w, (sizeOf el).run P w = .ok size w := by
  unfold sliceT at h
  cases hu : P.underlying t with
  | none => rw [hu] at h; cases h
  | some d =>
    rw [hu] at h
    cases d with
    | slice e' =>
      simp only [Bool.and_eq_true, beq_iff_eq] at h
      obtain ⟨h1, h2⟩ := h
      subst h1
      refine ⟨rfl, fun w => ?_⟩
      cases hi : P.info? e' with
      | none => rw [hi] at h2; cases h2
      | some i => rw [hi] at h2; simp [sizeOf, typeInfo, hi]; simpa using h2
    | _ => cases h
theorem Y.index {x ix : Operand} {t el size b o len cap i : Nat} {k : IntKind} {z : Int} (ht : sliceT P t el size = true) (hx : ev e x = .slice (some ⟨b, o, none⟩) len cap) (hi : ev e ix = .int k z) (hz : z = (i : Int)) (hlt : i < len) :
    Y P e ⟨dst, .indexAddr t x ix, ty, pos, af, g⟩ w (.pointer (some ⟨b, o + i * size, none⟩)) := by
  obtain ⟨h1, h2⟩ := sliceT_spec ht
  subst hz
  unfold Y
  simp [execOp, Instr.indexAt, hx, hi, asIntOf, run_underlying h1, h2, hlt, add_addr]
theorem Y.lenS {x : Operand} {t el : Nat} {a : Option Addr} {len cap : Nat} (ht : P.underlying t = some (.slice el)) (hx : ev e x = .slice a len cap) :
    Y P e ⟨dst, .call ⟨.builtin .len, #[x], #[t]⟩, ty, pos, af, g⟩ w (.int .i64 len) := by
  unfold Y
  simp [execOp, resolve, invoke, builtin, Builtin.len_, hx, run_underlying ht, goInt]
theorem Y.lenStr {x : Operand} {t : Nat} {s : ByteArray} (ht : P.underlying t = some .string) (hx : ev e x = .string s) :
    Y P e ⟨dst, .call ⟨.builtin .len, #[x], #[t]⟩, ty, pos, af, g⟩ w (.int .i64 s.size) := by
  unfold Y
  simp [execOp, resolve, invoke, builtin, Builtin.len_, hx, run_underlying ht, goInt]
theorem Y.lenMap {x : Operand} {t k el r : Nat} {es : Array MapEntry} {c : Nat} (ht : P.underlying t = some (.map k el)) (hx : ev e x = .map (some r)) (hr : w.heap[r]? = some (.map es c)) :
    Y P e ⟨dst, .call ⟨.builtin .len, #[x], #[t]⟩, ty, pos, af, g⟩ w (.int .i64 es.size) := by
  unfold Y
  simp [execOp, resolve, invoke, builtin, Builtin.len_, hx, run_underlying ht, goInt, getObj, Sem.run, hr]
theorem Y.add {x y : Operand} {t u : TypeId} {k : IntKind} {a b : Int} (hx : ev e x = .int k a) (hy : ev e y = .int k b) : Y P e ⟨dst, .binOp .add t x y u, ty, pos, af, g⟩ w (.int k (k.wrap (a + b))) := by
  unfold Y; simp [execOp, hx, hy, eqGuard, binOp, Op.intArith]
theorem Y.sub {x y : Operand} {t u : TypeId} {k : IntKind} {a b : Int} (hx : ev e x = .int k a) (hy : ev e y = .int k b) : Y P e ⟨dst, .binOp .sub t x y u, ty, pos, af, g⟩ w (.int k (k.wrap (a - b))) := by
  unfold Y; simp [execOp, hx, hy, eqGuard, binOp, Op.intArith]
theorem Y.mul {x y : Operand} {t u : TypeId} {k : IntKind} {a b : Int} (hx : ev e x = .int k a) (hy : ev e y = .int k b) : Y P e ⟨dst, .binOp .mul t x y u, ty, pos, af, g⟩ w (.int k (k.wrap (a * b))) := by
  unfold Y; simp [execOp, hx, hy, eqGuard, binOp, Op.intArith]
/-- + and - of int where the sum is known to fit: c is what the slot holds. -/
theorem Y.addI {x y : Operand} {t u : TypeId} {a b : Int} {c : Int} (hx : ev e x = .int .i64 a) (hy : ev e y = .int .i64 b) (hc : a + b = c) (h1 : -9223372036854775808 ≤ a + b) (h2 : a + b ≤ 9223372036854775807) : Y P e ⟨dst, .binOp .add t x y u, ty, pos, af, g⟩ w (.int .i64 c) := by
  have := Y.add (P := P) (w := w) (dst := dst) (t := t) (u := u) (ty := ty) (pos := pos) (af := af) (g := g) hx hy
  rw [wrap_i64 h1 h2, hc] at this; exact this
theorem Y.subI {x y : Operand} {t u : TypeId} {a b : Int} {c : Int} (hx : ev e x = .int .i64 a) (hy : ev e y = .int .i64 b) (hc : a - b = c) (h1 : -9223372036854775808 ≤ a - b) (h2 : a - b ≤ 9223372036854775807) : Y P e ⟨dst, .binOp .sub t x y u, ty, pos, af, g⟩ w (.int .i64 c) := by
  have := Y.sub (P := P) (w := w) (dst := dst) (t := t) (u := u) (ty := ty) (pos := pos) (af := af) (g := g) hx hy
  rw [wrap_i64 h1 h2, hc] at this; exact this
theorem Y.quo {x y : Operand} {t u : TypeId} {k : IntKind} {a b : Int} (hx : ev e x = .int k a) (hy : ev e y = .int k b) (hb : b ≠ 0) : Y P e ⟨dst, .binOp .quo t x y u, ty, pos, af, g⟩ w (.int k (k.wrap (a.tdiv b))) := by
  unfold Y; simp [execOp, hx, hy, eqGuard, binOp, Op.intDiv, hb]
theorem Y.rem {x y : Operand} {t u : TypeId} {k : IntKind} {a b : Int} (hx : ev e x = .int k a) (hy : ev e y = .int k b) (hb : b ≠ 0) : Y P e ⟨dst, .binOp .rem t x y u, ty, pos, af, g⟩ w (.int k (a.tmod b)) := by
  unfold Y; simp [execOp, hx, hy, eqGuard, binOp, Op.intDiv, hb]
theorem Y.eq {x y : Operand} {t u : TypeId} {k : IntKind} {a b : Int} (hx : ev e x = .int k a) (hy : ev e y = .int k b) : Y P e ⟨dst, .binOp .eql t x y u, ty, pos, af, g⟩ w (.bool (decide (a = b))) := by
  unfold Y; simp [execOp, hx, hy, eqGuard, binOp, Op.intCmp]; rfl
theorem Y.ne {x y : Operand} {t u : TypeId} {k : IntKind} {a b : Int} (hx : ev e x = .int k a) (hy : ev e y = .int k b) : Y P e ⟨dst, .binOp .neq t x y u, ty, pos, af, g⟩ w (.bool (decide (¬ a = b))) := by
  unfold Y; simp [execOp, hx, hy, eqGuard, binOp, Op.intCmp]; rfl
theorem Y.lt {x y : Operand} {t u : TypeId} {k : IntKind} {a b : Int} (hx : ev e x = .int k a) (hy : ev e y = .int k b) : Y P e ⟨dst, .binOp .lss t x y u, ty, pos, af, g⟩ w (.bool (decide (a < b))) := by
  unfold Y; simp [execOp, hx, hy, eqGuard, binOp, Op.intCmp]
theorem Y.le {x y : Operand} {t u : TypeId} {k : IntKind} {a b : Int} (hx : ev e x = .int k a) (hy : ev e y = .int k b) : Y P e ⟨dst, .binOp .leq t x y u, ty, pos, af, g⟩ w (.bool (decide (a ≤ b))) := by
  unfold Y; simp [execOp, hx, hy, eqGuard, binOp, Op.intCmp]
theorem Y.gt {x y : Operand} {t u : TypeId} {k : IntKind} {a b : Int} (hx : ev e x = .int k a) (hy : ev e y = .int k b) : Y P e ⟨dst, .binOp .gtr t x y u, ty, pos, af, g⟩ w (.bool (decide (b < a))) := by
  unfold Y; simp [execOp, hx, hy, eqGuard, binOp, Op.intCmp]
theorem Y.ge {x y : Operand} {t u : TypeId} {k : IntKind} {a b : Int} (hx : ev e x = .int k a) (hy : ev e y = .int k b) : Y P e ⟨dst, .binOp .geq t x y u, ty, pos, af, g⟩ w (.bool (decide (b ≤ a))) := by
  unfold Y; simp [execOp, hx, hy, eqGuard, binOp, Op.intCmp]
theorem toList_inj {a b : ByteArray} : (a.toList == b.toList) = decide (a = b) := by
  by_cases h : a = b
  · subst h; simp
  · have : ¬ a.toList = b.toList := fun h' => h (by rw [ByteArray.toList_eq, ByteArray.toList_eq] at h'; exact ByteArray.ext (Array.toList_inj.1 h'))
    simp [h, this]
theorem Y.seq {x y : Operand} {t u : TypeId} {a b : ByteArray} (hx : ev e x = .string a) (hy : ev e y = .string b) : Y P e ⟨dst, .binOp .eql t x y u, ty, pos, af, g⟩ w (.bool (decide (a = b))) := by
  unfold Y; rw [← toList_inj]; simp [execOp, hx, hy, eqGuard, binOp, Op.stringOp]
theorem Y.sne {x y : Operand} {t u : TypeId} {a b : ByteArray} (hx : ev e x = .string a) (hy : ev e y = .string b) : Y P e ⟨dst, .binOp .neq t x y u, ty, pos, af, g⟩ w (.bool (!decide (a = b))) := by
  unfold Y; rw [← toList_inj]; simp [execOp, hx, hy, eqGuard, binOp, Op.stringOp]
theorem Y.slt {x y : Operand} {t u : TypeId} {a b : ByteArray} (hx : ev e x = .string a) (hy : ev e y = .string b) : Y P e ⟨dst, .binOp .lss t x y u, ty, pos, af, g⟩ w (.bool (Op.bytesLess a.toList b.toList)) := by
  unfold Y; simp [execOp, hx, hy, eqGuard, binOp, Op.stringOp]
theorem Y.sge {x y : Operand} {t u : TypeId} {a b : ByteArray} (hx : ev e x = .string a) (hy : ev e y = .string b) : Y P e ⟨dst, .binOp .geq t x y u, ty, pos, af, g⟩ w (.bool (!Op.bytesLess a.toList b.toList)) := by
  unfold Y; simp [execOp, hx, hy, eqGuard, binOp, Op.stringOp]
theorem Y.sgt {x y : Operand} {t u : TypeId} {a b : ByteArray} (hx : ev e x = .string a) (hy : ev e y = .string b) : Y P e ⟨dst, .binOp .gtr t x y u, ty, pos, af, g⟩ w (.bool (!(Op.bytesLess a.toList b.toList || decide (a = b)))) := by
  unfold Y; rw [← toList_inj]; simp [execOp, hx, hy, eqGuard, binOp, Op.stringOp]
theorem Y.beq {x y : Operand} {t u : TypeId} {a b : Bool} (ht : P.underlying t = some .bool) (hx : ev e x = .bool a) (hy : ev e y = .bool b) : Y P e ⟨dst, .binOp .eql t x y u, ty, pos, af, g⟩ w (.bool (a == b)) := by
  have h1 : (Op.equal t (.bool a) (.bool b)).run P w = .ok (a == b) w := by
    unfold Op.equal Op.maxDepth Op.equalIn
    simp only [Sem.run_bind, run_underlying ht, Result.andThen]
    rfl
  have h2 : binOp .eql t (.bool a) (.bool b) = (do pure (.bool (← Op.equal t (.bool a) (.bool b)))) := rfl
  unfold Y
  simp only [execOp, hx, hy, eqGuard_at_bool, h2, Sem.run_bind, Sem.run_pure, Result.andThen_ok, h1]
theorem Y.cat {x y : Operand} {t u : TypeId} {a b : ByteArray} (hx : ev e x = .string a) (hy : ev e y = .string b) (h : a.size + b.size ≤ 9223372036854775807) : Y P e ⟨dst, .binOp .add t x y u, ty, pos, af, g⟩ w (.string (a ++ b)) := by
  unfold Y
  have : ¬ (9223372036854775807 : Int) < (a.size : Int) + (b.size : Int) := by omega
  simp [execOp, hx, hy, eqGuard, binOp, Op.stringOp, IntKind.max_i64, this]
theorem Y.not {x : Operand} {t : TypeId} {b : Bool} (hx : ev e x = .bool b) : Y P e ⟨dst, .unOp .not t x, ty, pos, af, g⟩ w (.bool (!b)) := by
  unfold Y; simp [execOp, hx, Op.unary]
theorem Y.neg {x : Operand} {t : TypeId} {k : IntKind} {a : Int} (hx : ev e x = .int k a) : Y P e ⟨dst, .unOp .neg t x, ty, pos, af, g⟩ w (.int k (k.wrap (0 - a))) := by
  unfold Y; simp [execOp, hx, Op.unary, Op.intArith]
theorem ifaceFree_spec {t : TypeId} (h : ifaceFree P t = true) : ∃ d, P.underlying t = some d ∧ ∀ ms, d ≠ .interface ms := by
  unfold ifaceFree at h
  cases hd : P.underlying t with
  | none => rw [hd] at h; cases h
  | some d => rw [hd] at h; refine ⟨d, rfl, fun ms hm => ?_⟩; subst hm; cases h
theorem Y.mkI {x : Operand} {t : TypeId} (ht : ifaceFree P t = true) : Y P e ⟨dst, .makeInterface t x, ty, pos, af, g⟩ w (.iface t (ev e x)) := by
  obtain ⟨d, hd, hm⟩ := ifaceFree_spec ht
  unfold Y
  simp only [execOp, Instr.makeInterface, Sem.run_bind, run_underlying hd, Result.andThen]
  cases d <;> first | rfl | exact absurd rfl (hm _)
theorem Y.asYes {x : Operand} {s t : TypeId} {v : Value} (ht : ifaceFree P t = true) (hx : ev e x = .iface t v) : Y P e ⟨dst, .typeAssert x s t true, ty, pos, af, g⟩ w (.tuple #[v, .bool true]) := by
  obtain ⟨d, hd, hm⟩ := ifaceFree_spec ht
  unfold Y
  simp only [execOp, Instr.typeAssert, Sem.run_bind, run_underlying hd, Result.andThen, hx]
  cases d <;> first | exact absurd rfl (hm _) | simp
theorem Y.as1 {x : Operand} {s t : TypeId} {v : Value} (ht : ifaceFree P t = true) (hx : ev e x = .iface t v) : Y P e ⟨dst, .typeAssert x s t false, ty, pos, af, g⟩ w v := by
  obtain ⟨d, hd, hm⟩ := ifaceFree_spec ht
  unfold Y
  simp only [execOp, Instr.typeAssert, Sem.run_bind, run_underlying hd, Result.andThen, hx]
  cases d <;> first | exact absurd rfl (hm _) | simp
def zeroT (P : Program) (t : TypeId) : Option Value := (P.info? t).bind (·.zero)
theorem run_zeroT {t : TypeId} {z : Value} (h : zeroT P t = some z) (w : World) : (zeroValue t).run P w = .ok z w := by
  unfold zeroT at h
  cases hi : P.info? t with
  | none => rw [hi] at h; cases h
  | some i => rw [hi] at h; simp only [Option.bind_some] at h; simp [zeroValue, typeInfo, hi, h]
theorem Y.asNo {x : Operand} {s t u : TypeId} {v z : Value} (ht : ifaceFree P t = true) (hz : zeroT P t = some z) (hx : ev e x = .iface u v) (hu : Nat.beq u t = false) : Y P e ⟨dst, .typeAssert x s t true, ty, pos, af, g⟩ w (.tuple #[z, .bool false]) := by
  obtain ⟨d, hd, hm⟩ := ifaceFree_spec ht
  have hne : ¬ u = t := fun h => by rw [h, Nat.beq_refl] at hu; cases hu
  unfold Y
  simp only [execOp, Instr.typeAssert, Sem.run_bind, run_underlying hd, Result.andThen, hx]
  cases d <;> first | exact absurd rfl (hm _) | simp [hne, run_zeroT hz]
theorem Y.asNil {x : Operand} {s t : TypeId} {z : Value} (ht : ifaceFree P t = true) (hz : zeroT P t = some z) (hx : ev e x = .nilIface) : Y P e ⟨dst, .typeAssert x s t true, ty, pos, af, g⟩ w (.tuple #[z, .bool false]) := by
  obtain ⟨d, hd, hm⟩ := ifaceFree_spec ht
  unfold Y
  simp only [execOp, Instr.typeAssert, Sem.run_bind, run_underlying hd, Result.andThen, hx]
  cases d <;> first | exact absurd rfl (hm _) | simp [run_zeroT hz]
theorem Y.extract {x : Operand} {i : Nat} {vs : Array Value} {v : Value} (hx : ev e x = .tuple vs) (hv : vs[i]? = some v) : Y P e ⟨dst, .extract x i, ty, pos, af, g⟩ w v := by
  unfold Y; simp [execOp, Instr.extract, hx, hv]
theorem Y.pickT {c x y : Operand} (hc : ev e c = .bool true) : Y P e ⟨dst, .pick c x y, ty, pos, af, g⟩ w (ev e x) := by
  unfold Y; simp [execOp, asBool, hc]
theorem Y.pickF {c x y : Operand} (hc : ev e c = .bool false) : Y P e ⟨dst, .pick c x y, ty, pos, af, g⟩ w (ev e y) := by
  unfold Y; simp [execOp, asBool, hc]
/-- p && q, of which q is told where p holds. -/
theorem Y.and {c x y : Operand} {p q : Bool} (hc : ev e c = .bool p) (hx : p = true → ev e x = .bool q) (hy : ev e y = .bool false) : Y P e ⟨dst, .pick c x y, ty, pos, af, g⟩ w (.bool (p && q)) := by
  cases p with
  | true => have := Y.pickT (P := P) (w := w) (dst := dst) (ty := ty) (pos := pos) (af := af) (g := g) (x := x) (y := y) hc; rw [hx rfl] at this; exact this
  | false => have := Y.pickF (P := P) (w := w) (dst := dst) (ty := ty) (pos := pos) (af := af) (g := g) (x := x) (y := y) hc; rw [hy] at this; exact this
theorem Y.or {c x y : Operand} {p q : Bool} (hc : ev e c = .bool p) (hx : ev e x = .bool true) (hy : p = false → ev e y = .bool q) : Y P e ⟨dst, .pick c x y, ty, pos, af, g⟩ w (.bool (p || q)) := by
  cases p with
  | true => have := Y.pickT (P := P) (w := w) (dst := dst) (ty := ty) (pos := pos) (af := af) (g := g) (x := x) (y := y) hc; rw [hx] at this; exact this
  | false => have := Y.pickF (P := P) (w := w) (dst := dst) (ty := ty) (pos := pos) (af := af) (g := g) (x := x) (y := y) hc; rw [hy rfl] at this; exact this
theorem Y.nil {x : Operand} {a : Addr} (hx : ev e x = .pointer (some a)) : Y P e ⟨dst, .nilCheck x, ty, pos, af, g⟩ w (.pointer (some a)) := by
  unfold Y; simp [execOp, hx]
theorem Y.convIF {x : Operand} {s t : TypeId} {k : IntKind} {a : Int} (hs : (P.underlying s).isSome = true) (ht : P.underlying t = some (.float .f64)) (hx : ev e x = .int k a) : Y P e ⟨dst, .convert s t x, ty, pos, af, g⟩ w (.float .f64 (FloatKind.f64.nearest a)) := by
  obtain ⟨d, hd⟩ := Option.isSome_iff_exists.1 hs
  unfold Y; simp [execOp, convert, run_underlying hd, run_underlying ht, hx, Conv.intToFloat]
theorem Y.convII {x : Operand} {s t : TypeId} {k k' : IntKind} {a : Int} (hs : (P.underlying s).isSome = true) (ht : P.underlying t = some (.int k')) (hx : ev e x = .int k a) : Y P e ⟨dst, .convert s t x, ty, pos, af, g⟩ w (.int k' (k'.wrap a)) := by
  obtain ⟨d, hd⟩ := Option.isSome_iff_exists.1 hs
  unfold Y; simp [execOp, convert, run_underlying hd, run_underlying ht, hx, Conv.intToInt]

/-! ### What makes or writes memory -/
theorem DL.new {o : Oper} {d : Nat} {ob : Obj} (hg : wantB ops e o.guard = true) (hd : o.dst = some d) (hn : Nat.blt d n = true) (h : (execOp (ev e) o).run P w = .ok (.value (.pointer (some ⟨w.heap.size, 0, none⟩))) { w with heap := w.heap.push ob })
    (k : ∀ b w', Fr [] w w' → w.heap.size ≤ b → b < w'.heap.size → w'.heap[b]? = some ob → DL P n ops rest (upd e d (.pointer (some ⟨b, 0, none⟩))) w' K) : DL P n ops (o :: rest) e w K := by
  refine DL.run hg (by rw [hd]; exact hn) h ?_
  rw [hd]
  exact k w.heap.size _ (fr_alloc w ob) (Nat.le_refl _) (by simp) (blk_alloc w ob)
theorem DL.box1 {x : Operand} {t : TypeId} {d : Nat} {v : Value} (hg : wantB ops e g = true) (hn : Nat.blt d n = true) (hx : ev e x = v) (hv : v.cells = #[v])
    (k : ∀ b w', Fr [] w w' → w.heap.size ≤ b → b < w'.heap.size → w'.heap[b]? = some (.cells #[v] t (0, 0)) → DL P n ops rest (upd e d (.pointer (some ⟨b, 0, none⟩))) w' K) :
    DL P n ops (⟨some d, .box t x, ty, pos, af, g⟩ :: rest) e w K :=
  DL.new hg rfl hn (by simp [execOp, Instr.box, newVar, newRow, newObj, hx, hv, Sem.run]) k
theorem DL.boxA {x : Operand} {t : TypeId} {d : Nat} {cs : Array Value} (hg : wantB ops e g = true) (hn : Nat.blt d n = true) (hx : ev e x = .agg cs)
    (k : ∀ b w', Fr [] w w' → w.heap.size ≤ b → b < w'.heap.size → w'.heap[b]? = some (.cells cs t (0, 0)) → DL P n ops rest (upd e d (.pointer (some ⟨b, 0, none⟩))) w' K) :
    DL P n ops (⟨some d, .box t x, ty, pos, af, g⟩ :: rest) e w K :=
  DL.new hg rfl hn (by simp [execOp, Instr.box, newVar, newRow, newObj, hx, Value.cells, Sem.run]) k
theorem DL.alloc {t : TypeId} {d : Nat} {z : Value} {cs : Array Value} (hg : wantB ops e g = true) (hn : Nat.blt d n = true) (hz : zeroT P t = some z) (hc : z.cells = cs)
    (k : ∀ b w', Fr [] w w' → w.heap.size ≤ b → b < w'.heap.size → w'.heap[b]? = some (.cells cs t (0, 0)) → DL P n ops rest (upd e d (.pointer (some ⟨b, 0, none⟩))) w' K) :
    DL P n ops (⟨some d, .alloc t, ty, pos, af, g⟩ :: rest) e w K :=
  DL.new hg rfl hn (by simp [execOp, Instr.alloc, run_zeroT hz, newVar, newRow, newObj, hc, Sem.run]) k
/-- A store of one cell into a block that nothing has frozen. -/
theorem DL.store {x y : Operand} {t u : TypeId} {b o : Nat} {cs : Array Value} {v : Value} (hg : wantB ops e g = true) (ht : P.cellsOf t = 1) (hi : (P.info? t).isSome = true) (hx : ev e x = .pointer (some ⟨b, o, none⟩)) (hy : ev e y = v) (hv : v.oneCell' = true)
    (hb : w.heap[b]? = some (.cells cs u (0, 0))) (ho : Nat.blt o cs.size = true)
    (k : ∀ w', Fr [b] w w' → w'.heap.size = w.heap.size → w'.heap[b]? = some (.cells (cs.setIfInBounds o v) u (0, 0)) → DL P n ops rest e w' K) :
    DL P n ops (⟨none, .store t x y, ty, pos, af, g⟩ :: rest) e w K := by
  have ho : o < cs.size := Nat.le_of_ble_eq_true ho
  obtain ⟨i, hi⟩ := Option.isSome_iff_exists.1 hi
  have hs : i.size = 1 := by simpa [Program.cellsOf, hi] using ht
  have hcell : v.cells = #[v] := by cases v <;> first | rfl | cases hv
  have hc : w.cell? ⟨b, o, none⟩ = some cs[o] := cell_of_blk hb (Array.getElem?_eq_getElem ho)
  have hf : w.frozen? ⟨b, o, none⟩ = false := by simp [World.frozen?, hb]
  have hst : (Sem.store .plain (Addr.add ⟨b, o, none⟩ 0) v (Sem.pure ())).run P w = .ok () (w.setCell ⟨b, o, none⟩ v) := by
    rw [add_addr, Nat.add_zero]
    cases v <;> first | (simp [Sem.run, hc, hf]; done) | cases hv
  refine DL.runU hg rfl (w' := w.setCell ⟨b, o, none⟩ v) ?_ ?_
  · simp [execOp, Instr.storeAt, hx, hy, Instr.sureAddr, storeVar, sizeOf, typeInfo, hi, hs, hcell, storeCells, Go.store, hst]
  · exact k _ (fr_setCell w ⟨b, o, none⟩ v) (by simp [World.setCell]) (blk_setCell v hb)
/-- A call of a function that is named. -/
structure Named (P : Program) (f : FuncId) : Prop where
  out : ∃ fn, P.funcs[f]? = some fn ∧ (fn.name == "runtime.NumGoroutine") = false ∧ fn.body.isNone = false
theorem execOp_call {f : FuncId} {xs : Array Operand} {ats : Array TypeId} (hf : Named P f) : (execOp (ev e) ⟨dst, .call ⟨.value (.func f), xs, ats⟩, ty, pos, af, g⟩).run P w = .ok (.enter f (xs.map (ev e))) w := by
  obtain ⟨fn, h1, h2, h3⟩ := hf.out
  have h4 : execOp (ev e) ⟨dst, .call ⟨.value (.func f), xs, ats⟩, ty, pos, af, g⟩ = callFunc f (#[] ++ xs.map (ev e) ++ #[]) := rfl
  have h5 : (#[] ++ xs.map (ev e) ++ #[]) = xs.map (ev e) := by simp
  rw [h4, h5]
  unfold callFunc
  simp only [Sem.run_bind, run_program, Result.andThen_ok, h1, h2, h3, Bool.false_eq_true, if_false]
  rfl
def evs (e : Env) : List Operand → List Value
  | [] => []
  | x :: r => ev e x :: evs e r
theorem evs_eq (e : Env) : ∀ l, evs e l = l.map (ev e)
  | [] => rfl
  | x :: r => by simp [evs, evs_eq e r]
/-- What is told of a call: it returns, and the world is framed. -/
def Ret (w : World) (S : List Nat) (post : Value → World → Prop) : Ending → World → Prop
  | .returned v, w' => Fr S w w' ∧ post v w'
  | _, _ => False
theorem DL.call {f : FuncId} {l : List Operand} {args : List Value} {ats : Array TypeId} {S : List Nat} {post : Value → World → Prop} (hg : wantB ops e g = true) (hn : ltB n dst = true) (hf : Named P f) (ha : evs e l = args)
    (hc : Calls P f args.toArray w (Ret w S post)) (k : ∀ v w', Fr S w w' → post v w' → DL P n ops rest (put e dst v) w' K) :
    DL P n ops (⟨dst, .call ⟨.value (.func f), l.toArray, ats⟩, ty, pos, af, g⟩ :: rest) e w K := by
  refine DL.op hg hn fun next a Q N hev hN hk => ?_
  unfold Oper.wp
  rw [hev, execOp_call hf, Oper.upon_enter]
  have : (l.toArray.map (ev e)) = args.toArray := by rw [← ha, evs_eq]; simp
  rw [this]
  refine hc.mono fun x w' hx => ?_
  cases x with
  | returned v => exact hN _ _ (hk _ _ (k v w' hx.1 hx.2))
  | _ => exact hx.elim

/-! ### A drawn region with calls that hand back values known ahead -/
/-- The operations of l, in every world of the class C: one value each. -/
structure DQ (P : Program) (n : Nat) (ops : List Oper) (C : World → Prop) (l : List Oper) (e : Env) (K : Env → Prop) : Prop where
  out : ∀ (a : Act) (Q : Act → Prop), Rep n a e → (∀ a' e', Rep n a' e' → (∀ t, t ∉ dstsL l → e' t = e t) → K e' → Q a') → wpQuiet P ops.toArray C Q l a
section
variable {C : World → Prop} {KQ : Env → Prop} {o : Oper}
theorem DQ.nil (h : KQ e) : DQ P n ops C [] e KQ := ⟨fun a Q ha hq => hq a e ha (fun _ _ => rfl) h⟩
theorem DQ.y {v : Value} (hg : wantB ops e o.guard = true) (hd : ltB n o.dst = true) (h : ∀ w, C w → Y P e o w v) (k : DQ P n ops C rest (put e o.dst v) KQ) : DQ P n ops C (o :: rest) e KQ := by
  refine ⟨fun a Q ha hq => ?_⟩
  unfold wpQuiet
  rw [wantB_eq ha, hg, if_pos rfl]
  refine ⟨v, fun w hw => ?_, k.out _ _ (ha.put o.dst v (ltB_spec hd)) (fun a' e' h1 h2 h3 => hq a' e' h1 (fun t ht => ?_) h3)⟩
  · unfold Oper.quietAt
    rw [ha.eval, h w hw]
    exact ⟨rfl, rfl⟩
  · obtain ⟨k1, k2⟩ := dstsL_cons ht
    rw [h2 t k1, put_ne _ k2]
theorem DQ.skip (hg : wantB ops e o.guard = false) (hd : ltB n o.dst = true) (k : DQ P n ops C rest (put e o.dst undef) KQ) : DQ P n ops C (o :: rest) e KQ := by
  refine ⟨fun a Q ha hq => ?_⟩
  unfold wpQuiet
  rw [wantB_eq ha, hg, if_neg (by simp)]
  refine k.out _ _ (ha.put o.dst undef (ltB_spec hd)) (fun a' e' h1 h2 h3 => hq a' e' h1 (fun t ht => ?_) h3)
  obtain ⟨k1, k2⟩ := dstsL_cons ht
  rw [h2 t k1, put_ne _ k2]
theorem DQ.call {w0 : World} {f : FuncId} {l : List Operand} {args : List Value} {ats : Array TypeId} {v : Value} (hg : wantB ops e g = true) (hn : ltB n dst = true) (hf : Named P f) (ha : evs e l = args)
    (hc : ∀ w, Fr [] w0 w → Calls P f args.toArray w (Ret w [] fun r _ => r = v)) (k : DQ P n ops (Fr [] w0) rest (put e dst v) KQ) :
    DQ P n ops (Fr [] w0) (⟨dst, .call ⟨.value (.func f), l.toArray, ats⟩, ty, pos, af, g⟩ :: rest) e KQ := by
  refine ⟨fun a Q ha' hq => ?_⟩
  unfold wpQuiet
  rw [wantB_eq ha', hg, if_pos rfl]
  refine ⟨v, fun w hw => ?_, k.out _ _ (ha'.put dst v (ltB_spec hn)) (fun a' e' h1 h2 h3 => hq a' e' h1 (fun t ht => ?_) h3)⟩
  · unfold Oper.quietAt
    rw [ha'.eval, execOp_call hf]
    have : (l.toArray.map (ev e)) = args.toArray := by rw [← ha, evs_eq]; simp
    rw [this]
    refine ⟨rfl, (hc w hw).mono fun x w' hx => ?_⟩
    cases x with
    | returned r => exact ⟨by rw [hx.2], hw.tr hx.1⟩
    | _ => exact hx.elim
  · obtain ⟨k1, k2⟩ := dstsL_cons ht
    rw [h2 t k1, put_ne _ k2]
theorem DC.quiet {id : Nat} {l : List Oper} {Q : Exit → Env → World → Prop} (hm : P.follows .mixedOrders = true) (hB : Region.lexB .any l.toArray = true)
    (h : DQ P n l (Fr [] w) l e (fun e' => ∀ w', Fr [] w w' → Q .normal e' w')) : DC P n (.region id l.toArray true) e w Q := by
  refine ⟨fun a ha => ?_⟩
  refine wp_region_quiet (C := Fr [] w) hm hB (Fr.drawn w (w.drawn + 1)) ?_
  have := h.out a (fun a' => ∀ w', Fr [] w w' → (∃ e', Rep n a' e' ∧ (∀ t, t ∉ dstsC (.region id l.toArray true) → e' t = e t) ∧ Q .normal e' w')) ha
    (fun a' e' h1 h2 h3 w' hw => ⟨e', h1, fun t ht => h2 t (by simpa [dstsC] using ht), h3 w' hw⟩)
  simpa using this
end

/-! ### A function -/
def resE (P : Program) (e : Env) (w : World) : List ResultVar → List Value → Prop
  | [], [] => True
  | .tmp t :: r, v :: vs => e t = v ∧ resE P e w r vs
  | .cell t ty :: r, v :: vs => (∃ a, e t = .pointer (some a) ∧ (loadVar ty a).run P w = .ok v w) ∧ resE P e w r vs
  | _, _ => False
def tupV : List Value → Value
  | [v] => v
  | vs => .tuple vs.toArray
def FinQ (P : Program) (res : List ResultVar) (R : Ending → World → Prop) : Exit → Env → World → Prop
  | .ret, e, w | .normal, e, w => ∃ vs, resE P e w res vs ∧ R (.returned (tupV vs)) w
  | _, _, _ => False
def env0 (args : List Value) : Env := nthV args
def resOne (tmps : Array Value) : ResultVar → Sem Value
  | .tmp t => pure (tmps.getD t undef)
  | .cell a t => do loadVar t (← asAddr (tmps.getD a undef))
theorem results_run {fn : Func} {res : List ResultVar} (hr : fn.results = res.toArray) {a : Act} {m : Nat} (ha : Rep m a e) {vs : List Value} (h : resE P e w res vs) : (results fn a.tmps).run P w = .ok (tupV vs) w := by
  have g1 : ∀ t, (resOne a.tmps (.tmp t)).run P w = .ok (e t) w := fun t => by simp only [resOne, ha.get]; rfl
  have g2 : ∀ t ty ad v, e t = .pointer (some ad) → (loadVar ty ad).run P w = .ok v w → (resOne a.tmps (.cell t ty)).run P w = .ok v w := fun t ty ad v h1 h2 => by
    simp only [resOne, ha.get, h1, asAddr, Sem.run_bind, Sem.run_pure, Result.andThen_ok, h2]
  have key : ∀ (res : List ResultVar) (vs : List Value), resE P e w res vs → (res.mapM (resOne a.tmps)).run P w = .ok vs w := by
    intro res
    induction res with
    | nil => intro vs h; cases vs with
      | nil => rfl
      | cons _ _ => cases h
    | cons r res ih =>
      intro vs h
      cases vs with
      | nil => cases r <;> cases h
      | cons v vs =>
        rw [List.mapM_cons]
        cases r with
        | tmp t =>
          have h2 := ih vs h.2
          simp only [Sem.run_bind, g1 t, Result.andThen_ok, h2, h.1, Sem.run_pure]
        | cell b t =>
          obtain ⟨⟨ad, h1, h2⟩, h3⟩ := h
          have h4 := ih vs h3
          simp only [Sem.run_bind, g2 b t ad v h1 h2, Result.andThen_ok, h4, Sem.run_pure]
  have h2 := key res vs h
  have h3 : (results fn a.tmps) = (do let vs ← fn.results.mapM (resOne a.tmps); pure (if h : vs.size = 1 then vs[0] else .tuple vs)) := rfl
  rw [h3, hr, List.mapM_toArray]
  simp only [Sem.run_bind, Sem.run_map, h2, Result.andThen_ok, Sem.run_pure]
  match vs with
  | [] => rfl
  | [v] => rfl
  | v :: u :: r => simp [tupV]
theorem nthV_eq (l : List Value) : ∀ t, nthV l t = l.getD t undef := by
  induction l with
  | nil => intro t; simp [nthV]
  | cons v l ih => intro t; cases t with
    | zero => simp [nthV]
    | succ t => simp [nthV, ih]
theorem calls_of {f : FuncId} {fn : Func} {body : Code} {args : List Value} {res : List ResultVar} {R : Ending → World → Prop} (hf : P.funcs[f]? = some fn) (hb : fn.body = some body) (hr : fn.results = res.toArray) (hn : fn.ntmps = n) (ha : Nat.ble args.length n = true)
    (h : DC P n body (env0 args) w (FinQ P res R)) : Calls P f args.toArray w R := by
  have ha := Nat.le_of_ble_eq_true ha
  refine calls_of_wp hf hb ?_
  have hrep : Rep n { tmps := args.toArray ++ Array.replicate (fn.ntmps - args.toArray.size) undef, defers := [] } (env0 args) := by
    refine ⟨rfl, by simp [hn]; omega, fun t => ?_⟩
    unfold env0
    rw [nthV_eq, Array.getD_eq_getD_getElem?, List.getD_eq_getElem?_getD]
    by_cases ht : t < args.length
    · rw [Array.getElem?_append_left (by simpa using ht)]; simp
    · rw [Array.getElem?_append_right (by simpa using ht), List.getElem?_eq_none (by omega), Array.getElem?_replicate]
      split <;> rfl
  refine wp_mono (h.out _ hrep) ?_
  rintro x a' w' ⟨e', h1, -, h3⟩
  cases x with
  | normal => obtain ⟨vs, k1, k2⟩ := h3; exact ⟨h1.defers, _, results_run hr h1 k1, k2⟩
  | ret => obtain ⟨vs, k1, k2⟩ := h3; exact ⟨h1.defers, _, results_run hr h1 k1, k2⟩
  | _ => exact h3.elim
theorem FinQ.ret1 {t : Nat} {v : Value} {R : Ending → World → Prop} (h : e t = v) (hR : R (.returned v) w) : FinQ P [.tmp t] R .ret e w := ⟨[v], ⟨h, trivial⟩, hR⟩
theorem FinQ.ret2 {t u : Nat} {v x : Value} {R : Ending → World → Prop} (h : e t = v) (h' : e u = x) (hR : R (.returned (.tuple #[v, x])) w) : FinQ P [.tmp t, .tmp u] R .ret e w := ⟨[v, x], ⟨h, h', trivial⟩, hR⟩
theorem FinQ.end0 {R : Ending → World → Prop} (hR : R (.returned (.tuple #[])) w) : FinQ P [] R .normal e w := ⟨[], trivial, hR⟩
theorem FinQ.ret0 {R : Ending → World → Prop} (hR : R (.returned (.tuple #[])) w) : FinQ P [] R .ret e w := ⟨[], trivial, hR⟩
theorem FinQ.retC {t ty b o : Nat} {cs : Array Value} {R : Ending → World → Prop} (h : e t = .pointer (some ⟨b, o, none⟩)) (ht : aggT P ty cs.size = true) (hc : CellsAt w b o cs) (hR : R (.returned (.agg cs)) w) : FinQ P [.cell t ty] R .ret e w :=
  ⟨[.agg cs], ⟨⟨_, h, loadVar_agg ht hc⟩, trivial⟩, hR⟩
theorem Ret.mk {w' : World} {S : List Nat} {post : Value → World → Prop} {v : Value} (h : Fr S w w') (hp : post v w') : Ret w S post (.returned v) w' := ⟨h, hp⟩
theorem DL.ifb {o : Oper} {b : Bool} (hg : wantB ops e o.guard = true) (hd : ltB n o.dst = true) (h : Y P e o w (.bool b)) (ht : b = true → DL P n ops rest (put e o.dst (.bool true)) w K)
    (hf : b = false → DL P n ops rest (put e o.dst (.bool false)) w K) : DL P n ops (o :: rest) e w K := by
  cases b with
  | true => exact DL.y hg hd h (ht rfl)
  | false => exact DL.y hg hd h (hf rfl)
end
end Go.Proofs.YtmbleojlnaofjaaDoor.D
