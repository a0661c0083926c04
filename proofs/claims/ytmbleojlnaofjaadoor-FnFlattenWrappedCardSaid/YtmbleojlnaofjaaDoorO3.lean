/- More laws: pieces of strings, type assertions to interfaces. -/
import Derived.Test.YtmbleojlnaofjaaDoorO2
import Derived.Laws.Slices
import Derived.Laws.Strings2
import Derived.Stop.Asserts
namespace Go.Proofs.YtmbleojlnaofjaaDoor.D
open Go Go.RowKit Go.Deep
set_option linter.unusedVariables false
set_option linter.unusedSectionVars false
set_option linter.unusedSimpArgs false
section
variable {P : Program} {n : Nat} {e : Env} {w : World} {ops rest : List Oper} {K : Env → World → Prop} {dst : Option Tmp} {ty : TypeId} {pos : String} {af : Array Edge} {g : Option (Nat × Bool)}
/-- s[:h], s[l:], s[l:h]. -/
theorem Y.strH {x y : Operand} {t : TypeId} {s : ByteArray} {k : IntKind} {h : Int} (ht : P.underlying t = some .string) (hx : ev e x = .string s) (hy : ev e y = .int k h) (h0 : 0 ≤ h) (h1 : h ≤ s.size) :
    Y P e ⟨dst, .slice t x none (some y) none, ty, pos, af, g⟩ w (.string (s.extract 0 h.toNat)) := by
  unfold Y
  simp [execOp, Instr.sliceAt, Instr.slice, run_underlying ht, hx, hy, Instr.sliceBounds, Instr.sliceBound, asIntOf, h0, h1]
theorem Y.strL {x y : Operand} {t : TypeId} {s : ByteArray} {k : IntKind} {l : Int} (ht : P.underlying t = some .string) (hx : ev e x = .string s) (hy : ev e y = .int k l) (h0 : 0 ≤ l) (h1 : l ≤ s.size) :
    Y P e ⟨dst, .slice t x (some y) none none, ty, pos, af, g⟩ w (.string (s.extract l.toNat s.size)) := by
  unfold Y
  simp [execOp, Instr.sliceAt, Instr.slice, run_underlying ht, hx, hy, Instr.sliceBounds, Instr.sliceBound, asIntOf, h0, h1]
theorem Y.strLH {x y z : Operand} {t : TypeId} {s : ByteArray} {k k' : IntKind} {l h : Int} (ht : P.underlying t = some .string) (hx : ev e x = .string s) (hy : ev e y = .int k l) (hz : ev e z = .int k' h) (h0 : 0 ≤ l) (h1 : l ≤ h) (h2 : h ≤ s.size) :
    Y P e ⟨dst, .slice t x (some y) (some z) none, ty, pos, af, g⟩ w (.string (s.extract l.toNat h.toNat)) := by
  unfold Y
  have hh : (h.toNat : Int) = h := Int.toNat_of_nonneg (by omega)
  have hp : 0 ≤ h := by omega
  simp [execOp, Instr.sliceAt, Instr.slice, run_underlying ht, hx, hy, hz, Instr.sliceBounds, Instr.sliceBound, asIntOf, h0, h1, h2, hh, hp]
/-- Closed tests: a type has, or lacks, the methods of an interface. -/
def lacksT (P : Program) (t u : TypeId) : Bool := match P.underlying t, P.info? u with
  | some (.interface want), some i => !(lacking want i.methods).isEmpty
  | _, _ => false
def hasT (P : Program) (t u : TypeId) : Bool := match P.underlying t, P.info? u with
  | some (.interface want), some i => (lacking want i.methods).isEmpty
  | _, _ => false
def isIface (P : Program) (t : TypeId) : Bool := match P.underlying t with | some (.interface _) => true | _ => false
theorem Y.asIfNo {x : Operand} {s t u : TypeId} {v z : Value} (ht : lacksT P t u = true) (hz : zeroT P t = some z) (hx : ev e x = .iface u v) : Y P e ⟨dst, .typeAssert x s t true, ty, pos, af, g⟩ w (.tuple #[z, .bool false]) := by
  unfold lacksT at ht
  split at ht
  · rename_i want i h1 h2
    obtain ⟨m, hm⟩ := missingMethod_some (want := want) (got := i.methods) (fun h => by rw [h] at ht; cases ht)
    unfold Y
    simp [execOp, Instr.typeAssert, run_underlying h1, hx, typeInfo, h2, hm, run_zeroT hz]
  · cases ht
theorem Y.asIfYes {x : Operand} {s t u : TypeId} {v : Value} (ht : hasT P t u = true) (hx : ev e x = .iface u v) : Y P e ⟨dst, .typeAssert x s t true, ty, pos, af, g⟩ w (.tuple #[.iface u v, .bool true]) := by
  unfold hasT at ht
  split at ht
  · rename_i want i h1 h2
    have hm := missingMethod_none (List.isEmpty_iff.1 ht)
    unfold Y
    simp [execOp, Instr.typeAssert, run_underlying h1, hx, typeInfo, h2, hm]
  · cases ht
theorem Y.asIfNil {x : Operand} {s t : TypeId} {z : Value} (ht : isIface P t = true) (hz : zeroT P t = some z) (hx : ev e x = .nilIface) : Y P e ⟨dst, .typeAssert x s t true, ty, pos, af, g⟩ w (.tuple #[z, .bool false]) := by
  unfold isIface at ht
  split at ht
  · rename_i want h1
    unfold Y
    simp [execOp, Instr.typeAssert, run_underlying h1, hx, run_zeroT hz]
  · cases ht
/-- nil against nil. -/
theorem Y.eqNilN {x : Operand} {t u : TypeId} {ms : Array (String × TypeId)} (ht : P.underlying t = some (.interface ms)) (hx : ev e x = .nilIface) : Y P e ⟨dst, .binOp .eql t x (.const .nilIface) u, ty, pos, af, g⟩ w (.bool true) := by
  have h1 : (Op.equal t .nilIface .nilIface).run P w = .ok true w := by
    unfold Op.equal Op.maxDepth Op.equalIn
    simp only [Sem.run_bind, run_underlying ht, Result.andThen]
    rfl
  have h2 : binOp .eql t .nilIface .nilIface = (do pure (.bool (← Op.equal t .nilIface .nilIface))) := rfl
  have h3 : ev e (.const .nilIface) = .nilIface := rfl
  have h4 : (eqGuard .eql t x (.const .nilIface) .nilIface .nilIface : Sem Unit).run P w = .ok () w := by cases x <;> rfl
  unfold Y
  simp only [execOp, hx, h3, h2, Sem.run_bind, Sem.run_pure, Result.andThen_ok, h1, h4]
theorem FinQ.retCT {t ty b o u : Nat} {cs : Array Value} {x : Value} {R : Ending → World → Prop} (h : e t = .pointer (some ⟨b, o, none⟩)) (ht : aggT P ty cs.size = true) (hc : CellsAt w b o cs) (hu : e u = x) (hR : R (.returned (.tuple #[.agg cs, x])) w) : FinQ P [.cell t ty, .tmp u] R .ret e w :=
  ⟨[.agg cs, x], ⟨⟨_, h, loadVar_agg ht hc⟩, hu, trivial⟩, hR⟩
/-- A struct within a block. -/
theorem Y.loadPart {x : Operand} {t u : TypeId} {b o : Nat} {cs sub : Array Value} {fr : Nat × Nat} (hx : ev e x = .pointer (some ⟨b, o, none⟩)) (hb : w.heap[b]? = some (.cells cs u fr)) (hs : cs.extract o (o + sub.size) = sub) (ht : aggT P t sub.size = true) :
    Y P e ⟨dst, .load t x, ty, pos, af, g⟩ w (.agg sub) := by
  refine Y.loadA ht hx (fun i hi => ?_)
  have h2 : sub[i]? = (cs.extract o (o + sub.size))[i]? := by rw [hs]
  rw [h2, Array.getElem?_extract]
  have h3 : (cs.extract o (o + sub.size)).size = sub.size := by rw [hs]
  have h4 : min (o + sub.size) cs.size - o = sub.size := by simpa using h3
  rw [h4, if_pos hi]
  simp [World.cell?, hb]
end
end Go.Proofs.YtmbleojlnaofjaaDoor.D
