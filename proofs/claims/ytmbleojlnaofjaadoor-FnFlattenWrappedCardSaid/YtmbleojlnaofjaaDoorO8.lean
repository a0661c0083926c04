/- More laws: floats compared and cut, a function without a body, an empty slice literal, a map's look-up. -/
import Derived.Test.YtmbleojlnaofjaaDoorO7
import Derived.Test.YtmbleojlnaofjaaDoorFX
import Derived.Laws.Externs
import Derived.Laws.Cover2
namespace Go.Proofs.YtmbleojlnaofjaaDoor.D
open Go Go.RowKit Go.Deep
set_option linter.unusedVariables false
set_option linter.unusedSectionVars false
set_option linter.unusedSimpArgs false
section
variable {P : Program} {n : Nat} {e : Env} {w : World} {ops rest : List Oper} {K : Env → World → Prop} {dst : Option Tmp} {ty : TypeId} {pos : String} {af : Array Edge} {g : Option (Nat × Bool)}
theorem Y.fne {x y : Operand} {t u : TypeId} {a b : Nat} {r : Bool} (hx : ev e x = .float .f64 a) (hy : ev e y = .float .f64 b) (h : (FloatKind.f64.format.order a b != some .eq) = r) : Y P e ⟨dst, .binOp .neq t x y u, ty, pos, af, g⟩ w (.bool r) := by
  subst h; unfold Y; simp [execOp, hx, hy, eqGuard, binOp_float_cmp_neq]
theorem Y.fle {x y : Operand} {t u : TypeId} {a b : Nat} {r : Bool} (hx : ev e x = .float .f64 a) (hy : ev e y = .float .f64 b) (h : (FloatKind.f64.format.order a b == some .lt || FloatKind.f64.format.order a b == some .eq) = r) : Y P e ⟨dst, .binOp .leq t x y u, ty, pos, af, g⟩ w (.bool r) := by
  subst h; unfold Y; simp [execOp, hx, hy, eqGuard, binOp_float_cmp_leq]
theorem Y.flt {x y : Operand} {t u : TypeId} {a b : Nat} {r : Bool} (hx : ev e x = .float .f64 a) (hy : ev e y = .float .f64 b) (h : (FloatKind.f64.format.order a b == some .lt) = r) : Y P e ⟨dst, .binOp .lss t x y u, ty, pos, af, g⟩ w (.bool r) := by
  subst h; unfold Y; simp [execOp, hx, hy, eqGuard, binOp_float_cmp_lss]
theorem Y.fge {x y : Operand} {t u : TypeId} {a b : Nat} {r : Bool} (hx : ev e x = .float .f64 a) (hy : ev e y = .float .f64 b) (h : (FloatKind.f64.format.order a b == some .gt || FloatKind.f64.format.order a b == some .eq) = r) : Y P e ⟨dst, .binOp .geq t x y u, ty, pos, af, g⟩ w (.bool r) := by
  subst h; unfold Y; simp [execOp, hx, hy, eqGuard, binOp_float_cmp_geq]
theorem Y.convFI {x : Operand} {s t : TypeId} {a : Nat} {z : Int} (hs : (P.underlying s).isSome = true) (ht : P.underlying t = some (.int .i64)) (hx : ev e x = .float .f64 a) (h : floatToIntVal .f64 a .i64 = some z) : Y P e ⟨dst, .convert s t x, ty, pos, af, g⟩ w (.int .i64 z) := by
  unfold Y; simp [execOp, hx, run_convert_float_int (P := P) w s t .f64 .i64 a z hs ht h]
/-- A function without a body, of one argument. -/
theorem Y.ext1 {x : Operand} {f : FuncId} {fn : Func} {ats : Array TypeId} {en : Array Value → Sem Value} {a v : Value} (hf : P.funcs[f]? = some fn) (hname : (fn.name == "runtime.NumGoroutine") = false) (hb : fn.body.isNone = true) (hn : Extern.findNext fn = none) (he : Extern.find fn = some en)
    (hx : ev e x = a) (hr : (en #[a]).run P w = .ok v w) : Y P e ⟨dst, .call ⟨.value (.func f), #[x], ats⟩, ty, pos, af, g⟩ w v := by
  have h4 : execOp (ev e) ⟨dst, .call ⟨.value (.func f), #[x], ats⟩, ty, pos, af, g⟩ = callFunc f (#[] ++ #[x].map (ev e) ++ #[]) := rfl
  have h5 : (#[] ++ #[x].map (ev e) ++ #[]) = #[a] := by simp [hx]
  unfold Y
  rw [h4, h5, run_callFunc_extern hf hname hb hn he, hr]
  rfl
/-- A slice literal without elements. -/
theorem DL.buildSl0 {t el d : Nat} (hg : wantB ops e g = true) (hn : Nat.blt d n = true) (hu : P.underlying t = some (.slice el)) (hi : (P.info? el).isSome = true)
    (k : ∀ b w', Fr [] w w' → w.heap.size ≤ b → b < w'.heap.size → w'.heap[b]? = some (.cells #[] el (0, 0)) → DL P n ops rest (upd e d (.slice (some ⟨b, 0, none⟩) 0 0)) w' K) :
    DL P n ops (⟨some d, .buildSlice t 0 #[], ty, pos, af, g⟩ :: rest) e w K := by
  obtain ⟨i, hi⟩ := Option.isSome_iff_exists.1 hi
  have hrun : (Instr.buildSlice t 0 #[]).run P w = .ok (.slice (some ⟨w.heap.size, 0, none⟩) 0 0) (w.alloc (.cells #[] el)) := by
    have h0 : Array.range 0 = #[] := by simp [Array.range]
    simp [Instr.buildSlice, run_underlying hu, sizeOf, typeInfo, hi, newRow, Instr.fill, h0]
  refine DL.run (w' := { w with heap := w.heap.push (.cells #[] el) }) hg hn (v := .slice (some ⟨w.heap.size, 0, none⟩) 0 0) ?_ (k w.heap.size _ (fr_alloc w _) (Nat.le_refl _) (by simp) (blk_alloc w _))
  have e2 : execOp (ev e) ⟨some d, .buildSlice t 0 #[], ty, pos, af, g⟩ = (do pure (.value (← Instr.buildSlice t 0 #[]))) := by
    simp [execOp]
  rw [e2]
  simp only [Sem.run_bind, hrun, Result.andThen_ok, Sem.run_pure]
  rfl
theorem own_empty {w : World} {B el size b : Nat} (hb : w.heap[b]? = some (.cells #[] el (0, 0))) (hB : B ≤ b) : w.ownsRow B el size (.slice (some ⟨b, 0, none⟩) 0 0) 0 [] :=
  ⟨by simp, .inr ⟨b, 0, #[], rfl, hB, hb, Nat.le_refl _, by decide, by simp, by simp⟩⟩
theorem findNow_at {keys : List ByteArray} {es : Array MapEntry} {xs : Nat → Value} (he : ∀ (i : Nat) (h : i < keys.length), es[i]? = some ⟨.string keys[i], xs i, i⟩) (hs : es.size = keys.length) (hne : ∀ (i j : Nat) (hi : i < j) (hj : j < keys.length), keys[i]'(by omega) ≠ keys[j]) {k : Nat} (hk : k < keys.length) :
    Instr.findNow .string (.string keys[k]) es.toList 0 = some (some (k, xs k)) := by
  have key : ∀ (m i : Nat), i + m = k → Instr.findNow .string (.string keys[k]) (es.toList.drop i) i = some (some (k, xs k)) := by
    intro m
    induction m with
    | zero =>
      intro i hi
      obtain rfl : i = k := by omega
      have hl : i < es.toList.length := by simp; omega
      rw [List.drop_eq_getElem_cons hl]
      have h1 : es.toList[i] = ⟨.string keys[i], xs i, i⟩ := by
        have := he i hk
        rw [Array.getElem?_eq_getElem (by omega)] at this
        simpa using this
      unfold Instr.findNow
      rw [h1]
      have hf : (keys[i] == keys[i]) = true := (beq_self_eq_true (keys[i].data) : ((keys[i]).data == (keys[i]).data) = true)
      simp only [Instr.sameNow, hf]
    | succ m ih =>
      intro i hi
      have hl : i < es.toList.length := by simp; omega
      rw [List.drop_eq_getElem_cons hl]
      have h1 : es.toList[i] = ⟨.string (keys[i]'(by omega)), xs i, i⟩ := by
        have := he i (by omega)
        rw [Array.getElem?_eq_getElem (by omega)] at this
        simpa using this
      have hd : keys[i]'(by omega) ≠ keys[k] := hne i k (by omega) hk
      have hf : (keys[k] == keys[i]'(by omega)) = false := (beq_eq_false_iff_ne.2 (fun h => hd (ByteArray.ext h.symm)) : ((keys[k]).data == (keys[i]'(by omega)).data) = false)
      unfold Instr.findNow
      rw [h1]
      simp only [Instr.sameNow, hf]
      exact ih (i + 1) (by omega)
  have := key k 0 (by omega)
  simpa using this
/-- m[k] of a key that is there. -/
theorem Y.lookupAt {m x : Operand} {t kt el r clock : Nat} {es : Array MapEntry} {xs : Nat → Value} {keys : List ByteArray} {k : Nat} (ht : P.underlying t = some (.map kt el)) (hkt : P.underlying kt = some .string) (hm : ev e m = .map (some r)) (hk : k < keys.length) (hx : ev e x = .string keys[k])
    (hr : w.heap[r]? = some (.map es clock)) (hes : es.size = keys.length) (he : ∀ (i : Nat) (h : i < keys.length), es[i]? = some ⟨.string keys[i], xs i, i⟩) (hne : ∀ (i j : Nat) (hi : i < j) (hj : j < keys.length), keys[i]'(by omega) ≠ keys[j]) :
    Y P e ⟨dst, .lookup t m x false, ty, pos, af, g⟩ w (xs k) := by
  have hget : (getObj r).run P w = .ok (.map es clock) w := by simp [getObj, Sem.run, hr]
  have hck : (Instr.checkKey es.isEmpty 10000 kt (.string keys[k])).run P w = .ok () w := by
    unfold Instr.checkKey
    simp only [Sem.run_bind, run_underlying hkt, Result.andThen_ok]
    rfl
  have hfind : (Instr.findKey kt (.string keys[k]) es.toList).run P w = .ok (some (k, xs k)) w := by
    unfold Instr.findKey
    simp only [Sem.run_bind, run_underlying hkt, Result.andThen_ok, findNow_at he hes hne hk]
    rfl
  unfold Y
  simp only [execOp, hm, hx, Instr.lookup, Sem.run_bind, run_underlying ht, Result.andThen_ok, hget, Sem.run_pure, hck, hfind]
  rfl
end
end Go.Proofs.YtmbleojlnaofjaaDoor.D
