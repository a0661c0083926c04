/- More laws: bytes of strings, bytes that are collected. -/
import Derived.Test.YtmbleojlnaofjaaDoorO6
import Derived.Lib.AppendStr
namespace Go.Proofs.YtmbleojlnaofjaaDoor.D
open Go Go.RowKit Go.Deep
set_option linter.unusedVariables false
set_option linter.unusedSectionVars false
set_option linter.unusedSimpArgs false
section
variable {P : Program} {n : Nat} {e : Env} {w : World} {ops rest : List Oper} {K : Env → World → Prop} {dst : Option Tmp} {ty : TypeId} {pos : String} {af : Array Edge} {g : Option (Nat × Bool)}
/-- A loop whose round is walked over a variable for the environment, of which only the slots of Fb are known. -/
theorem DC.loopE {body : Code} {Q : Exit → Env → World → Prop} {σ : Type} (W : List (Nat × Nat)) (Fb : List (Nat × Value)) (F : σ → List (Nat × Value)) (I : σ → World → Prop) (μ : σ → Nat) (s0 : σ)
    (hW : (dstsC body).all (inR W) = true) (hb : AllEq e Fb) (h0 : AllEq e (F s0)) (hI : I s0 w)
    (round : ∀ (e0 : Env) (s : σ) (j : Env) (w1 : World), I s w1 → DC P n body (updL (mix W j (updL e0 Fb)) (F s)) w1 (thenQ (fun e' w' => ∃ s', I s' w' ∧ μ s' < μ s ∧ AllEq e' (F s')) Q)) :
    DC P n (.loop body) e w Q := by
  refine DC.loop W F I μ s0 hW h0 hI (fun s j w1 hi => ?_)
  have := round e s j w1 hi
  rw [updL_same hb] at this
  exact this
/-- s[i]. -/
theorem Y.strIx {x ix : Operand} {t i : Nat} {k : IntKind} {z : Int} {s : ByteArray} (ht : P.underlying t = some .string) (hx : ev e x = .string s) (hi : ev e ix = .int k z) (hz : z = (i : Int)) (hlt : i < s.size) :
    Y P e ⟨dst, .index t x ix, ty, pos, af, g⟩ w (.int .u8 (s[i].toNat : Int)) := by
  subst hz
  have h2 : s[i]? = some s[i] := by simp [hlt]
  unfold Y
  simp [execOp, Instr.index, hx, hi, asIntOf, run_underlying ht, h2]
theorem Y.strIxV {x ix : Operand} {t i : Nat} {k : IntKind} {z : Int} {s : ByteArray} {b : UInt8} (ht : P.underlying t = some .string) (hx : ev e x = .string s) (hi : ev e ix = .int k z) (hz : z = (i : Int)) (hb : s.data.toList[i]? = some b) :
    Y P e ⟨dst, .index t x ix, ty, pos, af, g⟩ w (.int .u8 (b.toNat : Int)) := by
  obtain ⟨hl, he⟩ := List.getElem?_eq_some_iff.1 hb
  have hlt : i < s.size := by simpa using hl
  have hv : s[i] = b := by rw [← he]; rfl
  have := Y.strIx (P := P) (w := w) (dst := dst) (ty := ty) (pos := pos) (af := af) (g := g) ht hx hi hz hlt
  rw [hv] at this
  exact this
/-- append(v, s...) of a string's bytes. -/
theorem DL.appendStr {s x : Operand} {t u el d B N : Nat} {v : Value} {xs : List Value} {b : ByteArray} (hg : wantB ops e g = true) (hn : Nat.blt d n = true) (ht : eltT P t el 1 1 = true) (hu : P.underlying u = some .string) (hz : zeroT P el = some (.int .u8 0)) (hs : ev e s = v) (hx : ev e x = .string b)
    (hown : w.ownsRow B el 1 v N xs) (hby : N + b.size ≤ 140737488355328) (hB : B ≤ w.heap.size)
    (k : ∀ v' w', Fr (ownL v) w w' → w'.ownsRow B el 1 v' (N + b.size) (xs ++ b.data.toList.map fun c => .int .u8 (c.toNat : Int)) → DL P n ops rest (upd e d v') w' K) :
    DL P n ops (⟨some d, .call ⟨.builtin .append, #[s, x], #[t, u]⟩, ty, pos, af, g⟩ :: rest) e w K := by
  obtain ⟨i, z, k1, k2, k3, k4, k5, k6, k7, k8⟩ := eltT_spec ht
  have hz' : i.zero = some (.int .u8 0) := by
    unfold zeroT at hz
    rw [k2] at hz
    exact hz
  obtain ⟨v', w', hrun, ho, hgr, _⟩ := Lib.run_append_own_string (P := P) w B t u ty el i k1 hu k2 hz' k3 k4 v N xs hown b (by simp only [maxLen]; omega) hby hB
  refine DL.run hg hn (v := v') ?_ (k v' w' (fr_grown hgr) ?_)
  · simp [execOp, resolve, invoke, builtin, hs, hx, hrun]
  · exact ho
/-- string(v) of bytes that are collected. -/
theorem Y.bytesStr {x : Operand} {s t el B N : Nat} {v : Value} {l : List UInt8} (hs : P.underlying s = some (.slice el)) (he : P.underlying el = some (.int .u8)) (ht : P.underlying t = some .string) (hx : ev e x = v) (hown : w.ownsRow B el 1 v N (l.map fun c => .int .u8 (c.toNat : Int))) :
    Y P e ⟨dst, .convert s t x, ty, pos, af, g⟩ w (.string ⟨l.toArray⟩) := by
  have hN : N = l.length := by have := hown.1; simpa using this.symm
  rcases hown.2 with ⟨rfl, h0⟩ | ⟨g', cap, cur, rfl, hb, hg, hnc, _, hcs, htk⟩
  · have hl : l = [] := List.eq_nil_of_length_eq_zero (by omega)
    subst hl
    unfold Y
    simp only [execOp, hx, Sem.run_bind, run_convert_bytes_string w s t el none 0 0 hs he ht]
    rfl
  · subst hN
    have hrun := run_convert_bytes_back (P := P) w s t el ⟨g', 0, none⟩ cap l hs he ht (fun j hj => by
      have := hown.cells (g := g') rfl j (.int .u8 (l[j].toNat : Int)) (by simp [hj])
      exact this)
    unfold Y
    simp only [execOp, hx, Sem.run_bind, hrun, Result.andThen_ok, Sem.run_pure]
/-- A slice literal. -/
def buildSlP (P : Program) (el len : Nat) (parts : List (Nat × Value)) : Option (Array Value) :=
  match P.info? el with
  | some ie => (match ie.zero with
    | some z => cond (Nat.ble (len * ie.size) 1000 && !(Nat.beq (len * ie.size) 0)) (Instr.fill (fun i => some (i * ie.size, ie.size)) ((Array.range (len * ie.size)).map (z.cells[· % z.cells.size]!)) parts) none
    | none => none)
  | none => none
theorem DL.buildSlC {t el len d : Nat} {parts : List (Nat × Operand)} {cs : Array Value} (hg : wantB ops e g = true) (hn : Nat.blt d n = true) (hu : P.underlying t = some (.slice el)) (hf : buildSlP P el len (evp e parts) = some cs)
    (k : ∀ b w', Fr [] w w' → w.heap.size ≤ b → b < w'.heap.size → w'.heap[b]? = some (.cells cs el (0, 0)) → DL P n ops rest (upd e d (.slice (some ⟨b, 0, none⟩) len len)) w' K) :
    DL P n ops (⟨some d, .buildSlice t len parts.toArray, ty, pos, af, g⟩ :: rest) e w K := by
  unfold buildSlP at hf
  split at hf
  · rename_i ie h1
    split at hf
    · rename_i z h2
      cases hc : (Nat.ble (len * ie.size) 1000 && !(Nat.beq (len * ie.size) 0)) with
      | false => rw [hc] at hf; cases hf
      | true =>
        rw [hc, cond_true] at hf
        simp only [Bool.and_eq_true, Bool.not_eq_true'] at hc
        have h3 := Nat.le_of_ble_eq_true hc.1
        have h4 : ¬ len * ie.size = 0 := fun h => by rw [h] at hc; cases hc.2
        rw [evp_eq] at hf
        have hrun := run_buildSlice (P := P) w t el len (parts.toArray.map fun p => (p.1, ev e p.2)) cs ie z hu h1 h2 (by omega) h4 (by simpa using hf)
        refine DL.run (w' := { w with heap := w.heap.push (.cells cs el) }) hg hn (v := .slice (some ⟨w.heap.size, 0, none⟩) len len) ?_ (k w.heap.size _ (fr_alloc w _) (Nat.le_refl _) (by simp) (blk_alloc w _))
        have e2 : execOp (ev e) ⟨some d, .buildSlice t len parts.toArray, ty, pos, af, g⟩ = (do pure (.value (← Instr.buildSlice t len (parts.toArray.map fun p => (p.1, ev e p.2))))) := rfl
        rw [e2]
        simp only [Sem.run_bind, hrun, Result.andThen_ok, Sem.run_pure]
        rfl
    · cases hf
  · cases hf
end
end Go.Proofs.YtmbleojlnaofjaaDoor.D
