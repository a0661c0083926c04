/- More laws: structs that are built, make of a slice and of a map, a store at an index, a new key in a map, floats. -/
import Derived.Test.YtmbleojlnaofjaaDoorO
import Derived.Laws.FloatArith
import Derived.Laws.MakeOwn
import Derived.Deep.OwnRows
namespace Go.Proofs.YtmbleojlnaofjaaDoor.D
open Go Go.RowKit Go.Deep
set_option linter.unusedVariables false
set_option linter.unusedSectionVars false
set_option linter.unusedSimpArgs false

/-- What a composite of a struct type holds. -/
def placesP (P : Program) (fs : Array Field) : Option (Array (Nat × Nat)) := fs.mapM fun f => (P.info? f.type).map fun i => (f.offset, i.size)
def buildP (P : Program) (t : TypeId) (parts : List (Nat × Value)) : Option (Array Value) :=
  match zeroT P t, P.underlying t with
  | some z, some (.struct fs) => (placesP P fs).bind fun places => Instr.fill (places[·]?) z.cells parts
  | _, _ => none
def evp (e : Env) : List (Nat × Operand) → List (Nat × Value)
  | [] => []
  | p :: r => (p.1, ev e p.2) :: evp e r
theorem evp_eq (e : Env) : ∀ l, evp e l = l.map fun p => (p.1, ev e p.2)
  | [] => rfl
  | x :: r => by simp [evp, evp_eq e r]
section
variable {P : Program} {n : Nat} {e : Env} {w : World} {ops rest : List Oper} {K : Env → World → Prop} {dst : Option Tmp} {ty : TypeId} {pos : String} {af : Array Edge} {g : Option (Nat × Bool)}
theorem placesP_run {fs : Array Field} {places : Array (Nat × Nat)} (h : placesP P fs = some places) (w : World) : (fs.mapM fun f => do pure (f.offset, ← sizeOf f.type) : Sem (Array (Nat × Nat))).run P w = .ok places w := by
  obtain ⟨l⟩ := fs
  unfold placesP at h
  rw [List.mapM_toArray] at h ⊢
  have key : ∀ (l : List Field) (r : List (Nat × Nat)), (l.mapM fun f => (P.info? f.type).map fun i => (f.offset, i.size)) = some r → (l.mapM fun f => do pure (f.offset, ← sizeOf f.type) : Sem (List (Nat × Nat))).run P w = .ok r w := by
    intro l
    induction l with
    | nil => intro r h; simp only [List.mapM_nil, Option.pure_def, Option.some.injEq] at h; subst h; rfl
    | cons f l ih =>
      intro r h
      rw [List.mapM_cons] at h ⊢
      cases hi : P.info? f.type with
      | none => rw [hi] at h; cases h
      | some i =>
        rw [hi] at h
        cases hr : (l.mapM fun f => (P.info? f.type).map fun i => (f.offset, i.size)) with
        | none => rw [hr] at h; cases h
        | some r' =>
          rw [hr] at h
          have := ih r' hr
          simp only [Option.map_some, Option.bind_eq_bind, Option.bind_some, Option.pure_def, Option.some.injEq] at h
          subst h
          have h0 : (sizeOf f.type).run P w = .ok i.size w := by simp [sizeOf, typeInfo, hi]
          simp only [Sem.run_bind, h0, Result.andThen_ok, Sem.run_pure, this]
  cases hr : (l.mapM fun f => (P.info? f.type).map fun i => (f.offset, i.size)) with
  | none => rw [hr] at h; cases h
  | some r =>
    rw [hr] at h
    simp only [Option.map_eq_map, Option.map_some, Option.some.injEq] at h
    subst h
    simp only [Sem.run_map, key l r hr, Result.andThen_ok]
theorem Y.build {t : TypeId} {parts : List (Nat × Operand)} {cs : Array Value} (h : buildP P t (evp e parts) = some cs) : Y P e ⟨dst, .build t parts.toArray, ty, pos, af, g⟩ w (.agg cs) := by
  unfold buildP at h
  cases hz : zeroT P t with
  | none => rw [hz] at h; cases h
  | some z =>
    rw [hz] at h
    cases hu : P.underlying t with
    | none => rw [hu] at h; cases h
    | some d =>
      rw [hu] at h
      cases d with
      | struct fs =>
        simp only at h
        cases hp : placesP P fs with
        | none => rw [hp] at h; cases h
        | some places =>
          rw [hp] at h
          simp only [Option.bind_some] at h
          have hparts : (parts.toArray.map fun (i, x) => (i, ev e x)).toList = evp e parts := by rw [evp_eq]; simp
          have hrun : (Instr.build t (parts.toArray.map fun (i, x) => (i, ev e x))).run P w = .ok (.agg cs) w := by
            unfold Instr.build
            simp only [Sem.run_bind, run_zeroT hz, Result.andThen_ok, run_underlying hu, placesP_run hp]
            rw [hparts, h]
            rfl
          unfold Y
          simp only [execOp, Sem.run_bind, hrun, Result.andThen_ok, Sem.run_pure]
      | _ => cases h
theorem Y.quoI {x y : Operand} {t u : TypeId} {k : IntKind} {a b c : Int} (hx : ev e x = .int k a) (hy : ev e y = .int k b) (hb : b ≠ 0) (hc : k.wrap (a.tdiv b) = c) : Y P e ⟨dst, .binOp .quo t x y u, ty, pos, af, g⟩ w (.int k c) := by
  rw [← hc]; exact Y.quo hx hy hb
theorem Y.farith {op : BinOp} {x y : Operand} {t u : TypeId} {a b r : Nat} (hx : ev e x = .float .f64 a) (hy : ev e y = .float .f64 b) (h : floatBits op .f64 a b = some r) : Y P e ⟨dst, .binOp op t x y u, ty, pos, af, g⟩ w (.float .f64 r) := by
  unfold Y
  have hg : eqGuard op t x y (.float .f64 a) (.float .f64 b) = pure () := by cases op <;> rfl
  simp only [execOp, hx, hy, hg, Sem.run_bind, Sem.run_pure, Result.andThen_ok, run_float_arith w op t .f64 a b r h]
/-- A bool of a test that is known. -/
theorem Y.eqNilI {x : Operand} {t u : TypeId} {d : TypeId} {v : Value} {ms : Array (String × TypeId)} (ht : P.underlying t = some (.interface ms)) (hx : ev e x = .iface d v) : Y P e ⟨dst, .binOp .eql t x (.const .nilIface) u, ty, pos, af, g⟩ w (.bool false) := by
  have h1 : (Op.equal t (.iface d v) .nilIface).run P w = .ok false w := by
    unfold Op.equal Op.maxDepth Op.equalIn
    simp only [Sem.run_bind, run_underlying ht, Result.andThen]
    rfl
  have h2 : binOp .eql t (.iface d v) .nilIface = (do pure (.bool (← Op.equal t (.iface d v) .nilIface))) := rfl
  have h3 : ev e (.const .nilIface) = .nilIface := rfl
  unfold Y
  simp only [execOp, hx, h3, eqGuard_at_iface, h2, Sem.run_bind, Sem.run_pure, Result.andThen_ok, h1]

/-- The element's facts that make asks for. -/
def elemT (P : Program) (t el : TypeId) (z : Value) (bytes : Nat) : Prop := P.underlying t = some (.slice el) ∧ (P.info? el).map (fun i => (i.zero, i.size, i.bytes)) = some (some z, 1, bytes)
theorem DL.makeS {x y : Operand} {t el d m bytes : Nat} {z : Value} (hg : wantB ops e g = true) (hn : Nat.blt d n = true) (ht : elemT P t el z bytes) (h1 : z.oneCell' = true) (hx : ev e x = .int .i64 (m : Int)) (hy : ev e y = .int .i64 (m : Int)) (hb : m * bytes ≤ 281474976710656) (hm : m ≤ 9223372036854775807)
    (k : ∀ b w' cs, Fr [] w w' → w.heap.size ≤ b → b < w'.heap.size → w'.heap[b]? = some (.cells cs el (0, 0)) → cs.size = m → (∀ i, i < m → cs[i]? = some z) → DL P n ops rest (upd e d (.slice (some ⟨b, 0, none⟩) m m)) w' K) :
    DL P n ops (⟨some d, .makeSlice t x y, ty, pos, af, g⟩ :: rest) e w K := by
  have hz : z.cells = #[z] := by cases z <;> first | rfl | cases h1
  have hrun := run_make_row' (P := P) t el z bytes ht.1 ht.2 hz .i64 .i64 m (by rw [Nat.mul_comm]; exact hb) hm w
  refine DL.run (v := .slice (some ⟨w.heap.size, 0, none⟩) m m) (w' := { w with heap := w.heap.push (.cells (madeCells #[z] m) el) }) hg hn ?_ ?_
  · simp only [execOp, hx, hy, Sem.run_bind, hrun, Result.andThen_ok, Sem.run_pure]
    rfl
  · refine k w.heap.size _ (madeCells #[z] m) (fr_alloc w _) (Nat.le_refl _) (by simp) (blk_alloc w _) ?_ ?_
    · simp [madeCells]
    · intro i hi
      simp [madeCells, hi, Nat.mod_one]
/-- A store of one cell at an address that is reckoned. -/
theorem DL.storeP {x y : Operand} {t u : TypeId} {b o : Nat} {cs : Array Value} {v : Value} (hg : wantB ops e g = true) (ht : P.cellsOf t = 1) (hi : (P.info? t).isSome = true) (hx : ev e x = .pointer (some ⟨b, o, none⟩)) (hy : ev e y = v) (hv : v.oneCell' = true)
    (hb : w.heap[b]? = some (.cells cs u (0, 0))) (ho : o < cs.size)
    (k : ∀ w', Fr [b] w w' → w'.heap.size = w.heap.size → w'.heap[b]? = some (.cells (cs.setIfInBounds o v) u (0, 0)) → DL P n ops rest e w' K) :
    DL P n ops (⟨none, .store t x y, ty, pos, af, g⟩ :: rest) e w K :=
  DL.store hg ht hi hx hy hv hb (Nat.ble_eq_true_of_le ho) k
/-- A struct stored over a whole block. -/
theorem DL.storeA {x y : Operand} {t u : TypeId} {b m : Nat} {old cs : Array Value} (hg : wantB ops e g = true) (ht : aggT P t m = true) (hx : ev e x = .pointer (some ⟨b, 0, none⟩)) (hy : ev e y = .agg cs) (hs : cs.size = m) (h1 : cs.all (·.oneCell') = true)
    (hb : w.heap[b]? = some (.cells old u (0, 0))) (ho : old.size = m)
    (k : ∀ w', Fr [b] w w' → w'.heap.size = w.heap.size → w'.heap[b]? = some (.cells cs u (0, 0)) → DL P n ops rest e w' K) :
    DL P n ops (⟨none, .store t x y, ty, pos, af, g⟩ :: rest) e w K := by
  have hsz : (P.info? t).map (·.size) = some cs.size := by
    unfold aggT at ht
    rw [Bool.and_eq_true] at ht
    cases hi : P.info? t with
    | none => rw [hi] at ht; cases ht.2
    | some i => rw [hi] at ht; simp only [Option.map_some, hs]; simpa using ht.2
  have hrun := run_storeVar_row (P := P) w b u t old cs hb hsz (by rw [ho, hs]) h1
  have hlt := lt_of_blk hb
  refine DL.runU (w' := w.setRow b cs) hg rfl ?_ (k _ ⟨rfl, rfl, rfl, by simp [World.setRow], fun i hi hn => ?_⟩ (by simp [World.setRow]) ?_)
  · simp only [execOp, hx, hy, Instr.storeAt, Instr.sureAddr, Sem.run_bind, Sem.run_pure, Result.andThen_ok, hrun]
  · have hne : b ≠ i := fun h => hn (by simp [h])
    simp [World.setRow, Array.getElem?_modify, hne]
  · simp [World.setRow, Array.getElem?_modify, hb]
theorem DL.makeM {t kt el d : Nat} {x : Operand} {m : Int} (hg : wantB ops e g = true) (hn : Nat.blt d n = true) (ht : P.underlying t = some (.map kt el)) (hx : ev e x = .int .i64 m)
    (k : ∀ b w', Fr [] w w' → w.heap.size ≤ b → b < w'.heap.size → w'.heap[b]? = some (.map #[] 0) → DL P n ops rest (upd e d (.map (some b))) w' K) :
    DL P n ops (⟨some d, .makeMap t (some x), ty, pos, af, g⟩ :: rest) e w K := by
  refine DL.run (v := .map (some w.heap.size)) (w' := { w with heap := w.heap.push (.map #[] 0) }) hg hn ?_ (k w.heap.size _ (fr_alloc w _) (Nat.le_refl _) (by simp) (blk_alloc w _))
  simp only [execOp, Option.map_some, hx, Instr.makeMap, Sem.run_bind, run_underlying ht, Result.andThen_ok, asInt, asIntOf, Sem.run_pure]
  simp [newObj, Sem.run]
theorem findNow_none {s : ByteArray} : ∀ (l : List MapEntry) (i : Nat), (∀ x ∈ l, ∃ t : ByteArray, x.key = .string t ∧ t ≠ s) → Instr.findNow .string (.string s) l i = some none
  | [], i, h => rfl
  | x :: l, i, h => by
    obtain ⟨t, h1, h2⟩ := h x (by simp)
    have hne : (s == t) = false := (beq_eq_false_iff_ne.2 (fun h => h2 (ByteArray.ext h.symm)) : (s.data == t.data) = false)
    unfold Instr.findNow
    rw [h1]
    simp only [Instr.sameNow, hne]
    exact findNow_none l (i + 1) (fun y hy => h y (by simp [hy]))
/-- A new key in a map with keys of strings. -/
theorem DL.mapNew {m x y : Operand} {t kt el r clock : Nat} {es : Array MapEntry} {s : ByteArray} {v : Value} (hg : wantB ops e g = true) (ht : P.underlying t = some (.map kt el)) (hk : P.underlying kt = some .string) (hm : ev e m = .map (some r)) (hx : ev e x = .string s) (hy : ev e y = v)
    (hr : w.heap[r]? = some (.map es clock)) (hnew : ∀ z ∈ es.toList, ∃ u : ByteArray, z.key = .string u ∧ u ≠ s)
    (k : ∀ w', Fr [r] w w' → w'.heap.size = w.heap.size → w'.heap[r]? = some (.map (es.push ⟨.string s, v, clock⟩) (clock + 1)) → DL P n ops rest e w' K) :
    DL P n ops (⟨none, .mapUpdate t m x y, ty, pos, af, g⟩ :: rest) e w K := by
  have hlt := lt_of_blk hr
  have hget : ∀ w2 : World, w2.heap = w.heap → (getObj r).run P w2 = .ok (.map es clock) w2 := fun w2 h2 => by simp [getObj, Sem.run, h2, hr]
  have hset : (setObj r (.map (es.push ⟨.string s, v, clock⟩) (clock + 1))).run P w = .ok () { w with heap := w.heap.setIfInBounds r (.map (es.push ⟨.string s, v, clock⟩) (clock + 1)) } := by
    simp [setObj, Sem.run, hr]
  have hck : (Instr.checkKey false 10000 kt (.string s)).run P w = .ok () w := by
    unfold Instr.checkKey
    simp only [Sem.run_bind, run_underlying hk, Result.andThen_ok]
    rfl
  have hfind : (Instr.findKey kt (.string s) es.toList).run P w = .ok none w := by
    unfold Instr.findKey
    simp only [Sem.run_bind, run_underlying hk, Result.andThen_ok, findNow_none es.toList 0 hnew]
    rfl
  refine DL.runU (w' := { w with heap := w.heap.setIfInBounds r (.map (es.push ⟨.string s, v, clock⟩) (clock + 1)) }) hg rfl ?_ (k _ ⟨rfl, rfl, rfl, by simp, fun i hi hs => ?_⟩ (by simp) (by simp [hlt]))
  · simp only [execOp, hm, hx, hy, Instr.mapUpdate, Sem.run_bind, run_underlying ht, Result.andThen_ok, hget w rfl, hck, hfind, hset]
    rfl
  · have hne : r ≠ i := fun h => hs (by simp [h])
    simp [Array.getElem?_setIfInBounds_ne hne]
end
end Go.Proofs.YtmbleojlnaofjaaDoor.D
