/- A drawn region whose reads may be taken first: what is left comes in one order. -/
import Derived.Test.YtmbleojlnaofjaaDoorO5
import Derived.OrdersHeld
import Derived.Deep.RegionHeld3
namespace Go.Proofs.YtmbleojlnaofjaaDoor.D
open Go Go.RowKit Go.Deep
set_option linter.unusedVariables false
set_option linter.unusedSectionVars false
set_option linter.unusedSimpArgs false
/-- The operations of l that are not yet listed, in whatever order the region may come; every world on the way is framed from w0. -/
structure DH (P : Program) (n : Nat) (l : List Oper) (w0 : World) (fuel : Nat) (listed : Array Bool) (e : Env) (w : World) (K : Env → World → Prop) : Prop where
  out : ∀ (a : Act) (Q : Exit → Act → World → Prop), Rep n a e → Fr [] w0 w → (∀ c a w, ¬ Q (.panic c) a w) → (∀ a' e' w', Rep n a' e' → (∀ t, t ∉ dstsL l → e' t = e t) → Fr [] w0 w' → K e' w' → Q .normal a' w') →
    wpAnyH P .any l.toArray Q (Fr [] w0) fuel listed a w
section
variable {P : Program} {n : Nat} {e : Env} {w w0 : World} {l : List Oper} {fuel : Nat} {listed : Array Bool} {K : Env → World → Prop}
theorem dst_mem {o : Oper} {d : Nat} (hd : o.dst = some d) : ∀ (l : List Oper) (i : Nat), l[i]? = some o → d ∈ dstsL l := by
  intro l
  induction l with
  | nil => intro i h; simp at h
  | cons p r ih =>
    intro i h
    unfold dstsL
    cases i with
    | zero =>
      simp only [List.getElem?_cons_zero, Option.some.injEq] at h
      rw [h, hd]; simp
    | succ i =>
      have := ih i (by simpa using h)
      cases hp : p.dst with
      | none => exact this
      | some c => exact List.mem_cons_of_mem _ this
theorem put_other {o : Oper} {i t : Nat} {v : Value} (h : l[i]? = some o) (ht : t ∉ dstsL l) : put e o.dst v t = e t :=
  put_ne v (fun d hd he => ht (he ▸ dst_mem hd l i h))
theorem DH.take {o : Oper} {v : Value} (i : Nat) (hi : nthO l i = some o) (hs : Region.noSelect l.toArray = true) (hf : Region.free .any l.toArray listed i = true) (hr : (Region.ready .any l.toArray listed).contains i = true)
    (hg : wantB l e o.guard = true) (hd : ltB n o.dst = true) (h : ∀ w, Fr [] w0 w → Y P e o w v) (k : DH P n l w0 fuel (listed.setIfInBounds i true) (put e o.dst v) w K) : DH P n l w0 (fuel + 1) listed e w K := by
  rw [nthO_eq] at hi
  refine ⟨fun a Q ha hw hnp hq => wpAnyH_take (oi := o) (v := v) (by simpa using hi) hs hf hr (fun c a w h => (hnp _ _ _ h).elim) (Or.inl ⟨by rw [wantB_eq ha, hg], fun w' hw' => by rw [ha.eval]; exact h w' hw'⟩) hw
    (k.out _ Q (ha.put o.dst v (ltB_spec hd)) hw hnp (fun a' e' w' h1 h2 h3 h4 => hq a' e' w' h1 (fun t ht => ?_) h3 h4))⟩
  rw [h2 t ht, put_other hi ht]
theorem DH.oneY {o : Oper} {v : Value} (i : Nat) (hi : nthO l i = some o) (hr : Region.ready .any l.toArray listed = [i]) (hg : wantB l e o.guard = true) (hd : ltB n o.dst = true) (h : Y P e o w v)
    (k : DH P n l w0 fuel (listed.setIfInBounds i true) (put e o.dst v) w K) : DH P n l w0 (fuel + 1) listed e w K := by
  rw [nthO_eq] at hi
  refine ⟨fun a Q ha hw hnp hq => wpAnyH_all hr (by simp) (fun j hj => ?_)⟩
  obtain rfl := List.mem_singleton.1 hj
  unfold wpOp
  have hi' : l.toArray[j]? = some o := by simpa using hi
  simp only [hi']
  rw [wantB_eq ha, hg, if_pos rfl]
  refine Or.inl ?_
  unfold Oper.wp
  rw [ha.eval, h]
  refine ⟨hw, k.out _ Q (ha.put o.dst v (ltB_spec hd)) hw hnp (fun a' e' w' h1 h2 h3 h4 => hq a' e' w' h1 (fun t ht => ?_) h3 h4)⟩
  rw [h2 t ht, put_other hi ht]
theorem DH.oneSkip {o : Oper} (i : Nat) (hi : nthO l i = some o) (hr : Region.ready .any l.toArray listed = [i]) (hg : wantB l e o.guard = false) (hd : ltB n o.dst = true)
    (k : DH P n l w0 fuel (listed.setIfInBounds i true) (put e o.dst undef) w K) : DH P n l w0 (fuel + 1) listed e w K := by
  rw [nthO_eq] at hi
  refine ⟨fun a Q ha hw hnp hq => wpAnyH_all hr (by simp) (fun j hj => ?_)⟩
  obtain rfl := List.mem_singleton.1 hj
  unfold wpOp
  have hi' : l.toArray[j]? = some o := by simpa using hi
  simp only [hi']
  rw [wantB_eq ha, hg, if_neg (by simp)]
  refine ⟨hw, k.out _ Q (ha.put o.dst undef (ltB_spec hd)) hw hnp (fun a' e' w' h1 h2 h3 h4 => hq a' e' w' h1 (fun t ht => ?_) h3 h4)⟩
  rw [h2 t ht, put_other hi ht]
theorem DH.oneCall {f : FuncId} {xs : List Operand} {args : List Value} {ats : Array TypeId} {post : Value → World → Prop} {dst : Option Tmp} {ty : TypeId} {pos : String} {af : Array Edge} {g : Option (Nat × Bool)}
    (i : Nat) (hi : nthO l i = some ⟨dst, .call ⟨.value (.func f), xs.toArray, ats⟩, ty, pos, af, g⟩) (hr : Region.ready .any l.toArray listed = [i]) (hg : wantB l e g = true) (hd : ltB n dst = true) (hf : Named P f) (ha : evs e xs = args)
    (hc : Calls P f args.toArray w (Ret w [] post)) (k : ∀ v w', Fr [] w w' → post v w' → DH P n l w0 fuel (listed.setIfInBounds i true) (put e dst v) w' K) : DH P n l w0 (fuel + 1) listed e w K := by
  rw [nthO_eq] at hi
  refine ⟨fun a Q ha' hw hnp hq => wpAnyH_all hr (by simp) (fun j hj => ?_)⟩
  obtain rfl := List.mem_singleton.1 hj
  unfold wpOp
  have hi' : l.toArray[j]? = some ⟨dst, .call ⟨.value (.func f), xs.toArray, ats⟩, ty, pos, af, g⟩ := by simpa using hi
  simp only [hi']
  rw [wantB_eq ha', hg, if_pos rfl]
  refine Or.inl ?_
  unfold Oper.wp
  rw [ha'.eval, execOp_call hf, Oper.upon_enter]
  have : (xs.toArray.map (ev e)) = args.toArray := by rw [← ha, evs_eq]; simp
  rw [this]
  refine hc.mono fun x w' hx => ?_
  cases x with
  | returned v =>
    refine ⟨hw.tr hx.1, (k v w' hx.1 hx.2).out _ Q (ha'.put dst v (ltB_spec hd)) (hw.tr hx.1) hnp (fun a' e' w' h1 h2 h3 h4 => hq a' e' w' h1 (fun t ht => ?_) h3 h4)⟩
    rw [h2 t ht]
    exact put_other (o := ⟨dst, .call ⟨.value (.func f), xs.toArray, ats⟩, ty, pos, af, g⟩) hi ht
  | _ => exact hx.elim
theorem DH.done (hr : Region.ready .any l.toArray listed = []) (h : K e w) : DH P n l w0 fuel listed e w K :=
  ⟨fun a Q ha hw hnp hq => wpAnyH_done hr (hq a e w ha (fun _ _ => rfl) hw h) fuel⟩
theorem DC.held {id : Nat} {Q : Exit → Env → World → Prop} (hm : P.follows .mixedOrders = true)
    (h : ∀ w', Fr [] w w' → w'.heap.size = w.heap.size → DH P n l w' l.length (Array.replicate l.length false) e w' (fun e2 w2 => Q .normal e2 w2)) : DC P n (.region id l.toArray true) e w Q := by
  refine ⟨fun a ha => wp_region_noPanic (wp_region_held (S := Fr [] { w with drawn := w.drawn + 1 }) hm ?_)⟩
  have := (h _ (Fr.drawn w (w.drawn + 1)) rfl).out a (NoPanic fun x a' w' => ∃ e', Rep n a' e' ∧ (∀ t, t ∉ dstsC (.region id l.toArray true) → e' t = e t) ∧ Q x e' w') ha (Fr.refl _ _) (fun c a w h => h) (fun a' e' w' h1 h2 _ h3 =>
    (show ∃ e', Rep n a' e' ∧ (∀ t, t ∉ dstsC (.region id l.toArray true) → e' t = e t) ∧ Q .normal e' w' from ⟨e', h1, fun t ht => h2 t (by simpa [dstsC] using ht), h3⟩))
  simpa using this
theorem Y.seqc {x y : Operand} {t u : TypeId} {a b : ByteArray} {c : Bool} {dst : Option Tmp} {ty : TypeId} {pos : String} {af : Array Edge} {g : Option (Nat × Bool)} (hx : ev e x = .string a) (hy : ev e y = .string b) (h : decide (a = b) = c) : Y P e ⟨dst, .binOp .eql t x y u, ty, pos, af, g⟩ w (.bool c) := by
  rw [← h]; exact Y.seq hx hy
theorem Y.mulI {x y : Operand} {t u : TypeId} {a b c : Int} {dst : Option Tmp} {ty : TypeId} {pos : String} {af : Array Edge} {g : Option (Nat × Bool)} (hx : ev e x = .int .i64 a) (hy : ev e y = .int .i64 b) (hc : a * b = c) (h1 : -9223372036854775808 ≤ a * b) (h2 : a * b ≤ 9223372036854775807) : Y P e ⟨dst, .binOp .mul t x y u, ty, pos, af, g⟩ w (.int .i64 c) := by
  have := Y.mul (P := P) (w := w) (dst := dst) (t := t) (u := u) (ty := ty) (pos := pos) (af := af) (g := g) hx hy
  rw [wrap_i64 h1 h2, hc] at this; exact this
end
end Go.Proofs.YtmbleojlnaofjaaDoor.D
