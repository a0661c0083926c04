/- The laws of single operations for the calculus of D: what an operation that only reads yields; what one that makes or writes memory does. -/
import Derived.Test.YtmbleojlnaofjaaDoorD
import Derived.StillTail
namespace Go.Proofs.YtmbleojlnaofjaaDoor.D
open Go Go.RowKit
set_option linter.unusedVariables false
set_option linter.unusedSectionVars false
set_option linter.unusedSimpArgs false

/-! ### Facts of types, as closed tests -/
def scalarT (P : Program) (t : TypeId) : Bool := match P.underlying t with | some (.struct _) | some (.array _ _) | none => false | some _ => true
def aggT (P : Program) (t : TypeId) (n : Nat) : Bool := (match P.underlying t with | some (.struct _) | some (.array _ _) => true | _ => false) && (match P.info? t with | some i => i.size == n | none => false)
def ifaceFree (P : Program) (t : TypeId) : Bool := match P.underlying t with | some (.interface _) | none => false | some _ => true
def fieldT (P : Program) (s f : Nat) (off : Nat) : Bool := match P.underlying s with
  | some (.struct fs) => (match fs[f]? with | some fd => (fd.offset == off) && (match P.info? fd.type with | some i => !(i.size == 0) | none => false) | none => false)
  | _ => false
def sliceT (P : Program) (t e size : Nat) : Bool := match P.underlying t with | some (.slice e') => (e' == e) && (match P.info? e with | some i => i.size == size | none => false) | _ => false
def stringT (P : Program) (t : TypeId) : Bool := match P.underlying t with | some .string => true | _ => false

section
variable {P : Program} {n : Nat} {e : Env} {w : World} {ops rest : List Oper} {K : Env → World → Prop} {o : Oper}
/-- The operation only reads, and yields v. -/
def Y (P : Program) (e : Env) (o : Oper) (w : World) (v : Value) : Prop := (execOp (ev e) o).run P w = .ok (.value v) w

theorem wp_imp {a : Act} {N N' : Act → World → Prop} {Q Q' : Exit → Act → World → Prop} (hn : ∀ a w, N a w → N' a w) (hp : ∀ c a w, Q (.panic c) a w → Q' (.panic c) a w) (hl : LetsOut Q → LetsOut Q') (h : o.wp P a w N Q) : o.wp P a w N' Q' := by
  unfold Oper.wp at *
  generalize (execOp a.eval o).run P w = r at *
  cases r with
  | ok x w' =>
    cases x <;> simp only [Oper.upon] at h ⊢ <;> first | exact hn _ _ h | exact h | skip
    · exact h.mono fun e w'' he => by
        cases e with
        | returned v => exact hn _ _ he
        | panicked c => exact hp _ _ _ he
        | outgrown => exact hl he
    · exact h.mono fun v w'' he => hn _ _ he
  | halt x w' =>
    cases x <;> simp only [Oper.upon] at h ⊢ <;> first | exact hp _ _ _ h | exact h
theorem DL.nil (h : K e w) : DL P n ops [] e w K := ⟨fun a Q ha hq => wpList_nil (hq a e w ha (fun _ _ => rfl) h)⟩
theorem dstsL_cons {o : Oper} {r : List Oper} {t : Nat} (h : t ∉ dstsL (o :: r)) : t ∉ dstsL r ∧ ∀ d, o.dst = some d → t ≠ d := by
  unfold dstsL at h
  cases hd : o.dst with
  | none => rw [hd] at h; exact ⟨h, fun d hx => by cases hx⟩
  | some d => rw [hd] at h; simp only [List.mem_cons, not_or] at h; exact ⟨h.2, fun d' hx => by cases hx; exact h.1⟩
theorem put_ne {e : Env} {o : Oper} {t : Nat} (v : Value) (h : ∀ d, o.dst = some d → t ≠ d) : put e o.dst v t = e t := by
  cases hd : o.dst with
  | none => rfl
  | some d => exact upd_ne _ _ (h d hd)
/-- One operation, carried out: its run in every state like this one. -/
theorem DL.op (hg : wantB ops e o.guard = true) (hd : ltB n o.dst = true)
    (h : ∀ (next : Value → World → Prop) (a : Act) (Q : Exit → Act → World → Prop) (N : Act → World → Prop), a.eval = ev e → (∀ v w', next v w' → N (a.put o.dst v) w') → (∀ v w', DL P n ops rest (put e o.dst v) w' K → next v w') → o.wp P a w N Q) :
    DL P n ops (o :: rest) e w K := by
  refine ⟨fun a Q ha hq => ?_⟩
  refine wpList_step fun N hN => ?_
  rw [wantB_eq ha, hg, if_pos rfl]
  refine h (fun v w' => DL P n ops rest (put e o.dst v) w' K) a Q N ha.eval (fun v w' hv => hN _ _ (hv.out _ _ (ha.put o.dst v (ltB_spec hd)) (fun a' e' w2 h1 h2 h3 => hq a' e' w2 h1 (fun t ht => ?_) h3))) (fun v w' h => h)
  obtain ⟨k1, k2⟩ := dstsL_cons ht
  rw [h2 t k1, put_ne _ k2]
theorem DL.run {v : Value} {w' : World} (hg : wantB ops e o.guard = true) (hd : ltB n o.dst = true) (h : (execOp (ev e) o).run P w = .ok (.value v) w') (k : DL P n ops rest (put e o.dst v) w' K) : DL P n ops (o :: rest) e w K :=
  DL.op hg hd fun next a Q N ha hN hk => by
    unfold Oper.wp; rw [ha, h]; exact hN _ _ (hk _ _ k)
theorem DL.runU {w' : World} (hg : wantB ops e o.guard = true) (hd : ltB n o.dst = true) (h : (execOp (ev e) o).run P w = .ok .skip w') (k : DL P n ops rest (put e o.dst undef) w' K) : DL P n ops (o :: rest) e w K :=
  DL.op hg hd fun next a Q N ha hN hk => by
    unfold Oper.wp; rw [ha, h]; exact hN _ _ (hk _ _ k)
theorem DL.y {v : Value} (hg : wantB ops e o.guard = true) (hd : ltB n o.dst = true) (h : Y P e o w v) (k : DL P n ops rest (put e o.dst v) w K) : DL P n ops (o :: rest) e w K := DL.run hg hd h k
/-- A bool that gets a name. -/
theorem DL.b {b : Bool} (hg : wantB ops e o.guard = true) (hd : ltB n o.dst = true) (h : Y P e o w (.bool b)) (k : ∀ p : Bool, p = b → DL P n ops rest (put e o.dst (.bool p)) w K) : DL P n ops (o :: rest) e w K := DL.y hg hd h (k b rfl)
/-- A test, both ways. -/
theorem DL.if {c : Prop} [Decidable c] (hg : wantB ops e o.guard = true) (hd : ltB n o.dst = true) (h : Y P e o w (.bool (decide c))) (ht : c → DL P n ops rest (put e o.dst (.bool true)) w K)
    (hf : ¬c → DL P n ops rest (put e o.dst (.bool false)) w K) : DL P n ops (o :: rest) e w K := by
  by_cases hc : c
  · exact DL.y hg hd (by rw [decide_eq_true hc] at h; exact h) (ht hc)
  · exact DL.y hg hd (by rw [decide_eq_false hc] at h; exact h) (hf hc)
theorem DL.skip (hg : wantB ops e o.guard = false) (hd : ltB n o.dst = true) (k : DL P n ops rest (put e o.dst undef) w K) : DL P n ops (o :: rest) e w K := by
  refine ⟨fun a Q ha hq => ?_⟩
  refine wpList_step fun N hN => ?_
  rw [wantB_eq ha, hg, if_neg (by simp)]
  refine hN _ _ (k.out _ _ (ha.put o.dst undef (ltB_spec hd)) (fun a' e' w2 h1 h2 h3 => hq a' e' w2 h1 (fun t ht => ?_) h3))
  obtain ⟨k1, k2⟩ := dstsL_cons ht
  rw [h2 t k1, put_ne _ k2]
/-- A cut behind the first m operations: one slot is told of. -/
theorem DL.cut {l : List Oper} (m : Nat) (W : List (Nat × Nat)) (s : Nat) (v : Value) (J : World → Prop) (hW : (dstsL (l.take m)).all (inR W) = true)
    (h1 : DL P n ops (l.take m) e w (fun e' w' => e' s = v ∧ J w')) (h2 : ∀ j w', J w' → DL P n ops (l.drop m) (upd (mix W j e) s v) w' K) : DL P n ops l e w K := by
  have hW' : ∀ t, inR W t = false → t ∉ dstsL (l.take m) := fun t ht hm => by
    have := List.all_eq_true.1 hW t hm
    rw [ht] at this; cases this
  have happ : ∀ (l1 l2 : List Oper) (t : Nat), t ∉ dstsL (l1 ++ l2) → t ∉ dstsL l1 ∧ t ∉ dstsL l2 := by
    intro l1
    induction l1 with
    | nil => intro l2 t h; exact ⟨by simp [dstsL], h⟩
    | cons o l1 ih =>
      intro l2 t h
      obtain ⟨k1, k2⟩ := dstsL_cons (o := o) (r := l1 ++ l2) h
      obtain ⟨k3, k4⟩ := ih l2 t k1
      refine ⟨fun hm => ?_, k4⟩
      unfold dstsL at hm
      cases hd : o.dst with
      | none => rw [hd] at hm; exact k3 hm
      | some d => rw [hd] at hm; rcases List.mem_cons.1 hm with rfl | hm; exact k2 _ hd rfl; exact k3 hm
  have hlist : ∀ (l1 l2 : List Oper) (a : Act) (w : World) (Q : Exit → Act → World → Prop), wpList P ops.toArray (fun x a' w' => match x with | .normal => wpList P ops.toArray Q l2 a' w' | x => Q x a' w') l1 a w → wpList P ops.toArray Q (l1 ++ l2) a w := by
    intro l1
    induction l1 with
    | nil => intro l2 a w Q h; exact h
    | cons o l1 ih =>
      intro l2 a w Q h
      simp only [List.cons_append]
      unfold wpList at h ⊢
      split
      · rename_i hw
        rw [if_pos hw] at h
        rcases h with h | h
        · refine Or.inl (wp_imp (fun a' w' h' => ih l2 a' w' Q h') (fun c a' w' h' => h') (fun h' => h') h)
        · exact Or.inr h
      · rename_i hw
        rw [if_neg hw] at h
        exact ih l2 _ w Q h
  refine ⟨fun a Q ha hq => ?_⟩
  rw [← List.take_append_drop m l]
  refine hlist _ _ _ _ _ (h1.out a _ ha ?_)
  intro a' e' w' k1 k2 k3
  have he : upd (mix W e' e) s v = e' := by
    have hm : mix W e' e = e' := mix_of (fun t ht => k2 t (hW' t ht))
    rw [hm, ← k3.1]
    funext t
    by_cases ht : t = s
    · subst ht; exact upd_same _ _ _
    · exact upd_ne _ _ ht
  have h3 := h2 e' w' k3.2
  rw [he] at h3
  refine h3.out a' Q k1 (fun a2 e2 w2 j1 j2 j3 => hq a2 e2 w2 j1 (fun t ht => ?_) j3)
  rw [← List.take_append_drop m l] at ht
  obtain ⟨t1, t2⟩ := happ _ _ _ ht
  rw [j2 t t2, k2 t t1]

/-! ### Regions that draw their order -/
/-- The operations of l leave the world alone, one by one. -/
structure DS (P : Program) (n : Nat) (ops : List Oper) (w : World) (l : List Oper) (e : Env) (K : Env → Prop) : Prop where
  out : ∀ (a : Act) (Q : Act → Prop), Rep n a e → (∀ a' e', Rep n a' e' → (∀ t, t ∉ dstsL l → e' t = e t) → K e' → Q a') → wpStill P ops.toArray w Q l a
theorem DS.nil {K : Env → Prop} (h : K e) : DS P n ops w [] e K := ⟨fun a Q ha hq => hq a e ha (fun _ _ => rfl) h⟩
theorem DS.y {K : Env → Prop} {v : Value} (hg : wantB ops e o.guard = true) (hd : ltB n o.dst = true) (h : Y P e o w v) (k : DS P n ops w rest (put e o.dst v) K) : DS P n ops w (o :: rest) e K := by
  refine ⟨fun a Q ha hq => ?_⟩
  unfold wpStill
  rw [wantB_eq ha, hg, if_pos rfl]
  unfold Oper.still
  rw [ha.eval, h]
  refine ⟨rfl, k.out _ _ (ha.put o.dst v (ltB_spec hd)) (fun a' e' h1 h2 h3 => hq a' e' h1 (fun t ht => ?_) h3)⟩
  obtain ⟨k1, k2⟩ := dstsL_cons ht
  rw [h2 t k1, put_ne _ k2]
theorem DS.skip {K : Env → Prop} (hg : wantB ops e o.guard = false) (hd : ltB n o.dst = true) (k : DS P n ops w rest (put e o.dst undef) K) : DS P n ops w (o :: rest) e K := by
  refine ⟨fun a Q ha hq => ?_⟩
  unfold wpStill
  rw [wantB_eq ha, hg, if_neg (by simp)]
  refine k.out _ _ (ha.put o.dst undef (ltB_spec hd)) (fun a' e' h1 h2 h3 => hq a' e' h1 (fun t ht => ?_) h3)
  obtain ⟨k1, k2⟩ := dstsL_cons ht
  rw [h2 t k1, put_ne _ k2]
theorem DS.if {K : Env → Prop} {c : Prop} [Decidable c] (hg : wantB ops e o.guard = true) (hd : ltB n o.dst = true) (h : Y P e o w (.bool (decide c))) (ht : c → DS P n ops w rest (put e o.dst (.bool true)) K)
    (hf : ¬c → DS P n ops w rest (put e o.dst (.bool false)) K) : DS P n ops w (o :: rest) e K := by
  by_cases hc : c
  · exact DS.y hg hd (by rw [decide_eq_true hc] at h; exact h) (ht hc)
  · exact DS.y hg hd (by rw [decide_eq_false hc] at h; exact h) (hf hc)
theorem DS.ifb {K : Env → Prop} {b : Bool} (hg : wantB ops e o.guard = true) (hd : ltB n o.dst = true) (h : Y P e o w (.bool b)) (ht : b = true → DS P n ops w rest (put e o.dst (.bool true)) K)
    (hf : b = false → DS P n ops w rest (put e o.dst (.bool false)) K) : DS P n ops w (o :: rest) e K := by
  cases b with
  | true => exact DS.y hg hd h (ht rfl)
  | false => exact DS.y hg hd h (hf rfl)
theorem DS.b {K : Env → Prop} {b : Bool} (hg : wantB ops e o.guard = true) (hd : ltB n o.dst = true) (h : Y P e o w (.bool b)) (k : ∀ p : Bool, p = b → DS P n ops w rest (put e o.dst (.bool p)) K) : DS P n ops w (o :: rest) e K := DS.y hg hd h (k b rfl)
/-- One slot is told of, behind the first m. -/
theorem DS.cut {K : Env → Prop} {l : List Oper} (m : Nat) (W : List (Nat × Nat)) (s : Nat) (v : Value) (J : World → Prop) (hW : (dstsL (l.take m)).all (inR W) = true)
    (h1 : DS P n ops w (l.take m) e (fun e' => e' s = v ∧ True)) (h2 : ∀ j, DS P n ops w (l.drop m) (upd (mix W j e) s v) K) : DS P n ops w l e K := by
  have hW' : ∀ t, inR W t = false → t ∉ dstsL (l.take m) := fun t ht hm => by
    have := List.all_eq_true.1 hW t hm
    rw [ht] at this; cases this
  have happ : ∀ (l1 l2 : List Oper) (t : Nat), t ∉ dstsL (l1 ++ l2) → t ∉ dstsL l1 ∧ t ∉ dstsL l2 := by
    intro l1
    induction l1 with
    | nil => intro l2 t h; exact ⟨by simp [dstsL], h⟩
    | cons o l1 ih =>
      intro l2 t h
      obtain ⟨k1, k2⟩ := dstsL_cons (o := o) (r := l1 ++ l2) h
      obtain ⟨k3, k4⟩ := ih l2 t k1
      refine ⟨fun hm => ?_, k4⟩
      unfold dstsL at hm
      cases hd : o.dst with
      | none => rw [hd] at hm; exact k3 hm
      | some d => rw [hd] at hm; rcases List.mem_cons.1 hm with rfl | hm; exact k2 _ hd rfl; exact k3 hm
  have hstep : ∀ (o : Oper) (a : Act) (N N' : Act → Prop), (∀ a, N a → N' a) → o.still P a w N → o.still P a w N' := by
    intro o a N N' hn h
    unfold Oper.still at *
    generalize (execOp a.eval o).run P w = r at *
    cases r with
    | ok x w' => cases x <;> simp only [Oper.stillUpon] at h ⊢ <;> first | exact ⟨h.1, hn _ h.2⟩ | exact ⟨h.1, h.2.imp fun v hv => ⟨hv.1, hn _ hv.2⟩⟩ | exact h
    | halt x w' => simp only [Oper.stillUpon] at h
  have hlist : ∀ (l1 l2 : List Oper) (a : Act) (Q : Act → Prop), wpStill P ops.toArray w (fun a' => wpStill P ops.toArray w Q l2 a') l1 a → wpStill P ops.toArray w Q (l1 ++ l2) a := by
    intro l1
    induction l1 with
    | nil => intro l2 a Q h; exact h
    | cons o l1 ih =>
      intro l2 a Q h
      simp only [List.cons_append]
      unfold wpStill at h ⊢
      split
      · rename_i hw
        rw [if_pos hw] at h
        exact hstep o a _ _ (fun a' h' => ih l2 a' Q h') h
      · rename_i hw
        rw [if_neg hw] at h
        exact ih l2 _ Q h
  refine ⟨fun a Q ha hq => ?_⟩
  rw [← List.take_append_drop m l]
  refine hlist _ _ _ _ (h1.out a _ ha ?_)
  intro a' e' k1 k2 k3
  have he : upd (mix W e' e) s v = e' := by
    have hm : mix W e' e = e' := mix_of (fun t ht => k2 t (hW' t ht))
    rw [hm, ← k3.1]
    funext t
    by_cases ht : t = s
    · subst ht; exact upd_same _ _ _
    · exact upd_ne _ _ ht
  have h3 := h2 e'
  rw [he] at h3
  refine h3.out a' Q k1 (fun a2 e2 j1 j2 j3 => hq a2 e2 j1 (fun t ht => ?_) j3)
  rw [← List.take_append_drop m l] at ht
  obtain ⟨t1, t2⟩ := happ _ _ _ ht
  rw [j2 t t2, k2 t t1]
theorem dstsL_split {l : List Oper} {m t : Nat} (h : t ∉ dstsL l) : t ∉ dstsL (l.take m) ∧ t ∉ dstsL (l.drop m) := by
  induction l generalizing m with
  | nil => simp [dstsL]
  | cons o l ih =>
    obtain ⟨k1, k2⟩ := dstsL_cons h
    cases m with
    | zero => exact ⟨by simp [dstsL], h⟩
    | succ m =>
      obtain ⟨k3, k4⟩ := ih (m := m) k1
      refine ⟨fun hm => ?_, k4⟩
      simp only [List.take_succ_cons] at hm
      unfold dstsL at hm
      cases hd : o.dst with
      | none => rw [hd] at hm; exact k3 hm
      | some d => rw [hd] at hm; rcases List.mem_cons.1 hm with rfl | hm; exact k2 _ hd rfl; exact k3 hm
/-- A drawn region of which all but the last operations leave the world alone. -/
theorem DC.tail {id : Nat} {l : List Oper} {Q : Exit → Env → World → Prop} (m : Nat) (hm : P.follows .mixedOrders = true) (hB : Region.lexTailB .any l.toArray m = true)
    (h : ∀ w', Fr [] w w' → w'.heap.size = w.heap.size → DS P n l w' (l.take m) e (fun e' => DL P n l (l.drop m) e' w' (fun e2 w2 => Q .normal e2 w2))) : DC P n (.region id l.toArray true) e w Q := by
  refine ⟨fun a ha => ?_⟩
  refine wp_region_still_tail m hm hB ?_
  refine (h _ (Fr.drawn w (w.drawn + 1)) rfl).out a _ ha ?_
  intro a' e' h1 h2 h3
  refine h3.out a' _ h1 ?_
  intro a2 e2 w2 k1 k2 k3
  exact ⟨e2, k1, fun t ht => by
    obtain ⟨t1, t2⟩ := dstsL_split (m := m) (show t ∉ dstsL l by simpa [dstsC] using ht)
    rw [k2 t t2, h2 t t1], k3⟩
/-- A drawn region that leaves the world alone. -/
theorem DC.still {id : Nat} {l : List Oper} {Q : Exit → Env → World → Prop} (hm : P.follows .mixedOrders = true) (hB : Region.lexB .any l.toArray = true)
    (h : ∀ w', Fr [] w w' → w'.heap.size = w.heap.size → DS P n l w' l e (fun e' => Q .normal e' w')) : DC P n (.region id l.toArray true) e w Q := by
  refine ⟨fun a ha => ?_⟩
  refine wp_region_still_lit hm hB ?_
  refine (h _ (Fr.drawn w (w.drawn + 1)) rfl).out a _ ha ?_
  intro a' e' h1 h2 h3
  exact ⟨e', h1, fun t ht => h2 t (by simpa [dstsC] using ht), h3⟩
end
end Go.Proofs.YtmbleojlnaofjaaDoor.D
