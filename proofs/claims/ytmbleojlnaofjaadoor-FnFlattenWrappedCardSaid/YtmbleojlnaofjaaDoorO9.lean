/- A drawn region that makes memory and writes at its end: some reads are taken first; of what is left each order is walked. -/
import Derived.Test.YtmbleojlnaofjaaDoorO6
namespace Go.Proofs.YtmbleojlnaofjaaDoor.D
open Go Go.RowKit Go.Deep
set_option linter.unusedVariables false
set_option linter.unusedSectionVars false
set_option linter.unusedSimpArgs false
section
variable (P : Program) (ops : Array Oper) (Q : Exit → Act → World → Prop) (S : World → Prop) (z : Nat)
/-- Any order from here on; until number z has come up, S holds behind each operation. -/
def anyZ : Nat → Array Bool → Act → World → Prop
  | 0, L, a, w => Region.ready .any ops L = [] ∧ Q .normal a w
  | f + 1, L, a, w => (Region.ready .any ops L = [] → Q .normal a w) ∧
    ∀ i ∈ Region.ready .any ops L, wpOp P ops Q i (fun a' w' => ((L.setIfInBounds i true).getD z false = true ∨ S w') ∧ anyZ f (L.setIfInBounds i true) a' w') a w
end
section
variable {P : Program} {ops : Array Oper} {Q : Exit → Act → World → Prop} {S : World → Prop} {z : Nat}
theorem wpAny_of_Z : ∀ (f : Nat) (L : Array Bool) (a : Act) (w : World), anyZ P ops Q S z f L a w → wpAny P .any ops Q f L a w
  | 0, _, _, _, h => h
  | f + 1, _, _, _, h => ⟨h.1, fun i hi => wpOp_mono (fun a' w' h' => wpAny_of_Z f _ a' w' h'.2) (h.2 i hi)⟩
/-- An operation for which z waits may be taken first, if it yields its value in each world that meets S. -/
theorem anyZ_first {i : Nat} {oi : Oper} {v : Value} (hi : ops[i]? = some oi) (hsel : ∀ (j : Nat) (o : Oper) cs b, ops[j]? = some o → o.op ≠ .select cs b) (hQ : ∀ c a w, ¬ Q (.panic c) a w)
    (hzi : ∀ oz, ops[z]? = some oz → ∃ e ∈ oz.after, Region.binds .any e = true ∧ e.on = i) (hne : z ≠ i) (f : Nat) : ∀ (L : Array Bool) (a : Act) (w : World),
    (∀ j oj, ops[j]? = some oj → j ≠ i → L.getD j true = false → (∀ e ∈ oj.after, Region.binds .any e = true → e.on ≠ i) → oi.apart ops oj = true) →
    i ∈ Region.ready .any ops L → YieldsIf P ops S oi v a → S w → L.getD z false = false → anyZ P ops Q S z f (L.setIfInBounds i true) (a.put oi.dst v) w → anyZ P ops Q S z (f + 1) L a w := by
  induction f with
  | zero =>
    intro L a w hf hr hy hS hz H
    refine ⟨fun h => absurd hr (by rw [h]; simp), fun j hj => ?_⟩
    rcases Classical.em (j = i) with rfl | hji
    · exact hy.wpOp hi hS ⟨Or.inr hS, H⟩
    · exact absurd (ready_mono hj hji) (by rw [H.1]; simp)
  | succ f ih =>
    intro L a w hf hr hy hS hz H
    refine ⟨fun h => absurd hr (by rw [h]; simp), fun j hj => ?_⟩
    rcases Classical.em (j = i) with rfl | hji
    · exact hy.wpOp hi hS ⟨Or.inr hS, H⟩
    obtain ⟨hju, oj, hoj, hwait⟩ := mem_ready.1 hj
    have hiu := (mem_ready.1 hr).1
    have hno : ∀ e ∈ oj.after, Region.binds .any e = true → e.on ≠ i := fun e he hb heq => by
      have h1 := hwait e he hb
      rw [heq] at h1
      rcases Nat.lt_or_ge i L.size with hl | hl
      · simp only [Array.getD_eq_getD_getElem?, Array.getElem?_eq_getElem hl, Option.getD_some] at h1 hiu
        rw [hiu] at h1; cases h1
      · simp [Array.getElem?_eq_none hl] at h1
    have hjz : j ≠ z := fun h => by
      subst h
      obtain ⟨e, he, hb, hon⟩ := hzi oj hoj
      exact hno e he hb hon
    have key := wpOp_putIf hoj (hf j oj hoj hji hju hno) (fun cs b => hsel i oi cs b hi) (fun cs b => hsel j oj cs b hoj) (fun c a w h => absurd h (hQ c _ w)) hy (H.2 j (ready_mono hj hji))
    refine wpOp_mono (fun a' w' h3 => ?_) key
    have hz1 : (L.setIfInBounds j true).getD z false = false := by rw [getD_set_ne false hjz]; exact hz
    have hz2 : ((L.setIfInBounds i true).setIfInBounds j true).getD z false = false := by rw [getD_set_ne false hjz, getD_set_ne false (Ne.symm hne)]; exact hz
    have hS' : S w' := h3.2.1.resolve_left (by rw [hz2]; simp)
    refine ⟨Or.inr hS', ih _ a' w' (fun k ok hk hki hku hkn => hf k ok hk hki ?_ hkn) (ready_mono hr (Ne.symm hji)) h3.1 hS' hz1 ?_⟩
    · rcases Classical.em (j = k) with rfl | hjk
      · exact hju
      · rw [getD_set_ne true hjk] at hku; exact hku
    · rw [Array.setIfInBounds_comm _ _ hji]; exact h3.2.2
end
/-- z waits for i, as a test. -/
def waitsB (l : List Oper) (z i : Nat) : Bool := !(Nat.beq z i) && (match nthO l z with | some o => o.after.toList.any (fun e => Region.binds .any e && Nat.beq e.on i) | none => true)
structure DG (P : Program) (n : Nat) (l : List Oper) (S : World → Prop) (z : Nat) (fuel : Nat) (listed : Array Bool) (e : Env) (w : World) (K : Env → World → Prop) : Prop where
  out : ∀ (a : Act) (Q : Exit → Act → World → Prop), Rep n a e → (listed.getD z false = true ∨ S w) → (∀ c a w, ¬ Q (.panic c) a w) → (∀ a' e' w', Rep n a' e' → (∀ t, t ∉ dstsL l → e' t = e t) → K e' w' → Q .normal a' w') →
    anyZ P l.toArray Q S z fuel listed a w
section
variable {P : Program} {n : Nat} {e : Env} {w : World} {l : List Oper} {S : World → Prop} {z fuel : Nat} {listed : Array Bool} {K : Env → World → Prop}
theorem DG.take {o : Oper} {v : Value} (i : Nat) (hi : nthO l i = some o) (hs : Region.noSelect l.toArray = true) (hf : Region.free .any l.toArray listed i = true) (hr : (Region.ready .any l.toArray listed).contains i = true) (hz : waitsB l z i = true) (hzl : listed.getD z false = false)
    (hg : wantB l e o.guard = true) (hd : ltB n o.dst = true) (h : ∀ w, S w → Y P e o w v) (k : DG P n l S z fuel (listed.setIfInBounds i true) (put e o.dst v) w K) : DG P n l S z (fuel + 1) listed e w K := by
  rw [nthO_eq] at hi
  unfold waitsB at hz
  rw [nthO_eq] at hz
  simp only [Bool.and_eq_true, Bool.not_eq_true'] at hz
  refine ⟨fun a Q ha hw hnp hq => ?_⟩
  have hS : S w := hw.resolve_left (by rw [hzl]; simp)
  refine anyZ_first (oi := o) (v := v) (by simpa using hi) (Region.noSelect_spec hs) hnp (fun oz hoz => ?_) (fun h => by rw [h, Nat.beq_refl] at hz; cases hz.1) fuel listed a w (Region.free_spec (by simpa using hi) hf) (by simpa using hr) (Or.inl ⟨by rw [wantB_eq ha, hg], fun w' hw' => by rw [ha.eval]; exact h w' hw'⟩) hS hzl
    (k.out _ Q (ha.put o.dst v (ltB_spec hd)) (Or.inr hS) hnp (fun a' e' w' h1 h2 h4 => hq a' e' w' h1 (fun t ht => ?_) h4))
  · have h2 := hz.2
    have hoz' : l[z]? = some oz := by simpa using hoz
    rw [hoz'] at h2
    obtain ⟨e, he, hb⟩ := List.any_eq_true.1 h2
    simp only [Bool.and_eq_true] at hb
    exact ⟨e, by simpa using he, hb.1, Nat.eq_of_beq_eq_true hb.2⟩
  · rw [h2 t ht, put_other hi ht]
/-- Whichever of rs comes next. -/
theorem DG.pick (rs : List Nat) (hr : Region.ready .any l.toArray listed = rs) (hne : rs ≠ [])
    (h : ∀ i ∈ rs, ∃ o, nthO l i = some o ∧ DL P n l [o] e w (fun e' w' => ((listed.setIfInBounds i true).getD z false = true ∨ S w') ∧ DG P n l S z fuel (listed.setIfInBounds i true) e' w' K)) : DG P n l S z (fuel + 1) listed e w K := by
  refine ⟨fun a Q ha hw hnp hq => ⟨fun h0 => absurd (hr ▸ h0) hne, fun i hi => ?_⟩⟩
  obtain ⟨o, ho, hd⟩ := h i (hr ▸ hi)
  rw [nthO_eq] at ho
  unfold wpOp
  have hi' : l.toArray[i]? = some o := by simpa using ho
  simp only [hi']
  have := hd.out a (fun x a' w' => match x with | .normal => ((listed.setIfInBounds i true).getD z false = true ∨ S w') ∧ anyZ P l.toArray Q S z fuel (listed.setIfInBounds i true) a' w' | x => Q x a' w') ha (fun a' e' w' h1 h2 h3 =>
    ⟨h3.1, h3.2.out a' Q h1 h3.1 hnp (fun a2 e2 w2 k1 k2 k4 => hq a2 e2 w2 k1 (fun t ht => by
      rw [k2 t ht]
      refine h2 t (fun hm => ht ?_)
      unfold dstsL at hm
      cases hod : o.dst with
      | none => rw [hod] at hm; simp [dstsL] at hm
      | some d => rw [hod] at hm; simp only [dstsL, List.mem_singleton] at hm; rw [hm]; exact dst_mem hod l i ho) k4)⟩)
  unfold wpList at this
  split
  · rename_i hwn
    rw [if_pos hwn] at this
    rcases this with h | h
    · exact Or.inl (wp_imp (fun a' w' h' => by unfold wpList at h'; exact h') (fun c a' w' h' => h') (fun h' => h') h)
    · exact Or.inr h
  · rename_i hwn
    rw [if_neg hwn] at this
    unfold wpList at this
    exact this
theorem DG.done (hr : Region.ready .any l.toArray listed = []) (h : K e w) : DG P n l S z fuel listed e w K :=
  ⟨fun a Q ha hw hnp hq => by
    have := hq a e w ha (fun _ _ => rfl) h
    cases fuel with
    | zero => exact ⟨hr, this⟩
    | succ f => exact ⟨fun _ => this, by rw [hr]; simp⟩⟩
/-- What is common to several orders, said once. -/
theorem DG.with (I : Env → World → Prop) (fuel' : Nat) (listed' : Array Bool) (fin : ∀ e' w', I e' w' → DG P n l S z fuel' listed' e' w' K)
    (h : (∀ (lst : Array Bool) e' w', lst = listed' → I e' w' → DG P n l S z fuel' lst e' w' K) → DG P n l S z fuel listed e w K) : DG P n l S z fuel listed e w K :=
  h (fun lst e' w' hl hi => by subst hl; exact fin e' w' hi)
theorem DC.drawn {id : Nat} {Q : Exit → Env → World → Prop} (S : World → World → Prop) (z : Nat) (hm : P.follows .mixedOrders = true)
    (h : ∀ w', Fr [] w w' → w'.heap.size = w.heap.size → S w' w' ∧ DG P n l (S w') z l.length (Array.replicate l.length false) e w' (fun e2 w2 => Q .normal e2 w2)) : DC P n (.region id l.toArray true) e w Q := by
  refine ⟨fun a ha => wp_region_noPanic (wp_region_any hm (wpAny_of_Z (S := S { w with drawn := w.drawn + 1 }) (z := z) _ _ _ _ ?_))⟩
  obtain ⟨hS, hD⟩ := h _ (Fr.drawn w (w.drawn + 1)) rfl
  have := hD.out a (NoPanic fun x a' w' => ∃ e', Rep n a' e' ∧ (∀ t, t ∉ dstsC (.region id l.toArray true) → e' t = e t) ∧ Q x e' w') ha (Or.inr hS) (fun c a w h => h) (fun a' e' w' h1 h2 h3 =>
    (show ∃ e', Rep n a' e' ∧ (∀ t, t ∉ dstsC (.region id l.toArray true) → e' t = e t) ∧ Q .normal e' w' from ⟨e', h1, fun t ht => h2 t (by simpa [dstsC] using ht), h3⟩))
  simpa using this
end
end Go.Proofs.YtmbleojlnaofjaaDoor.D
