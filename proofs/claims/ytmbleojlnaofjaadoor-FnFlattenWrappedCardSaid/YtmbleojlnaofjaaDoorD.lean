/- A small calculus for walks: environments are functions from slots to values, each operation has one law, a loop has one law; nothing of a program stands in it. -/
import Derived.Test.YtmbleojlnaofjaaDoorRows
import Derived.WalkKit
import Derived.Deep.Quiet
import Derived.Deep.LoopGhost
namespace Go.Proofs.YtmbleojlnaofjaaDoor.D
open Go Go.RowKit
set_option linter.unusedVariables false
set_option linter.unusedSectionVars false

/-! ### Environments -/
abbrev Env := Nat → Value
def upd (e : Env) (d : Nat) (v : Value) : Env := fun t => cond (Nat.beq t d) v (e t)
def put (e : Env) : Option Nat → Value → Env
  | some d, v => upd e d v
  | none, _ => e
def ev (e : Env) : Operand → Value
  | .tmp t => e t
  | .const v => v
  | .global g => .pointer (some ⟨g, 0, none⟩)
  | .func f => .func (.func f) #[] #[]
def inR : List (Nat × Nat) → Nat → Bool
  | [], _ => false
  | (lo, hi) :: r, t => cond (Nat.ble lo t) (cond (Nat.ble t hi) true (inR r t)) (inR r t)
def mix (W : List (Nat × Nat)) (j e : Env) : Env := fun t => cond (inR W t) (j t) (e t)
def updL (e : Env) : List (Nat × Value) → Env
  | [] => e
  | p :: r => upd (updL e r) p.1 p.2
def AllEq (e : Env) : List (Nat × Value) → Prop
  | [] => True
  | [p] => e p.1 = p.2
  | p :: q :: r => e p.1 = p.2 ∧ AllEq e (q :: r)
def nthV : List Value → Nat → Value
  | [], _ => undef
  | v :: _, 0 => v
  | _ :: r, t + 1 => nthV r t

theorem upd_same (e : Env) (d : Nat) (v : Value) : upd e d v d = v := by simp [upd]
theorem upd_ne (e : Env) {d t : Nat} (v : Value) (h : t ≠ d) : upd e d v t = e t := by
  have : Nat.beq t d = false := by rw [← Bool.not_eq_true]; intro h'; exact h (Nat.eq_of_beq_eq_true h')
  simp [upd, this]
theorem AllEq.mem {e : Env} : ∀ {l : List (Nat × Value)}, AllEq e l → ∀ p ∈ l, e p.1 = p.2
  | [], _, p, h => by cases h
  | [q], h, p, hp => by rcases List.mem_cons.1 hp with rfl | h'; exact h; cases h'
  | q :: q' :: r, h, p, hp => by
    rcases List.mem_cons.1 hp with rfl | h'
    · exact h.1
    · exact AllEq.mem h.2 p h'
theorem updL_same {e : Env} : ∀ {l : List (Nat × Value)}, AllEq e l → updL e l = e
  | [], _ => rfl
  | p :: r, h => by
    have hr : updL e r = e := updL_same (by cases r with | nil => trivial | cons q r => exact h.2)
    funext t
    simp only [updL, hr]
    by_cases ht : t = p.1
    · subst ht; rw [upd_same]; exact (h.mem p (by simp)).symm
    · rw [upd_ne _ _ ht]
theorem mix_of {W : List (Nat × Nat)} {e e' : Env} (h : ∀ t, inR W t = false → e' t = e t) : mix W e' e = e' := by
  funext t
  unfold mix
  cases hw : inR W t with
  | true => rfl
  | false => exact (h t hw).symm

structure Rep (n : Nat) (a : Act) (e : Env) : Prop where
  defers : a.defers = []
  size : a.tmps.size = n
  get : ∀ t, a.tmps.getD t undef = e t
theorem Rep.eval {n : Nat} {a : Act} {e : Env} (h : Rep n a e) : a.eval = ev e := by
  funext x; cases x <;> simp [Act.eval, ev, h.get]
theorem Rep.put {n : Nat} {a : Act} {e : Env} (h : Rep n a e) (d : Option Nat) (v : Value) (hd : ∀ x, d = some x → x < n) : Rep n (a.put d v) (put e d v) := by
  cases d with
  | none => exact h
  | some d =>
    have hd := hd d rfl
    refine ⟨h.defers, by simp [Act.put, h.size], fun t => ?_⟩
    have ht := h.get t
    simp only [Act.put, D.put]
    by_cases htd : t = d
    · subst htd; rw [upd_same, Array.getD_eq_getD_getElem?]; simp [h.size, hd]
    · rw [upd_ne _ _ htd, ← ht, Array.getD_eq_getD_getElem?, Array.getD_eq_getD_getElem?, Array.getElem?_setIfInBounds_ne (Ne.symm htd)]
def ltB (n : Nat) : Option Nat → Bool
  | none => true
  | some d => Nat.blt d n
theorem ltB_spec {n : Nat} {d : Option Nat} (h : ltB n d = true) : ∀ x, d = some x → x < n := by
  intro x hx; subst hx
  have := Nat.le_of_ble_eq_true h
  omega

/-! ### Worlds -/
/-- All blocks but those of S are as they were; blocks may have come; nothing else has turned. -/
structure Fr (S : List Nat) (w w' : World) : Prop where
  os : w'.os = w.os
  tape : w'.tape = w.tape
  output : w'.output = w.output
  size : w.heap.size ≤ w'.heap.size
  block : ∀ i, i < w.heap.size → i ∉ S → w'.heap[i]? = w.heap[i]?
theorem Fr.refl (S : List Nat) (w : World) : Fr S w w := ⟨rfl, rfl, rfl, Nat.le_refl _, fun _ _ _ => rfl⟩
theorem Fr.trans {S T U : List Nat} {a b c : World} (h : Fr S a b) (k : Fr T b c) (hs : ∀ i ∈ S, i < a.heap.size → i ∈ U) (ht : ∀ i ∈ T, i < a.heap.size → i ∈ U) : Fr U a c :=
  ⟨k.os.trans h.os, k.tape.trans h.tape, k.output.trans h.output, Nat.le_trans h.size k.size, fun i hi hu =>
    (k.block i (Nat.lt_of_lt_of_le hi h.size) (fun hT => hu (ht i hT hi))).trans (h.block i hi (fun hS => hu (hs i hS hi)))⟩
theorem Fr.tr {S : List Nat} {a b c : World} (h : Fr S a b) (k : Fr S b c) : Fr S a c := h.trans k (fun _ h _ => h) (fun _ h _ => h)
theorem Fr.tr0 {S : List Nat} {a b c : World} (h : Fr S a b) (k : Fr [] b c) : Fr S a c := h.trans k (fun _ h _ => h) (fun _ h _ => by cases h)
theorem Fr.of0 {S : List Nat} {a b c : World} (h : Fr [] a b) (k : Fr S b c) : Fr S a c := h.trans k (fun _ h _ => by cases h) (fun _ h _ => h)
/-- What is written lies behind a's end. -/
theorem Fr.new {S : List Nat} {a b c : World} (h : Fr [] a b) (k : Fr S b c) (hs : ∀ i ∈ S, a.heap.size ≤ i) : Fr [] a c :=
  h.trans k (fun _ h _ => by cases h) (fun i h hi => absurd (hs i h) (by omega))
theorem Fr.new1 {b : Nat} {w0 w1 w2 : World} (h : Fr [] w0 w1) (k : Fr [b] w1 w2) (hb : w0.heap.size ≤ b) : Fr [] w0 w2 :=
  h.new k (fun i hi => by rcases List.mem_singleton.1 hi with rfl; exact hb)
/-- A step that writes blocks of which each is one of S or lies behind a's end. -/
theorem Fr.put {S T : List Nat} {a b c : World} (h : Fr S a b) (k : Fr T b c) (ht : ∀ i ∈ T, i ∈ S ∨ a.heap.size ≤ i) : Fr S a c :=
  h.trans k (fun _ h _ => h) (fun i hi hl => (ht i hi).resolve_right (by omega))
theorem Fr.putN {S : List Nat} {d : Nat} {a b c : World} (h : Fr S a b) (k : Fr [d] b c) (hd : a.heap.size ≤ d) : Fr S a c :=
  h.put k (fun i hi => by rcases List.mem_singleton.1 hi with rfl; exact Or.inr hd)
theorem Fr.blk {S : List Nat} {w w' : World} (h : Fr S w w') {b : Nat} {o : Obj} (hb : w.heap[b]? = some o) (hs : b ∉ S) : w'.heap[b]? = some o := by
  rw [h.block b (Array.getElem?_eq_some_iff.1 hb).1 hs]; exact hb
theorem Fr.blk0 {w w' : World} (h : Fr [] w w') {b : Nat} {o : Obj} (hb : w.heap[b]? = some o) : w'.heap[b]? = some o := h.blk hb (by simp)
theorem Fr.blk1 {c : Nat} {w w' : World} (h : Fr [c] w w') {b : Nat} {o : Obj} (hb : w.heap[b]? = some o) (hs : b ≠ c) : w'.heap[b]? = some o := h.blk hb (by simpa using hs)
theorem Fr.below {w w' : World} (h : Fr [] w w') : Below w.heap.size w w' := ⟨h.os, h.tape, h.output, h.size, fun k hk => h.block k hk (by simp)⟩
theorem Fr.ofBelow {w w' : World} (h : Below w.heap.size w w') : Fr [] w w' := ⟨h.os, h.tape, h.output, h.size, fun k hk _ => h.block k hk⟩
theorem Fr.drawn (w : World) (n : Nat) : Fr [] w { w with drawn := n } := ⟨rfl, rfl, rfl, Nat.le_refl _, fun _ _ _ => rfl⟩
theorem lt_of_blk {w : World} {b : Nat} {o : Obj} (hb : w.heap[b]? = some o) : b < w.heap.size := (Array.getElem?_eq_some_iff.1 hb).1
theorem cell_of_blk {w : World} {b o : Nat} {cs : Array Value} {t : TypeId} {fr : Nat × Nat} {v : Value} (hb : w.heap[b]? = some (.cells cs t fr)) (hc : cs[o]? = some v) : w.cell? ⟨b, o, none⟩ = some v := by
  simp [World.cell?, hb, hc]
theorem Fr.cell {S : List Nat} {w w' : World} (h : Fr S w w') {b o : Nat} {v : Value} (hc : w.cell? ⟨b, o, none⟩ = some v) (hs : b ∉ S) : w'.cell? ⟨b, o, none⟩ = some v := by
  have hb : b < w.heap.size := World.block_lt_of_cell? w _ hc
  rw [← hc]
  simp only [World.cell?]
  rw [h.block b hb hs]
theorem fr_alloc (w : World) (o : Obj) : Fr [] w { w with heap := w.heap.push o } :=
  ⟨rfl, rfl, rfl, by simp, fun i hi _ => by simp [Array.getElem?_push, Nat.ne_of_lt hi]⟩
theorem blk_alloc (w : World) (o : Obj) : ({ w with heap := w.heap.push o } : World).heap[w.heap.size]? = some o := by simp
theorem fr_setCell (w : World) (a : Addr) (v : Value) : Fr [a.block] w (w.setCell a v) :=
  ⟨rfl, rfl, rfl, by simp [World.setCell], fun i _ hs => Below.heap_setCell _ _ _ _ (by simpa using hs)⟩
theorem blk_setCell {w : World} {b o : Nat} {cs : Array Value} {t : TypeId} {fr : Nat × Nat} (v : Value) (hb : w.heap[b]? = some (.cells cs t fr)) :
    (w.setCell ⟨b, o, none⟩ v).heap[b]? = some (.cells (cs.setIfInBounds o v) t fr) := by
  simp [World.setCell, Array.getElem?_modify, hb]

/-! ### The judgements -/
def dstsL : List Oper → List Nat
  | [] => []
  | o :: r => match o.dst with | some d => d :: dstsL r | none => dstsL r
def dstsC : Code → List Nat
  | .region _ ops _ => dstsL ops.toList
  | .seq a b => dstsC a ++ dstsC b
  | .cond _ a b => dstsC a ++ dstsC b
  | .block _ b => dstsC b
  | .loop b => dstsC b
  | .scope b => dstsC b
  | _ => []
def nthO : List Oper → Nat → Option Oper
  | [], _ => none
  | o :: _, 0 => some o
  | _ :: r, j + 1 => nthO r j
theorem nthO_eq : ∀ (l : List Oper) (j : Nat), nthO l j = l[j]?
  | [], _ => by simp [nthO]
  | _ :: _, 0 => by simp [nthO]
  | _ :: r, j + 1 => by simp [nthO, nthO_eq r j]
def yieldE (ops : List Oper) (e : Env) (j : Nat) : Option Bool :=
  match nthO ops j with
  | some o => (match o.dst with
    | some t => (match e t with | .bool b => some b | _ => none)
    | none => none)
  | none => none
def wantB (ops : List Oper) (e : Env) : Option (Nat × Bool) → Bool
  | none => true
  | some (j, b) => (match yieldE ops e j with | some true => b | some false => !b | none => false)
theorem wantB_eq {n : Nat} {ops : List Oper} {a : Act} {e : Env} (h : Rep n a e) (o : Oper) : Region.wanted o (yielded ops.toArray a.tmps) = wantB ops e o.guard := by
  unfold Region.wanted wantB
  cases hg : o.guard with
  | none => rfl
  | some g =>
    obtain ⟨j, b⟩ := g
    have : yielded ops.toArray a.tmps j = yieldE ops e j := by
      unfold yielded yieldE
      simp only [nthO_eq, List.getElem?_toArray]
      cases ops[j]? with
      | none => rfl
      | some o' =>
        simp only [Option.bind_some]
        cases o'.dst with
        | none => rfl
        | some t =>
          simp only [Option.bind_some]
          rw [← h.get t, Array.getD_eq_getD_getElem?]
          cases a.tmps[t]? with
          | none => rfl
          | some v => cases v <;> rfl
    simp only [this]
    cases yieldE ops e j with
    | none => rfl
    | some c => cases c <;> cases b <;> rfl

section
variable (P : Program) (n : Nat)
structure DL (ops l : List Oper) (e : Env) (w : World) (K : Env → World → Prop) : Prop where
  out : ∀ (a : Act) (Q : Exit → Act → World → Prop), Rep n a e → (∀ a' e' w', Rep n a' e' → (∀ t, t ∉ dstsL l → e' t = e t) → K e' w' → Q .normal a' w') → wpList P ops.toArray Q l a w
structure DC (c : Code) (e : Env) (w : World) (Q : Exit → Env → World → Prop) : Prop where
  out : ∀ a : Act, Rep n a e → c.wp P (fun x a' w' => ∃ e', Rep n a' e' ∧ (∀ t, t ∉ dstsC c → e' t = e t) ∧ Q x e' w') a w
end

section
variable {P : Program} {n : Nat} {e : Env} {w : World} {Q : Exit → Env → World → Prop}
theorem DC.mono {c : Code} {Q' : Exit → Env → World → Prop} (h : DC P n c e w Q) (hq : ∀ x e' w', (∀ t, t ∉ dstsC c → e' t = e t) → Q x e' w' → Q' x e' w') : DC P n c e w Q' :=
  ⟨fun a ha => wp_mono (h.out a ha) fun x a' w' ⟨e', h1, h2, h3⟩ => ⟨e', h1, h2, hq _ _ _ h2 h3⟩⟩
theorem DC.skip (h : Q .normal e w) : DC P n .skip e w Q := ⟨fun a ha => wp_skip ⟨e, ha, fun _ _ => rfl, h⟩⟩
theorem DC.exit {id : Nat} (h : Q (.exit id) e w) : DC P n (.exit id) e w Q := ⟨fun a ha => wp_exit ⟨e, ha, fun _ _ => rfl, h⟩⟩
theorem DC.ret (h : Q .ret e w) : DC P n .ret e w Q := ⟨fun a ha => wp_ret ⟨e, ha, fun _ _ => rfl, h⟩⟩
def thenQ (N : Env → World → Prop) (Q : Exit → Env → World → Prop) : Exit → Env → World → Prop
  | .normal, e, w => N e w
  | x, e, w => Q x e w
theorem DC.seq {x y : Code} (h : DC P n x e w (thenQ (fun e' w' => DC P n y e' w' Q) Q)) : DC P n (.seq x y) e w Q := by
  refine ⟨fun a ha => ?_⟩
  refine wp_seq (wp_mono (h.out a ha) ?_)
  rintro ex a' w' ⟨e', h1, h2, h3⟩
  have hsub : ∀ t, t ∉ dstsC (.seq x y) → e' t = e t := fun t ht => h2 t (fun hx => ht (by simp [dstsC, hx]))
  cases ex with
  | normal =>
    refine wp_mono (h3.out a' h1) ?_
    rintro ex2 a2 w2 ⟨e2, k1, k2, k3⟩
    exact ⟨e2, k1, fun t ht => (k2 t (fun hy => ht (by simp [dstsC, hy]))).trans (hsub t ht), k3⟩
  | _ => exact ⟨e', h1, hsub, h3⟩
theorem DC.condT {c : Operand} {x y : Code} (hc : ev e c = .bool true) (h : DC P n x e w Q) : DC P n (.cond c x y) e w Q := by
  refine ⟨fun a ha => ?_⟩
  refine wp_cond (t := true) (by rw [ha.eval]; exact hc) (wp_mono (h.out a ha) ?_)
  rintro ex a' w' ⟨e', h1, h2, h3⟩
  exact ⟨e', h1, fun t ht => h2 t (fun hx => ht (by simp [dstsC, hx])), h3⟩
theorem DC.condF {c : Operand} {x y : Code} (hc : ev e c = .bool false) (h : DC P n y e w Q) : DC P n (.cond c x y) e w Q := by
  refine ⟨fun a ha => ?_⟩
  refine wp_cond (t := false) (by rw [ha.eval]; exact hc) (wp_mono (h.out a ha) ?_)
  rintro ex a' w' ⟨e', h1, h2, h3⟩
  exact ⟨e', h1, fun t ht => h2 t (fun hx => ht (by simp [dstsC, hx])), h3⟩
theorem DC.cond {c : Operand} {x y : Code} {b : Bool} (hc : ev e c = .bool b) (ht : b = true → DC P n x e w Q) (hf : b = false → DC P n y e w Q) : DC P n (.cond c x y) e w Q := by
  cases b with
  | true => exact DC.condT hc (ht rfl)
  | false => exact DC.condF hc (hf rfl)
def blockQ (id : Nat) (Q : Exit → Env → World → Prop) : Exit → Env → World → Prop
  | .exit i, e, w => cond (Nat.beq i id) (Q .normal e w) (Q (.exit i) e w)
  | x, e, w => Q x e w
theorem DC.block {id : Nat} {c : Code} (h : DC P n c e w (blockQ id Q)) : DC P n (.block id c) e w Q := by
  refine ⟨fun a ha => ?_⟩
  refine wp_block (wp_mono (h.out a ha) ?_)
  rintro ex a' w' ⟨e', h1, h2, h3⟩
  cases ex with
  | exit i =>
    simp only [Exit.inBlock]
    by_cases hi : i = id
    · rw [if_pos hi]
      have : Nat.beq i id = true := by rw [hi]; exact Nat.beq_refl _
      simp only [blockQ, this, cond_true] at h3
      exact ⟨e', h1, h2, h3⟩
    · rw [if_neg hi]
      have : Nat.beq i id = false := by rw [← Bool.not_eq_true]; intro h'; exact hi (Nat.eq_of_beq_eq_true h')
      simp only [blockQ, this, cond_false] at h3
      exact ⟨e', h1, h2, h3⟩
  | _ => exact ⟨e', h1, h2, h3⟩
theorem DC.region {id : Nat} {l : List Oper} (h : DL P n l l e w (fun e' w' => Q .normal e' w')) : DC P n (.region id l.toArray false) e w Q := by
  refine ⟨fun a ha => ?_⟩
  refine wp_region_lit (h.out a _ ha ?_)
  intro a' e' w' h1 h2 h3
  exact ⟨e', h1, fun t ht => h2 t (by simpa [dstsC] using ht), h3⟩
/-- A loop: the slots W that its round may write, what of them is known (F), what holds (I), what falls (μ). -/
theorem DC.loop {body : Code} {σ : Type} (W : List (Nat × Nat)) (F : σ → List (Nat × Value)) (I : σ → World → Prop) (μ : σ → Nat) (s0 : σ)
    (hW : (dstsC body).all (inR W) = true) (h0 : AllEq e (F s0)) (hI : I s0 w)
    (round : ∀ (s : σ) (j : Env) (w1 : World), I s w1 → DC P n body (updL (mix W j e) (F s)) w1 (thenQ (fun e' w' => ∃ s', I s' w' ∧ μ s' < μ s ∧ AllEq e' (F s')) Q)) :
    DC P n (.loop body) e w Q := by
  have hW' : ∀ t, inR W t = false → t ∉ dstsC body := fun t ht hm => by
    have := List.all_eq_true.1 hW t hm
    rw [ht] at this; cases this
  refine ⟨fun a ha => ?_⟩
  refine wp_loop_ghost (fun m a' w' => ∃ s e', μ s = m ∧ Rep n a' e' ∧ (∀ t, t ∉ dstsC body → e' t = e t) ∧ AllEq e' (F s) ∧ I s w') (μ s0) ⟨s0, e, rfl, ha, fun _ _ => rfl, h0, hI⟩ ?_
  rintro m a' w' ⟨s, e', hm, hr, hag, heq, hi⟩
  have he : updL (mix W e' e) (F s) = e' := by
    have : mix W e' e = e' := mix_of (fun t ht => hag t (hW' t ht))
    rw [this]; exact updL_same heq
  have hb := round s e' w' hi
  rw [he] at hb
  refine wp_mono (hb.out a' hr) ?_
  rintro ex a2 w2 ⟨e2, k1, k2, k3⟩
  have hag2 : ∀ t, t ∉ dstsC body → e2 t = e t := fun t ht => (k2 t ht).trans (hag t ht)
  cases ex with
  | normal =>
    obtain ⟨s', i1, i2, i3⟩ := k3
    exact ⟨μ s', by omega, s', e2, rfl, k1, hag2, i3, i1⟩
  | _ => exact ⟨e2, k1, hag2, k3⟩
end
end Go.Proofs.YtmbleojlnaofjaaDoor.D
